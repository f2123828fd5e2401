/-
  THE WALKS of lists.block (the one block that can hold an identity) and of Table.sortedLists.
-/
import Derived.Test.Qxb6612367aSearch
import Derived.Deep.RegionWith
namespace Go.Proofs.Qxb6612367a
open Go.RowKit
/-- The slice that 'block' hands back. -/
def blockOf (ge n cap after : Nat) : Value := if after = 0 then .slice none 0 0 else .slice (some ⟨ge, (after - 1) * 128, none⟩) (min ((after - 1) * 128 + 128) n - (after - 1) * 128) (cap - (after - 1) * 128)
def After (fb : Nat → Int) (m : Nat) (t : Int) (k : Nat) : Prop := k ≤ m ∧ (0 < k → fb (k - 1) ≤ t) ∧ (k < m → t < fb k)
theorem after_of (fb : Nat → Int) (m : Nat) (t : Int) (i : Nat) (hs : ∀ j, j + 1 < m → fb j < fb (j + 1)) (h : Found fb m t i) : After fb m t (if decide (i < m) && fb i == t then i + 1 else i) := by
  obtain ⟨h1, h2, h3⟩ := h
  by_cases hi : i < m
  · cases hb : (fb i == t)
    · have hne : fb i ≠ t := by simpa using hb
      have := h3 hi
      simp only [hi, decide_true, Bool.and_false, Bool.false_eq_true, if_false]
      exact ⟨h1, fun h => Int.le_of_lt (h2 h), fun _ => by omega⟩
    · have he : fb i = t := by simpa using hb
      simp only [hi, decide_true, Bool.and_true, if_true]
      exact ⟨hi, fun _ => by simp [he], fun h => by have := hs i h; omega⟩
  · simp only [hi, decide_false, Bool.false_and, Bool.false_eq_true, if_false]
    exact ⟨h1, fun h => Int.le_of_lt (h2 h), fun h => absurd h hi⟩
theorem blockOf_eq (ge n cap k o L C : Nat) (hk : k ≠ 0) (h1 : o = (k - 1) * 128) (h2 : L = min ((k - 1) * 128 + 128) n - (k - 1) * 128) (h3 : C = cap - (k - 1) * 128) : Ending.returned (.slice (some ⟨ge, o, none⟩) L C) = .returned (blockOf ge n cap k) := by
  unfold blockOf
  rw [if_neg hk, h1, h2, h3]
set_option maxRecDepth 20000 in
set_option maxHeartbeats 400000 in
theorem block17 (gb ge m capb n cape : Nat) (fb : Nat → Int) (t : Int) (w : World) (hbig : n ≤ 1048576) (hcap : n ≤ cape) (hm : m ≤ 1048576) (hmn : ∀ k, 0 < k → k ≤ m → (k - 1) * 128 < n) (hs : ∀ j, j + 1 < m → fb j < fb (j + 1)) (hc : ∀ j, j < m → w.cell? ⟨gb, 0 + j, none⟩ = some (.int .u64 (fb j))) :
    Calls Try.prog 17 #[.slice (some ⟨gb, 0, none⟩) m capb, .slice (some ⟨ge, 0, none⟩) n cape, .int .u64 t] w fun e w' => ∃ k : Nat, After fb m t k ∧ e = .returned (blockOf ge n cape k) ∧ w = w' := by
  go_enter Try.func17, Try.ntmps17
  go_wp2_with fail
  refine (search19 gb 0 m capb fb t _ hm hc).mono ?_
  rintro _ _ ⟨i, rfl, hf, rfl⟩
  have HA : Hid _ := after_of fb m t i hs hf
  have hi0 := hf.1
  clear hf hc hs
  generalize hd : (decide (i < m) && fb i == t) = d at *
  cases d
  · simp only [Bool.false_eq_true, if_false] at HA
    by_cases h0 : i = 0
    · subst h0
      go_wp2
      go_ret
      exact ⟨0, HA.out, rfl, rfl⟩
    · have hk := hmn i (by omega) hi0
      clear hmn hd
      go_wp2
      all_goals
        go_ret
        exact ⟨i, HA.out, blockOf_eq _ _ _ _ _ _ _ h0 (by omega) (by omega) (by omega), rfl⟩
  · simp only [if_true] at HA
    have hi1 : i < m := HA.out.1
    have hk : i * 128 < n := by simpa using hmn (i + 1) (by omega) hi1
    clear hi0
    clear hmn hd
    have hi2 : i < 1048576 := by omega
    clear hi1
    go_wp2
    all_goals
      go_ret
      exact ⟨i + 1, HA.out, blockOf_eq _ _ _ _ _ _ _ (by omega) (by omega) (by omega) (by omega), rfl⟩
/-- No blocks: nothing. -/
theorem block17_nil (v : Value) (t : Int) (w : World) : Calls Try.prog 17 #[.slice none 0 0, v, .int .u64 t] w fun e w' => e = .returned (.slice none 0 0) ∧ w = w' := by
  go_enter Try.func17, Try.ntmps17
  go_wp2
  refine wp_loop_rounds 1 ?_
  rw [rounds_succ]
  go_wp2
  go_ret
  exact ⟨rfl, rfl⟩

/-- The block's length. -/
def blen (n k : Nat) : Nat := if k = 0 then 0 else min ((k - 1) * 128 + 128) n - (k - 1) * 128
/-- The block's entries. -/
def bent (fe : Nat → Int) (k : Nat) : Nat → Int := fun j => fe ((k - 1) * 128 + j)
def hit (fe : Nat → Int) (n : Nat) (t : Int) (k i : Nat) : Bool := decide (i < blen n k) && bent fe k i / 256 == t
/-- What the lookup in the block gives. -/
def sval (fe : Nat → Int) (n : Nat) (t : Int) (k i : Nat) : Int := if hit fe n t k i then low (bent fe k i) else 0
theorem lists18_block (ge n cape : Nat) (fe : Nat → Int) (t : Int) (k : Nat) (w : World) (_hbig : n ≤ 1048576) (hc : ∀ j, j < n → w.cell? ⟨ge, 0 + j, none⟩ = some (.int .u64 (fe j))) :
    Calls Try.prog 18 #[blockOf ge n cape k, .int .u64 t] w fun e w' => ∃ i : Nat, Found (fun j => bent fe k j / 256) (blen n k) t i ∧ e = .returned (.tuple #[.int .u8 (sval fe n t k i), .bool (hit fe n t k i)]) ∧ w = w' := by
  by_cases hk : k = 0
  · subst hk
    exact (lists18_nil t w).mono fun e w' ⟨hw, he⟩ => ⟨0, ⟨by simp [blen], by simp, by simp [blen]⟩, by rw [he]; simp [sval, hit, blen], hw⟩
  · have hb : blockOf ge n cape k = .slice (some ⟨ge, (k - 1) * 128, none⟩) (blen n k) (cape - (k - 1) * 128) := by unfold blockOf blen; rw [if_neg hk, if_neg hk]
    have hl : blen n k = min ((k - 1) * 128 + 128) n - (k - 1) * 128 := by unfold blen; rw [if_neg hk]
    rw [hb]
    refine (lists18 ge ((k - 1) * 128) (blen n k) (cape - (k - 1) * 128) (bent fe k) t w (by omega) (fun j hj => ?_)).mono fun e w' ⟨i, h1, h2, h3⟩ => ⟨i, h1, h3, h2⟩
    have := hc ((k - 1) * 128 + j) (by omega)
    rw [Nat.zero_add] at this
    exact this
def tab (ve vb : Value) (M : Nat) : Array Value := #[ve, vb, .slice none 0 0, .slice none 0 0, .slice none 0 0, .slice none 0 0, .map (some M), .int .i64 0]
set_option maxHeartbeats 400000 in
theorem sorted16 (T M gb ge m capb n cape : Nat) (fb fe : Nat → Int) (t : Int) (w : World) (hT : w.heap[T]? = some (.cells (tab (.slice (some ⟨ge, 0, none⟩) n cape) (.slice (some ⟨gb, 0, none⟩) m capb) M) 55 (0, 0)))
    (hbig : n ≤ 1048576) (hcap : n ≤ cape) (hm : m ≤ 1048576) (hmn : ∀ k, 0 < k → k ≤ m → (k - 1) * 128 < n) (hs : ∀ j, j + 1 < m → fb j < fb (j + 1)) (hcb : ∀ j, j < m → w.cell? ⟨gb, 0 + j, none⟩ = some (.int .u64 (fb j))) (hce : ∀ j, j < n → w.cell? ⟨ge, 0 + j, none⟩ = some (.int .u64 (fe j))) :
    Calls Try.prog 16 #[.pointer (some ⟨T, 0, none⟩), .int .u64 t] w fun e w' => ∃ k i : Nat, After fb m t k ∧ Found (fun j => bent fe k j / 256) (blen n k) t i ∧ e = .returned (.tuple #[.int .u8 (sval fe n t k i), .bool (hit fe n t k i)]) ∧ Below w.heap.size w w' := by
  have c0 : w.cell? ⟨T, 0, none⟩ = some (.slice (some ⟨ge, 0, none⟩) n cape) := by rw [cell_of_row w T _ _ _ _ hT]; rfl
  have c1 : w.cell? ⟨T, 1, none⟩ = some (.slice (some ⟨gb, 0, none⟩) m capb) := by rw [cell_of_row w T _ _ _ _ hT]; rfl
  have HB : Hid _ := hcb
  have HE : Hid _ := hce
  have HS : Hid _ := hs
  have HM : Hid _ := hmn
  clear hcb hce hs hmn hT
  go_enter Try.func16, Try.ntmps16
  go_wp2
  go_region_with (first
    | (go_at_call 17; refine (block17 gb ge m capb n cape fb t _ hbig hcap hm HM.out HS.out ?_).mono ?_; exact HB.out; rintro e w' ⟨k, hA, rfl, rfl⟩; have HA : Hid _ := hA; clear hA)
    | (go_at_call 18; refine (lists18_block ge n cape fe t _ _ hbig ?_).mono ?_; exact HE.out; rintro e w' ⟨i, hI, rfl, rfl⟩; have HI : Hid _ := hI; clear hI))
  all_goals (try go_wp2)
  all_goals go_ret2
  all_goals exact ⟨_, _, HA.out, HI.out, rfl, (Below.refl _ _).drew⟩
set_option maxHeartbeats 400000 in
theorem sorted16_nil (T M : Nat) (t : Int) (w : World) (hT : w.heap[T]? = some (.cells (tab (.slice none 0 0) (.slice none 0 0) M) 55 (0, 0))) :
    Calls Try.prog 16 #[.pointer (some ⟨T, 0, none⟩), .int .u64 t] w fun e w' => e = .returned (.tuple #[.int .u8 0, .bool false]) ∧ Below w.heap.size w w' := by
  have c0 : w.cell? ⟨T, 0, none⟩ = some (.slice none 0 0) := by rw [cell_of_row w T _ _ _ _ hT]; rfl
  have c1 : w.cell? ⟨T, 1, none⟩ = some (.slice none 0 0) := by rw [cell_of_row w T _ _ _ _ hT]; rfl
  clear hT
  go_enter Try.func16, Try.ntmps16
  go_wp2
  go_region_with (first
    | (go_at_call 17; refine (block17_nil _ t _).mono ?_; rintro e w' ⟨rfl, rfl⟩)
    | (go_at_call 18; refine (lists18_nil t _).mono ?_; rintro e w' ⟨rfl, rfl⟩))
  all_goals (try go_wp2)
  all_goals go_ret2
  all_goals exact ⟨rfl, (Below.refl _ _).drew⟩
end Go.Proofs.Qxb6612367a
