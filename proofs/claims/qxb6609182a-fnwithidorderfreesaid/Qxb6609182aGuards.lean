/-
  THE WALKS of the guards, of lawNodeIDs and lawCount, and of the search: cmp.Less, slices.BinarySearch.
-/
import Derived.Test.Qxb6609182aRows
import Derived.WalkKit
import Derived.WalkSpells
import Derived.WalkLawsBesides
import Derived.Deep.QuietTactic
import Derived.BigQuiet
namespace Go.Proofs.Qxb6609182a
open Go.RowKit
/-- A slice of integers as the walks read it: nothing, or cells in a row. -/
def Rd (k : IntKind) (w : World) (a : Option Addr) (len : Nat) (f : Nat → Int) : Prop :=
  len = 0 ∨ ∃ b off, a = some ⟨b, off, none⟩ ∧ b < w.heap.size ∧ ∀ j, j < len → w.cell? ⟨b, off + j, none⟩ = some (.int k (f j))
theorem Rd.below {k : IntKind} {w w' : World} {a : Option Addr} {len : Nat} {f : Nat → Int} (h : Rd k w a len f) (hb : Below w.heap.size w w') : Rd k w' a len f := by
  rcases h with h | ⟨b, off, ha, hl, hc⟩
  · exact .inl h
  · exact .inr ⟨b, off, ha, Nat.lt_of_lt_of_le hl hb.size, fun j hj => (hb.cell (p := ⟨b, off + j, none⟩) hl).trans (hc j hj)⟩
theorem drewN_below {B : Nat} {a w : World} (h : Below B a w) (n : Nat) : Below B a (w.drewN n) := ⟨h.os, h.tape, h.output, h.size, h.block⟩
def GivesB (R : Bool → Prop) (w : World) (e : Ending) (w' : World) : Prop := ∃ b, R b ∧ e = .returned (.bool b) ∧ Below w.heap.size w w'
set_option maxHeartbeats 1000000 in
theorem bytes5 (a : Option Addr) (n c : Nat) (x : Value) (w : World) (hn : n ≤ maxLen) :
    Calls Try.prog 5 #[.slice a n c, x] w fun e w' => GivesB (fun b => b = true → n ≤ 1048576) w e w' := by
  unfold maxLen at hn
  by_cases s0 : 1048576 < n
  · go_enter Try.func5, Try.ntmps5
    go_wp2
    go_ret
    exact ⟨false, (fun h => by cases h), rfl, Below.refl _ _⟩
  · go_enter Try.func5, Try.ntmps5
    go_wp2
    go_ret
    exact ⟨true, fun _ => by omega, rfl, Below.refl _ _⟩
set_option maxHeartbeats 1000000 in
theorem bytes9 (a : Option Addr) (n c : Nat) (x y : Value) (w : World) (hn : n ≤ maxLen) :
    Calls Try.prog 9 #[.slice a n c, x, y] w fun e w' => GivesB (fun b => b = true → n ≤ 1048576) w e w' := by
  unfold maxLen at hn
  by_cases s0 : 1048576 < n
  · go_enter Try.func9, Try.ntmps9
    go_wp2
    go_ret
    exact ⟨false, (fun h => by cases h), rfl, Below.refl _ _⟩
  · go_enter Try.func9, Try.ntmps9
    go_wp2
    go_ret
    exact ⟨true, fun _ => by omega, rfl, Below.refl _ _⟩
/-- In nondecreasing order. -/
def Up (f : Nat → Int) (n : Nat) : Prop := ∀ i, i + 1 < n → f i ≤ f (i + 1)
set_option maxHeartbeats 1000000 in
theorem mono6 (a : Option Addr) (n c : Nat) (f : Nat → Int) (w : World) (rd : Rd .u64 w a n f) (hn : n ≤ 1048576) :
    Calls Try.prog 6 #[.slice a n c] w fun e w' => GivesB (fun b => b = true → Up f n) w e w' := by
  have RD : Hid (Rd .u64 w a n f) := rd
  clear rd
  go_enter Try.func6, Try.ntmps6
  go_wp2
  go_loopw [3] (fun i wr => ∃ k : Nat, (k ≤ n ∨ k = 1) ∧ 1 ≤ k ∧ i = .int .i64 k ∧ (∀ i, i + 1 < k → f i ≤ f (i + 1)) ∧ Below w.heap.size w wr) (fun i _ => n - (intOf i).toNat)
  case atStart => exact ⟨1, .inr rfl, Nat.le_refl _, rfl, fun i hi => absurd hi (by omega), Below.refl _ _⟩
  case round =>
    obtain ⟨k, hk, hk1, rfl, hd, hb⟩ := hrel
    have HD : Hid _ := hd
    clear hd
    by_cases hlt : k < n
    · rcases RD.out with h | ⟨b0, off0, rfl, hbl0, hc0⟩
      · omega
      have hcell0 : wr.cell? ⟨b0, off0 + k, none⟩ = some (.int .u64 (f k)) := (hb.cell (p := ⟨b0, off0 + k, none⟩) hbl0).trans (hc0 k hlt)
      have hcell1 : wr.cell? ⟨b0, off0 + (k - 1), none⟩ = some (.int .u64 (f (k - 1))) := (hb.cell (p := ⟨b0, off0 + (k - 1), none⟩) hbl0).trans (hc0 (k - 1) (by omega))
      clear hc0 RD
      by_cases hq : f k < f (k - 1)
      · go_wp2
        go_quiet (fail)
        go_wp2
        go_ret
        exact ⟨false, (fun h => by cases h), rfl, drewN_below hb _⟩
      · have HQ : Hid _ := hq
        go_wp2
        go_quiet (fail)
        go_wp2
        go_roundw
        case rel => exact ⟨k + 1, .inl (by omega), by omega, by go_num, fun i hi => by
          by_cases hik : i + 1 = k
          · have e : k - 1 = i := by omega
            have h := HQ.out
            rw [e, ← hik] at h
            exact Int.not_lt.1 h
          · exact HD.out i (by omega), drewN_below hb _⟩
        case measure => simp [intOf]; omega
    · clear RD
      go_wp2
      go_ret
      exact ⟨true, fun _ i hi => HD.out i (by omega), rfl, hb⟩
/-- How often v stands among the first n. -/
def cnt (f : Nat → Int) (v : Int) : Nat → Nat
  | 0 => 0
  | n + 1 => cnt f v n + (if f n = v then 1 else 0)
theorem cnt_le (f : Nat → Int) (v : Int) (n : Nat) : cnt f v n ≤ n := by
  induction n with
  | zero => exact Nat.le_refl _
  | succ n ih => unfold cnt; split <;> omega
set_option maxHeartbeats 1000000 in
theorem count10 (a : Option Addr) (n c : Nat) (f : Nat → Int) (v : Int) (w : World) (rd : Rd .u64 w a n f) (hn : n ≤ 1048578) :
    Calls Try.prog 10 #[.slice a n c, .int .u64 v] w fun e w' => e = .returned (.int .i64 (cnt f v n)) ∧ w = w' := by
  have RD : Hid (Rd .u64 w a n f) := rd
  clear rd
  go_enter Try.func10, Try.ntmps10
  go_wp2
  go_loop [5, 6] (fun t i => ∃ k : Nat, k ≤ n ∧ i = .int .i64 k ∧ t = .int .i64 (cnt f v k)) (fun _ i => n - (intOf i).toNat)
  case atStart => exact ⟨0, Nat.zero_le _, rfl, rfl⟩
  case round =>
    obtain ⟨k, hk, rfl, rfl⟩ := hrel
    have hle := cnt_le f v k
    by_cases hlt : k < n
    · rcases RD.out with h | ⟨b0, off0, rfl, hbl0, hc0⟩
      · omega
      have hcell := hc0 k hlt
      clear hc0 RD
      by_cases hq : f k = v
      · have hb : (f k == v) = true := by simpa using hq
        have E : Hid (cnt f v (k + 1) = cnt f v k + 1) := by show cnt f v (k + 1) = _; simp [cnt, hq]
        clear hq
        go_wp2
        go_round
        case rel => exact ⟨k + 1, by omega, by go_num, by rw [E.out]; go_num⟩
        case measure => simp [intOf]; omega
      · have hb : (f k == v) = false := by simpa using hq
        have E : Hid (cnt f v (k + 1) = cnt f v k) := by show cnt f v (k + 1) = _; simp [cnt, hq]
        clear hq
        go_wp2
        go_round
        case rel => exact ⟨k + 1, by omega, by go_num, by rw [E.out]⟩
        case measure => simp [intOf]; omega
    · obtain rfl : k = n := by omega
      clear RD
      go_wp2
      go_ret
      exact ⟨rfl, rfl⟩
set_option maxHeartbeats 400000 in
theorem isNaN19 (x : Int) (w : World) : Calls Try.prog 19 #[.int .u64 x] w fun e w' => e = .returned (.bool false) ∧ w = w' := by
  go_enter Try.func19, Try.ntmps19
  go_wp2
  go_ret
  exact ⟨by simp, rfl⟩
set_option maxHeartbeats 400000 in
theorem isNaN16 (x : Int) (w : World) : Calls Try.prog 16 #[.int .u64 x] w fun e w' => e = .returned (.bool false) ∧ w = w' := by
  go_enter Try.func16, Try.ntmps16
  go_wp2
  go_ret
  exact ⟨by simp, rfl⟩
set_option maxHeartbeats 400000 in
theorem less15 (x y : Int) (w : World) : Calls Try.prog 15 #[.int .u64 x, .int .u64 y] w fun e w' => e = .returned (.bool (decide (x < y))) ∧ w = w' := by
  go_enter Try.func15, Try.ntmps15
  go_wp2_with (go_at_call 19; refine (isNaN19 _ _).mono ?_; rintro _ _ ⟨rfl, rfl⟩)
  go_ret
  exact ⟨by simp, rfl⟩
/-- WHAT A BINARY SEARCH LEAVES: the one ahead of i lies below the target, i itself does not. -/
def Found (f : Nat → Int) (n : Nat) (t : Int) (i : Nat) : Prop := i ≤ n ∧ (0 < i → f (i - 1) < t) ∧ (i < n → t ≤ f i)
def GivesI (R : Nat → Prop) (w : World) (e : Ending) (w' : World) : Prop := ∃ (i : Nat) (b : Bool), R i ∧ e = .returned (.tuple #[.int .i64 i, .bool b]) ∧ w = w'
set_option maxHeartbeats 1000000 in
theorem search12 (a : Option Addr) (n c : Nat) (f : Nat → Int) (t : Int) (w : World) (rd : Rd .u64 w a n f) (hn : n ≤ 1048578) :
    Calls Try.prog 12 #[.slice a n c, .int .u64 t] w fun e w' => GivesI (Found f n t) w e w' := by
  have RD : Hid (Rd .u64 w a n f) := rd
  clear rd
  go_enter Try.func12, Try.ntmps12
  go_wp2
  go_loop [7, 8] (fun lo hi => ∃ l h : Nat, l ≤ h ∧ h ≤ n ∧ lo = .int .i64 l ∧ hi = .int .i64 h ∧ (0 < l → f (l - 1) < t) ∧ (h < n → t ≤ f h))
    (fun lo hi => (intOf hi).toNat - (intOf lo).toNat)
  case atStart => exact ⟨0, n, Nat.zero_le _, Nat.le_refl _, rfl, rfl, fun h => absurd h (by omega), fun h => absurd h (by omega)⟩
  case round =>
    obtain ⟨l, h, hlh, hh, rfl, rfl, h1, h2⟩ := hrel
    have H1 : Hid _ := h1
    have H2 : Hid _ := h2
    clear h1 h2
    by_cases hlt : l < h
    · rcases RD.out with h0 | ⟨b0, off0, rfl, hbl0, hc0⟩
      · omega
      have hcell := hc0 ((l + h) / 2) (by omega)
      clear hc0 RD
      by_cases hq : f ((l + h) / 2) < t
      · go_wp2_with (go_at_call 15; refine (less15 _ _ _).mono ?_; rintro _ _ ⟨rfl, rfl⟩)
        go_round
        case rel => exact ⟨(l + h) / 2 + 1, h, by omega, hh, by go_num, rfl, fun _ => by simpa using hq, H2.out⟩
        case measure => simp only [intOf]; omega
      · go_wp2_with (go_at_call 15; refine (less15 _ _ _).mono ?_; rintro _ _ ⟨rfl, rfl⟩)
        go_round
        case rel => exact ⟨l, (l + h) / 2, by omega, by omega, rfl, by go_num, H1.out, fun _ => by omega⟩
        case measure => simp only [intOf]; omega
    · obtain rfl : l = h := by omega
      by_cases hln : l < n
      · rcases RD.out with h0 | ⟨b0, off0, rfl, hbl0, hc0⟩
        · omega
        have hcell := hc0 l hln
        clear hc0 RD
        by_cases hq : f l = t
        · have hd : (f l == t) = true := by simpa using hq
          clear hq
          go_wp2_with (go_at_call 16; refine (isNaN16 _ _).mono ?_; rintro _ _ ⟨rfl, rfl⟩)
          go_ret2
          exact ⟨l, _, ⟨hh, H1.out, H2.out⟩, rfl, rfl⟩
        · have hd : (f l == t) = false := by simpa using hq
          clear hq
          go_wp2_with (go_at_call 16; refine (isNaN16 _ _).mono ?_; rintro _ _ ⟨rfl, rfl⟩)
          go_ret2
          exact ⟨l, _, ⟨hh, H1.out, H2.out⟩, rfl, rfl⟩
      · clear RD
        go_wp2
        go_ret2
        exact ⟨l, _, ⟨hh, H1.out, H2.out⟩, rfl, rfl⟩
end Go.Proofs.Qxb6609182a
