/-
  THE WALKS of the searches: cmp.Less, cmp.Compare, slices.BinarySearch, slices.BinarySearchFunc, entryIndex.search, entryIndex.lists.
-/
import Derived.Test.Qxb6612367aRows
import Derived.WalkKit
import Derived.WalkSpells
import Derived.WalkLawsBesides
import Derived.RegionTactic
import Derived.BigRegion
import Derived.Deep.QuietTactic
import Derived.BigQuiet
namespace Go.Proofs.Qxb6612367a
open Go.RowKit
set_option maxHeartbeats 400000 in
theorem isNaN28 (x : Int) (w : World) : Calls Try.prog 28 #[.int .u64 x] w fun e w' => e = .returned (.bool false) ∧ w = w' := by
  go_enter Try.func28, Try.ntmps28
  go_wp2
  go_ret
  exact ⟨by simp, rfl⟩
set_option maxHeartbeats 400000 in
theorem isNaN23 (x : Int) (w : World) : Calls Try.prog 23 #[.int .u64 x] w fun e w' => e = .returned (.bool false) ∧ w = w' := by
  go_enter Try.func23, Try.ntmps23
  go_wp2
  go_ret
  exact ⟨by simp, rfl⟩
set_option maxHeartbeats 400000 in
theorem less22 (x y : Int) (w : World) : Calls Try.prog 22 #[.int .u64 x, .int .u64 y] w fun e w' => e = .returned (.bool (decide (x < y))) ∧ w = w' := by
  go_enter Try.func22, Try.ntmps22
  go_wp2_with (go_at_call 28; refine (isNaN28 _ _).mono ?_; rintro _ _ ⟨rfl, rfl⟩)
  go_ret
  exact ⟨by simp, rfl⟩
/-- cmp.Compare. -/
def cmpI (x y : Int) : Int := if x < y then -1 else if y < x then 1 else 0
set_option maxHeartbeats 400000 in
theorem cmp26 (x y : Int) (w : World) : Calls Try.prog 26 #[.int .u64 x, .int .u64 y] w fun e w' => e = .returned (.int .i64 (cmpI x y)) ∧ w = w' := by
  unfold cmpI
  by_cases h : x < y
  · rw [if_pos h]
    go_enter Try.func26, Try.ntmps26
    go_wp2_with (go_at_call 28; refine (isNaN28 _ _).mono ?_; rintro _ _ ⟨rfl, rfl⟩)
    go_ret
    exact ⟨rfl, rfl⟩
  · rw [if_neg h]
    by_cases h2 : y < x
    · rw [if_pos h2]
      go_enter Try.func26, Try.ntmps26
      go_wp2_with (go_at_call 28; refine (isNaN28 _ _).mono ?_; rintro _ _ ⟨rfl, rfl⟩)
      go_ret
      exact ⟨rfl, rfl⟩
    · rw [if_neg h2]
      go_enter Try.func26, Try.ntmps26
      go_wp2_with (go_at_call 28; refine (isNaN28 _ _).mono ?_; rintro _ _ ⟨rfl, rfl⟩)
      go_ret
      exact ⟨rfl, rfl⟩
set_option maxHeartbeats 400000 in
theorem ident27 (l : Int) (w : World) : Calls Try.prog 27 #[.int .u64 l] w fun e w' => e = .returned (.int .u64 (l / 256)) ∧ w = w' := by
  go_enter Try.func27, Try.ntmps27
  go_wp2
  go_ret
  exact ⟨rfl, rfl⟩
/-- The lists of an entry's word. -/
def low (l : Int) : Int := bits .and .u64 l 255 % 256
set_option maxHeartbeats 400000 in
theorem lists21 (l : Int) (w : World) : Calls Try.prog 21 #[.int .u64 l] w fun e w' => e = .returned (.int .u8 (low l)) ∧ w = w' := by
  go_enter Try.func21, Try.ntmps21
  go_wp2
  go_ret
  exact ⟨rfl, rfl⟩
set_option maxHeartbeats 400000 in
theorem clos25 (l id : Int) (w : World) : Calls Try.prog 25 #[.int .u64 l, .int .u64 id] w fun e w' => e = .returned (.int .i64 (cmpI (l / 256) id)) ∧ w = w' := by
  go_enter Try.func25, Try.ntmps25
  go_wp2_with (first | (go_at_call 27; refine (ident27 _ _).mono ?_; rintro _ _ ⟨rfl, rfl⟩) | (go_at_call 26; refine (cmp26 _ _ _).mono ?_; rintro _ _ ⟨rfl, rfl⟩))
  go_ret
  exact ⟨rfl, rfl⟩

/-- WHAT A BINARY SEARCH LEAVES: all before i lie below the target (by the one next to it), all from i on do not (by i itself). -/
def Found (f : Nat → Int) (n : Nat) (t : Int) (i : Nat) : Prop := i ≤ n ∧ (0 < i → f (i - 1) < t) ∧ (i < n → t ≤ f i)
set_option maxHeartbeats 400000 in
theorem search19 (b off n cap : Nat) (f : Nat → Int) (t : Int) (w : World) (hbig : n ≤ 1048576) (hc : ∀ j, j < n → w.cell? ⟨b, off + j, none⟩ = some (.int .u64 (f j))) :
    Calls Try.prog 19 #[.slice (some ⟨b, off, none⟩) n cap, .int .u64 t] w fun e w' => ∃ i : Nat, e = .returned (.tuple #[.int .i64 i, .bool (decide (i < n) && f i == t)]) ∧ Found f n t i ∧ w = w' := by
  go_enter Try.func19, Try.ntmps19
  go_wp2
  go_loop [7, 8] (fun lo hi => ∃ l h : Nat, l ≤ h ∧ h ≤ n ∧ lo = .int .i64 l ∧ hi = .int .i64 h ∧ (0 < l → f (l - 1) < t) ∧ (h < n → t ≤ f h))
    (fun lo hi => (intOf hi).toNat - (intOf lo).toNat)
  case atStart => exact ⟨0, n, Nat.zero_le _, Nat.le_refl _, rfl, rfl, fun h => absurd h (by omega), fun h => absurd h (by omega)⟩
  case round =>
    obtain ⟨l, h, hlh, hh, rfl, rfl, h1, h2⟩ := hrel
    have H1 : Hid _ := h1
    have H2 : Hid _ := h2
    clear h1 h2
    by_cases hlt : l < h
    · have hcell := hc ((l + h) / 2) (by omega)
      by_cases hq : f ((l + h) / 2) < t
      · go_wp2_with (go_at_call 22; refine (less22 _ _ _).mono ?_; rintro _ _ ⟨rfl, rfl⟩)
        go_round
        case rel => exact ⟨(l + h) / 2 + 1, h, by omega, hh, by go_num, rfl, fun _ => by simpa using hq, H2.out⟩
        case measure => simp only [intOf]; omega
      · go_wp2_with (go_at_call 22; refine (less22 _ _ _).mono ?_; rintro _ _ ⟨rfl, rfl⟩)
        go_round
        case rel => exact ⟨l, (l + h) / 2, by omega, by omega, rfl, by go_num, H1.out, fun _ => by omega⟩
        case measure => simp only [intOf]; omega
    · obtain rfl : l = h := by omega
      by_cases hln : l < n
      · have hcell := hc l hln
        have ht : t ≤ f l := H2.out hln
        by_cases hq : f l = t
        · have hd : (f l == t) = true := by simpa using hq
          have HQ : Hid _ := hq
          clear hq
          go_wp2_with (go_at_call 23; refine (isNaN23 _ _).mono ?_; rintro _ _ ⟨rfl, rfl⟩)
          go_ret2
          refine ⟨l, ?_, ⟨hh, H1.out, fun _ => ht⟩, rfl⟩
          simp [hln, HQ.out]
        · have hd : (f l == t) = false := by simpa using hq
          go_wp2_with (go_at_call 23; refine (isNaN23 _ _).mono ?_; rintro _ _ ⟨rfl, rfl⟩)
          go_ret2
          refine ⟨l, ?_, ⟨hh, H1.out, fun _ => ht⟩, rfl⟩
          simp [hln, hd]
      · go_wp2
        go_ret2
        refine ⟨l, ?_, ⟨hh, H1.out, fun h => absurd h hln⟩, rfl⟩
        simp [hln]

theorem cmpI_neg (x y : Int) : cmpI x y < 0 ↔ x < y := by unfold cmpI; split <;> (try split) <;> omega
theorem cmpI_zero (x y : Int) : cmpI x y = 0 ↔ x = y := by unfold cmpI; split <;> (try split) <;> omega
set_option maxHeartbeats 400000 in
theorem search24 (b off n cap : Nat) (f : Nat → Int) (t : Int) (w : World) (hbig : n ≤ 1048576) (hc : ∀ j, j < n → w.cell? ⟨b, off + j, none⟩ = some (.int .u64 (f j))) :
    Calls Try.prog 24 #[.slice (some ⟨b, off, none⟩) n cap, .int .u64 t, .func (.func 25) #[] #[]] w fun e w' => ∃ i : Nat, e = .returned (.tuple #[.int .i64 i, .bool (decide (i < n) && f i / 256 == t)]) ∧ Found (fun j => f j / 256) n t i ∧ w = w' := by
  go_enter Try.func24, Try.ntmps24
  go_wp2
  go_loop [9, 10] (fun lo hi => ∃ l h : Nat, l ≤ h ∧ h ≤ n ∧ lo = .int .i64 l ∧ hi = .int .i64 h ∧ (0 < l → f (l - 1) / 256 < t) ∧ (h < n → t ≤ f h / 256))
    (fun lo hi => (intOf hi).toNat - (intOf lo).toNat)
  case atStart => exact ⟨0, n, Nat.zero_le _, Nat.le_refl _, rfl, rfl, fun h => absurd h (by omega), fun h => absurd h (by omega)⟩
  case round =>
    obtain ⟨l, h, hlh, hh, rfl, rfl, h1, h2⟩ := hrel
    have H1 : Hid _ := h1
    have H2 : Hid _ := h2
    clear h1 h2
    by_cases hlt : l < h
    · have hcell := hc ((l + h) / 2) (by omega)
      by_cases hq : f ((l + h) / 2) / 256 < t
      · have hq' := (cmpI_neg _ _).2 hq
        have HQ : Hid _ := hq
        clear hq
        go_wp2_with (go_at_call 25; refine (clos25 _ _ _).mono ?_; rintro _ _ ⟨rfl, rfl⟩)
        go_round
        case rel => exact ⟨(l + h) / 2 + 1, h, by omega, hh, by go_num, rfl, fun _ => by simpa using HQ.out, H2.out⟩
        case measure => simp only [intOf]; omega
      · have hq' : ¬ cmpI (f ((l + h) / 2) / 256) t < 0 := fun h => hq ((cmpI_neg _ _).1 h)
        have HQ : Hid _ := hq
        clear hq
        go_wp2_with (go_at_call 25; refine (clos25 _ _ _).mono ?_; rintro _ _ ⟨rfl, rfl⟩)
        go_round
        case rel => exact ⟨l, (l + h) / 2, by omega, by omega, rfl, by go_num, H1.out, fun _ => Int.not_lt.1 HQ.out⟩
        case measure => simp only [intOf]; omega
    · obtain rfl : l = h := by omega
      by_cases hln : l < n
      · have hcell := hc l hln
        have ht : Hid (t ≤ f l / 256) := H2.out hln
        have hb : (cmpI (f l / 256) t == 0) = (f l / 256 == t) := by
          rw [Bool.eq_iff_iff]; simp [cmpI_zero]
        have HB : Hid _ := hb
        clear hb
        go_wp2_with (go_at_call 25; refine (clos25 _ _ _).mono ?_; rintro _ _ ⟨rfl, rfl⟩)
        go_ret2
        refine ⟨l, ?_, ⟨hh, H1.out, fun _ => ht.out⟩, rfl⟩
        rw [← HB.out]
        simp [hln]
      · go_wp2
        go_ret2
        refine ⟨l, ?_, ⟨hh, H1.out, fun h => absurd h hln⟩, rfl⟩
        simp [hln]
set_option maxHeartbeats 400000 in
theorem search20 (b off n cap : Nat) (f : Nat → Int) (t : Int) (w : World) (hbig : n ≤ 1048576) (hc : ∀ j, j < n → w.cell? ⟨b, off + j, none⟩ = some (.int .u64 (f j))) :
    Calls Try.prog 20 #[.slice (some ⟨b, off, none⟩) n cap, .int .u64 t] w fun e w' => ∃ i : Nat, e = .returned (.tuple #[.int .i64 i, .bool (decide (i < n) && f i / 256 == t)]) ∧ Found (fun j => f j / 256) n t i ∧ w = w' := by
  go_enter Try.func20, Try.ntmps20
  go_wp2_with fail
  refine (search24 b off n cap f t _ hbig hc).mono ?_
  rintro _ _ ⟨i, rfl, hf, rfl⟩
  have HF : Hid _ := hf
  clear hf
  go_wp2
  go_ret2
  exact ⟨i, rfl, HF.out, rfl⟩
/-- The nil slice: nothing is found. -/
theorem search20_nil (t : Int) (w : World) :
    Calls Try.prog 20 #[.slice none 0 0, .int .u64 t] w fun e w' => e = .returned (.tuple #[.int .i64 0, .bool false]) ∧ w = w' := by
  go_enter Try.func20, Try.ntmps20
  go_wp2
  refine wp_loop_rounds 1 ?_
  rw [rounds_succ]
  go_wp2
  go_ret2
  exact ⟨rfl, rfl⟩
set_option maxHeartbeats 400000 in
theorem lists18 (b off n cap : Nat) (f : Nat → Int) (t : Int) (w : World) (hbig : n ≤ 1048576) (hc : ∀ j, j < n → w.cell? ⟨b, off + j, none⟩ = some (.int .u64 (f j))) :
    Calls Try.prog 18 #[.slice (some ⟨b, off, none⟩) n cap, .int .u64 t] w fun e w' => ∃ i : Nat, Found (fun j => f j / 256) n t i ∧ w = w' ∧
      e = .returned (.tuple #[.int .u8 (if decide (i < n) && f i / 256 == t then low (f i) else 0), .bool (decide (i < n) && f i / 256 == t)]) := by
  go_enter Try.func18, Try.ntmps18
  go_wp2_with fail
  refine (search20 b off n cap f t _ hbig hc).mono ?_
  rintro _ _ ⟨i, rfl, hf, rfl⟩
  have HF : Hid _ := hf
  clear hf
  by_cases hi : i < n
  · have hcell := hc i hi
    cases hb : (f i / 256 == t)
    · go_wp2
      go_ret2
      exact ⟨i, HF.out, rfl, by simp [hi, hb]⟩
    · go_wp2_with (go_at_call 21; refine (lists21 _ _).mono ?_; rintro _ _ ⟨rfl, rfl⟩)
      go_ret2
      exact ⟨i, HF.out, rfl, by simp [hi, hb]⟩
  · go_wp2
    go_ret2
    exact ⟨i, HF.out, rfl, by simp [hi]⟩
set_option maxHeartbeats 400000 in
theorem lists18_nil (t : Int) (w : World) :
    Calls Try.prog 18 #[.slice none 0 0, .int .u64 t] w fun e w' => w = w' ∧ e = .returned (.tuple #[.int .u8 0, .bool false]) := by
  go_enter Try.func18, Try.ntmps18
  go_wp2_with (go_at_call 20; refine (search20_nil _ _).mono ?_; rintro _ _ ⟨rfl, rfl⟩)
  go_ret2
  exact ⟨rfl, rfl⟩
end Go.Proofs.Qxb6612367a
