import Derived.Test.Qxb6612367aDoorRows
import Derived.WalkKit
import Derived.WalkSpells
import Derived.WalkLawsBesides
import Derived.RegionTactic
import Derived.BigRegion
namespace Go.Proofs.Qxb6612367aDoor
open Go.RowKit
/-- The threshold at n entries. -/
def cAt (n : Int) : Int := if 65536 < n.tdiv 128 then n.tdiv 128 else 65536
theorem tdiv_pos (n : Int) (h : 0 ≤ n) : n.tdiv 128 = n / 128 := Int.tdiv_eq_ediv_of_nonneg h
theorem tdiv_neg (n : Int) (h : n ≤ 0) : n.tdiv 128 ≤ 0 := by
  have : 0 ≤ (-n).tdiv 128 := Int.tdiv_nonneg (by omega) (by omega)
  rw [Int.neg_tdiv] at this
  omega
theorem cAt_eq (n : Int) : cAt n = if 65536 < n / 128 then n / 128 else 65536 := by
  unfold cAt
  by_cases h : 0 ≤ n
  · rw [tdiv_pos n h]
  · have := tdiv_neg n (by omega)
    rw [if_neg (by omega), if_neg (by omega)]
theorem cAt_lo (n : Int) : 65536 ≤ cAt n := by rw [cAt_eq]; split <;> omega
theorem cAt_hi (n : Int) (h : n ≤ 9223372036854775807) : cAt n ≤ 72057594037927935 := by rw [cAt_eq]; split <;> omega
theorem cAt_mono (a b : Int) (h : a ≤ b) : cAt a ≤ cAt b := by rw [cAt_eq, cAt_eq]; split <;> split <;> omega
theorem cAt_gap (a b : Int) (h : a ≤ b) : cAt b - cAt a ≤ (b - a) / 128 + 1 := by rw [cAt_eq, cAt_eq]; split <;> split <;> omega
theorem u64_wrap (x : Int) : IntKind.u64.wrap x = x % 18446744073709551616 := by
  simp [IntKind.wrap, IntKind.signed, IntKind.bits]
theorem gap_eq (x y : Int) (h : y ≤ x) (h1 : -9223372036854775808 ≤ y) (h2 : x ≤ 9223372036854775807) :
    IntKind.u64.wrap (IntKind.u64.wrap ((IntKind.u64.wrap (IntKind.u64.wrap x - IntKind.u64.wrap y)).tdiv 128) + 1) = (x - y) / 128 + 1 := by
  have e : IntKind.u64.wrap (IntKind.u64.wrap x - IntKind.u64.wrap y) = x - y := by
    rw [u64_wrap, u64_wrap, u64_wrap]; omega
  rw [e, Int.tdiv_eq_ediv_of_nonneg (by omega), u64_wrap, u64_wrap]
  omega
set_option maxHeartbeats 400000 in
theorem c5 (n : Int) (w : World) (h0 : w.cell? ⟨0, 0, none⟩ = some (.int .i64 65536)) (h1 : w.cell? ⟨1, 0, none⟩ = some (.int .i64 128)) (hn : -9223372036854775808 ≤ n) (hm : n ≤ 9223372036854775807) :
    Calls Tryd.prog 5 #[.int .i64 n] w fun e w' => e = .returned (.int .i64 (cAt n)) ∧ w.drew = w' := by
  unfold cAt
  by_cases h : 65536 < n.tdiv 128
  · rw [if_pos h]
    go_enter Tryd.func5, Tryd.ntmps5
    go_wp2
    go_region
    all_goals (go_wp2; go_ret; exact ⟨rfl, rfl⟩)
  · rw [if_neg h]
    go_enter Tryd.func5, Tryd.ntmps5
    go_wp2
    go_region
    all_goals (go_wp2; go_ret; exact ⟨rfl, rfl⟩)
set_option maxHeartbeats 400000 in
theorem c4 (n : Int) (w : World) (h0 : w.cell? ⟨0, 0, none⟩ = some (.int .i64 65536)) (h1 : w.cell? ⟨1, 0, none⟩ = some (.int .i64 128)) (hn : -9223372036854775808 ≤ n) (hm : n ≤ 9223372036854775807) :
    Calls Tryd.prog 4 #[.int .i64 n] w fun e w' => e = .returned (.int .i64 (cAt n)) ∧ w.drew = w' := by
  go_enter Tryd.func4, Tryd.ntmps4
  go_wp2_with (go_at_call 5; refine (c5 n _ h0 h1 hn hm).mono ?_; rintro e w' ⟨rfl, rfl⟩)
  go_ret
  exact ⟨rfl, rfl⟩
set_option maxHeartbeats 400000 in
theorem c3 (a b : Int) (w : World) (h0 : w.cell? ⟨0, 0, none⟩ = some (.int .i64 65536)) (h1 : w.cell? ⟨1, 0, none⟩ = some (.int .i64 128)) (ha : -9223372036854775808 ≤ a) (ha' : a ≤ 9223372036854775807) (hb : -9223372036854775808 ≤ b) (hb' : b ≤ 9223372036854775807) :
    Calls Tryd.prog 3 #[.int .i64 a, .int .i64 b] w fun e w' => e = .returned (.bool true) ∧ w.drew.drew = w' := by
  by_cases h : b < a
  · have l1 := cAt_lo b
    have l2 := cAt_mono b a (by omega)
    have l3 := cAt_gap b a (by omega)
    have l4 := cAt_hi a ha'
    go_enter Tryd.func3, Tryd.ntmps3
    go_wp2_with fail
    refine (c4 b _ h0 h1 hb hb').mono ?_
    rintro _ _ ⟨rfl, rfl⟩
    go_wp2_with fail
    refine (c4 a _ (by simpa using h0) (by simpa using h1) ha ha').mono ?_
    rintro _ _ ⟨rfl, rfl⟩
    generalize cAt a = ra at *
    generalize cAt b = rb at *
    go_wp2
    go_ret
    refine ⟨?_, rfl⟩
    have hd : decide (ra - rb ≤ IntKind.u64.wrap (IntKind.u64.wrap ((IntKind.u64.wrap (IntKind.u64.wrap a - IntKind.u64.wrap b)).tdiv 128) + 1)) = true := by
      rw [gap_eq a b (by omega) hb ha']; simpa using l3
    exact congrArg (fun x => Ending.returned (.bool x)) hd
  · have l1 := cAt_lo a
    have l2 := cAt_mono a b (by omega)
    have l3 := cAt_gap a b (by omega)
    have l4 := cAt_hi b hb'
    go_enter Tryd.func3, Tryd.ntmps3
    go_wp2_with fail
    refine (c4 a _ h0 h1 ha ha').mono ?_
    rintro _ _ ⟨rfl, rfl⟩
    go_wp2_with fail
    refine (c4 b _ (by simpa using h0) (by simpa using h1) hb hb').mono ?_
    rintro _ _ ⟨rfl, rfl⟩
    generalize cAt b = ra at *
    generalize cAt a = rb at *
    go_wp2
    go_ret
    refine ⟨?_, rfl⟩
    have hd : decide (ra - rb ≤ IntKind.u64.wrap (IntKind.u64.wrap ((IntKind.u64.wrap (IntKind.u64.wrap b - IntKind.u64.wrap a)).tdiv 128) + 1)) = true := by
      rw [gap_eq b a (by omega) ha hb']; simpa using l3
    exact congrArg (fun x => Ending.returned (.bool x)) hd
end Go.Proofs.Qxb6612367aDoor
