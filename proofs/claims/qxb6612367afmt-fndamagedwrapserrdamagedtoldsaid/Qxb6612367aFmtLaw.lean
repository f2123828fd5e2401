/-
  THE LAW's WALK.
-/
import Derived.Test.Qxb6612367aFmtWalks
namespace Go.Proofs.Qxb6612367aFmt
open Go.RowKit Go.Extern.Stop Go.Stop Go.Extern
set_option maxHeartbeats 400000 in
theorem bytes4 (f : ByteArray) (w : World) (h : f.size ≤ 1048576) : Calls Tryf.prog 4 #[.string f] w fun e w' => e = .returned (.bool true) ∧ w = w' := by
  go_enter Tryf.func4, Tryf.ntmps4
  go_wp2
  go_ret
  exact ⟨rfl, rfl⟩
set_option maxHeartbeats 400000 in
theorem bytes4_no (f : ByteArray) (w : World) (h : 1048576 < f.size) (hf : f.size ≤ 9223372036854775807) : Calls Tryf.prog 4 #[.string f] w fun e w' => e = .returned (.bool false) ∧ w = w' := by
  go_enter Tryf.func4, Tryf.ntmps4
  go_wp2
  go_ret
  exact ⟨rfl, rfl⟩
set_option maxHeartbeats 400000 in
theorem law3 (F : Interp) (a : Addr) (s f : ByteArray) (w : World) (hF : F.answers w.tape) (hg : w.cell? ⟨0, 0, none⟩ = some (.iface 47 (.pointer (some a)))) (hs : w.cell? a = some (.string s)) (hf : f.size ≤ maxLen) :
    Calls Tryf.prog 3 #[.string f] w fun e w' => e = .returned (.bool true) ∧ Below w.heap.size w w' := by
  unfold maxLen at hf
  by_cases h : f.size ≤ 1048576
  · go_enter Tryf.func3, Tryf.ntmps3
    go_wp2_with (go_at_call 4; refine (bytes4 f _ h).mono ?_; rintro _ _ ⟨rfl, rfl⟩)
    refine (damaged5 F a s f w hF hg hs).mono ?_
    rintro _ w1 ⟨g, rfl, hc, hb⟩
    have hg1 : w1.cell? ⟨0, 0, none⟩ = some (.iface 47 (.pointer (some a))) := (hb.cell (block_lt_of_cell hg)).trans hg
    have hh : (w1.cell? ⟨g, 0 + 1, none⟩) = some (.iface 47 (.pointer (some a))) := hc
    have HH : Hid _ := hh
    clear hF hg hs hc hh
    go_wp2_with fail
    refine (is_wrap_same g 0 a w1 HH.out).mono ?_
    rintro _ _ ⟨rfl, rfl⟩
    go_wp2
    go_ret
    exact ⟨rfl, hb⟩
  · go_enter Tryf.func3, Tryf.ntmps3
    go_wp2_with (go_at_call 4; refine (bytes4_no f _ (by omega) hf).mono ?_; rintro _ _ ⟨rfl, rfl⟩)
    go_ret
    exact ⟨rfl, Below.refl _ _⟩
end Go.Proofs.Qxb6612367aFmt
