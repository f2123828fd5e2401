/-
  THE WALKS of the tally's functions (4: ZZnewTally, 7: startStep, 5: ZZtallyStartStep, 6: ZZtallyFields).
-/
import Derived.Test.Qxb6612324aPlain
import Derived.RegionTactic
import Derived.BigRegion
namespace Go.Proofs.Qxb6612324a
open Go.RowKit

set_option maxRecDepth 100000 in
set_option maxHeartbeats 400000 in
theorem new_calls (r e sr se : Int) (zs : List Int) (hz : zs.length = 1000) (w : World) :
    Calls Try.prog 4 #[.int .u64 r, .int .u64 e, .int .u64 sr, .int .u64 se, .agg (arr zs)] w fun en w' => en = .returned (.pointer (some ⟨w.heap.size + 1, 0, none⟩)) ∧ w'.heap[w.heap.size + 1]? = some (.cells (tal r e sr se zs) 33 (0, 0)) ∧ Below w.heap.size w w' ∧ w'.heap.size = w.heap.size + 2 := by
  go_enter Try.func4, Try.ntmps4
  go_wp2_with ((with_reducible (refine wpList_build_lit (built33 r e sr se) ?hl ?_)); case hl => rfl)
  go_loopw [19] (fun i wr => ∃ k : Nat, k ≤ 1000 ∧ i = .int .i64 k ∧ wr.heap[w.heap.size]? = some (.cells (arr zs) 23 (0, 0)) ∧ wr.heap[w.heap.size + 1]? = some (.cells (tal r e sr se (part1 zs k)) 33 (0, 0)) ∧ Below w.heap.size w wr ∧ wr.heap.size = w.heap.size + 2) (fun i _ => 1000 - (intOf i).toNat)
  case atStart => exact ⟨0, by omega, rfl, heap_alloc2_old _ _ _, by rw [part1_zero]; exact heap_alloc2_new _ _ _, ((Below.refl _ _).alloc (Nat.le_refl _) _).alloc (by simp) _, by simp⟩
  case round =>
    obtain ⟨k, hk, rfl, ha, ht, hb, hs⟩ := hrel
    by_cases hlt : k < 1000
    · have c1 := arr_cell wr _ zs k ha (by omega)
      have c2 := tal_cell wr _ r e sr se _ k ht (by rw [part1_len]; exact hlt)
      have f2 := frozen_of_row wr _ (4 + k) _ _ ht
      have Ha : Hid _ := ha
      have Ht : Hid _ := ht
      clear ha ht
      go_wp2
      go_region
      go_wp2
      go_roundw
      case rel =>
        refine ⟨k + 1, by omega, by go_num, ?_, ?_, (hb.setCell (by simp) _).drew, by simpa using hs⟩
        · exact (heap_setCell_other wr _ _ _ (by simp)).trans Ha.out
        · refine (heap_setCell_same wr _ _ _ 33 _ Ht.out).trans ?_
          rw [tal_set, ← getD_getElem, part1_succ zs k hlt]
      case measure => simp [intOf]; omega
    · obtain rfl : k = 1000 := by omega
      rw [part1_full zs hz] at ht
      have Ht : Hid _ := ht
      clear ha ht
      go_wp2
      go_ret
      exact ⟨rfl, Ht.out, hb, hs⟩

set_option maxHeartbeats 400000 in
theorem step7 (g : Nat) (r e sr se : Int) (w : World)
    (h0 : w.cell? ⟨g, 0, none⟩ = some (.int .u64 r)) (h1 : w.cell? ⟨g, 1, none⟩ = some (.int .u64 e))
    (h2 : w.cell? ⟨g, 2, none⟩ = some (.int .u64 sr)) (h3 : w.cell? ⟨g, 3, none⟩ = some (.int .u64 se))
    (f2 : w.frozen? ⟨g, 2, none⟩ = false) (f3 : w.frozen? ⟨g, 3, none⟩ = false) :
    Calls Try.prog 7 #[.pointer (some ⟨g, 0, none⟩)] w fun en w' => en = .returned (.tuple #[]) ∧ w' = ((w.setCell ⟨g, 2, none⟩ (.int .u64 r)).setCell ⟨g, 3, none⟩ (.int .u64 e)).drew := by
  go_enter Try.func7, Try.ntmps7
  go_wp2
  go_region
  all_goals (go_end0; exact ⟨rfl, rfl⟩)

set_option maxHeartbeats 400000 in
theorem step5 (g : Nat) (r e sr se : Int) (zs : List Int) (w : World) (hg : w.heap[g]? = some (.cells (tal r e sr se zs) 33 (0, 0))) :
    Calls Try.prog 5 #[.pointer (some ⟨g, 0, none⟩)] w fun en w' => en = .returned (.tuple #[]) ∧ w'.heap[g]? = some (.cells (tal r e r e zs) 33 (0, 0)) ∧ (∀ k, k ≠ g → w'.heap[k]? = w.heap[k]?) ∧ w'.heap.size = w.heap.size ∧ w'.os = w.os ∧ w'.tape = w.tape ∧ w'.output = w.output := by
  obtain ⟨h0, h1, h2, h3⟩ := tal_cell0 w g r e sr se zs hg
  have f2 := frozen_of_row w _ 2 _ _ hg
  have f3 := frozen_of_row w _ 3 _ _ hg
  have Hg : Hid _ := hg
  clear hg
  go_enter Try.func5, Try.ntmps5
  go_wp2_with (go_at_call 7; refine (step7 g r e sr se _ h0 h1 h2 h3 f2 f3).mono ?_; rintro en w' ⟨rfl, rfl⟩)
  go_end0
  refine ⟨rfl, ?_, ?_, by simp, rfl, rfl, rfl⟩
  · rw [← tal_step r e sr se zs]
    exact heap_setCell_same _ g 3 _ 33 _ (heap_setCell_same w g 2 _ 33 _ Hg.out)
  · intro k hk
    exact (heap_setCell_other _ _ k _ hk).trans (heap_setCell_other w _ k _ hk)
end Go.Proofs.Qxb6612324a
