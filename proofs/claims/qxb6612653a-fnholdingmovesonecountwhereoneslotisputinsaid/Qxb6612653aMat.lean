/-
  THE WALK of zzCloneSlots: a clone of even rows lies in new blocks.
-/
import Derived.Test.Qxb6612653aClone
namespace Go.Proofs.Qxb6612653a
open Go.RowKit
/-- The clone's headers: row r lies in block N + 1 + r; the first k are written. -/
def hdrs (N R P k : Nat) : Array Value := arrV R (fun r => if r < k then .slice (some ⟨N + 1 + r, 0, none⟩) P P else .slice none 0 0)
theorem hdrs_zero (N R P : Nat) : hdrs N R P 0 = arrV R (fun _ => .slice none 0 0) := arrV_congr R _ _ fun i _ => by simp
theorem hdrs_step (N R P k : Nat) : (hdrs N R P k).setIfInBounds k (.slice (some ⟨N + 1 + k, 0, none⟩) P P) = hdrs N R P (k + 1) := by
  unfold hdrs
  rw [arrV_set]
  refine arrV_congr R _ _ fun i _ => ?_
  by_cases h : i = k
  · subst h; simp
  · rw [if_neg h]
    by_cases h2 : i < k
    · rw [if_pos h2, if_pos (by omega)]
    · rw [if_neg h2, if_neg (by omega)]
/-- A matrix of R rows of P, laid from block N on. -/
def MatAt (w : World) (N R P : Nat) (g : Nat → Nat → Int) : Prop :=
  w.heap[N]? = some (.cells (hdrs N R P R) 38 (0, 0)) ∧ ∀ r, r < R → w.heap[N + 1 + r]? = some (.cells (rowV .i32 P (g r)) 21 (0, 0))
theorem MatAt.below {w w' : World} {N R P : Nat} {g : Nat → Nat → Int} (h : MatAt w N R P g) (hb : Below (N + 1 + R) w w') : MatAt w' N R P g :=
  ⟨(hb.block N (by omega)).trans h.1, fun r hr => (hb.block (N + 1 + r) (by omega)).trans (h.2 r hr)⟩
theorem MatAt.rd {w : World} {N R P : Nat} {g : Nat → Nat → Int} (h : MatAt w N R P g) (hP : P ≤ maxLen) : RdM w (some ⟨N, 0, none⟩) R (fun _ => P) g := by
  refine .inr ⟨N, 0, rfl, (Array.getElem?_eq_some_iff.1 h.1).1, fun r hr => ⟨some ⟨N + 1 + r, 0, none⟩, P, ?_, .inr ⟨N + 1 + r, 0, rfl, (Array.getElem?_eq_some_iff.1 (h.2 r hr)).1, fun j hj => ?_⟩, hP⟩⟩
  · rw [Nat.zero_add, cell_of_row w N r _ _ _ h.1, hdrs, arrV_get R _ r hr, if_pos hr]
  · rw [Nat.zero_add]; exact rowV_cell w _ _ _ _ _ j (h.2 r hr) hj
set_option maxHeartbeats 1000000 in
theorem clone13 (a : Option Addr) (R c P : Nat) (g : Nat → Nat → Int) (w : World) (rm : RdM w a R (fun _ => P) g) (hR : R ≤ 1048576) (hP : P ≤ 1048576) (hR0 : 0 < R) (hP0 : 0 < P) :
    Calls Try.prog 13 #[.slice a R c] w fun e w' => e = .returned (.slice (some ⟨w.heap.size, 0, none⟩) R R) ∧ MatAt w' w.heap.size R P g ∧ w'.heap.size = w.heap.size + 1 + R ∧ Below w.heap.size w w' := by
  rcases rm with h | ⟨b, off, rfl, hbl, hc⟩
  · omega
  have HC : Hid _ := hc
  clear hc
  have hmk := make24 R hR
  have hmk2 := make38 P hP
  have heq := fun (w : World) (a : Addr) (l c : Nat) => Lib.run_eql_slice_nil (P := Try.prog) w 24 38 (some a) l c 0 0 Try.underlying24
  have heq2 := fun (w : World) (a : Addr) (l c : Nat) => Lib.run_eql_slice_nil (P := Try.prog) w 38 21 (some a) l c 0 0 Try.underlying38
  go_enter Try.func13, Try.ntmps13
  go_wp2
  go_loopw [4] (fun i wr => ∃ k : Nat, k ≤ R ∧ i = .int .i64 k ∧ wr.heap[w.heap.size]? = some (.cells (hdrs w.heap.size R P k) 38 (0, 0)) ∧ (∀ r, r < k → wr.heap[w.heap.size + 1 + r]? = some (.cells (rowV .i32 P (g r)) 21 (0, 0))) ∧ Below w.heap.size w wr ∧ wr.heap.size = w.heap.size + 1 + k) (fun i _ => R - (intOf i).toNat)
  case atStart => exact ⟨0, Nat.zero_le _, rfl, by rw [hdrs_zero]; exact heap_alloc_new _ _, fun r hr => absurd hr (Nat.not_lt_zero _), (Below.refl _ _).alloc (Nat.le_refl _) _, by simp⟩
  case round =>
    obtain ⟨k, hk, rfl, ha, hrs, hb, hs⟩ := hrel
    obtain ⟨wo, rfl⟩ : ∃ wo : World, wo = wr := ⟨_, rfl⟩
    have HRS : Hid _ := hrs
    have HS : Hid _ := hs
    clear hrs hs
    by_cases hlt : k < R
    · obtain ⟨ar, cr, hcell, hrd, _⟩ := HC.out k hlt
      have c0 := (hb.cell (p := ⟨b, off + k, none⟩) hbl).trans hcell
      have c1 : wo.cell? ⟨w.heap.size, k, none⟩ = some (.slice none 0 0) := by
        rw [cell_of_row wo _ k _ _ _ ha, hdrs, arrV_get R _ k hlt, if_neg (Nat.lt_irrefl _)]
      have f1 := frozen_of_row wo _ k _ _ ha
      rcases hrd with h | ⟨b1, off1, rfl, hbl1, hc1⟩
      · omega
      have HC1 : Hid _ := hc1
      have Ha : Hid _ := ha
      clear hc1 ha hcell
      go_wp2
      go_loopw [6] (fun i wr => ∃ q : Nat, q ≤ P ∧ i = .int .i64 q ∧ wr.heap[wo.heap.size]? = some (.cells (rowV .i32 P (upto (g k) q)) 21 (0, 0)) ∧ Below wo.heap.size wo wr ∧ wr.heap.size = wo.heap.size + 1) (fun i _ => P - (intOf i).toNat)
      case atStart => exact ⟨0, Nat.zero_le _, rfl, by rw [rowV_zero]; exact heap_alloc_new _ _, (Below.refl _ _).alloc (Nat.le_refl _) _, by simp⟩
      case round =>
        obtain ⟨q, hq, rfl, ha1, hb1, hs1⟩ := hrel
        have c0' := (hb1.cell (p := ⟨b, off + k, none⟩) (by have := HS.out; show b < _; omega)).trans c0
        by_cases hqt : q < P
        · have d1 := rowV_cell wr _ _ _ _ _ q ha1 hqt
          have e1 := frozen_of_row wr _ q _ _ ha1
          have d2 := (hb1.cell (p := ⟨b1, off1 + q, none⟩) (by have := HS.out; show b1 < _; omega)).trans ((hb.cell (p := ⟨b1, off1 + q, none⟩) hbl1).trans (HC1.out q hqt))
          have Ha1 : Hid _ := ha1
          clear ha1
          go_wp2
          go_roundw
          case rel =>
            refine ⟨q + 1, by omega, by go_num, ?_, hb1.setCell (by simp) _, by simp [hs1]⟩
            refine (heap_setCell_same wr _ _ _ 21 _ Ha1.out).trans ?_
            rw [rowV_step]
          case measure => simp [intOf]; omega
        · obtain rfl : q = P := by omega
          rw [rowV_full] at ha1
          have c1' := (hb1.cell (p := ⟨w.heap.size, k, none⟩) (by have := HS.out; show w.heap.size < _; omega)).trans c1
          have f1' := (hb1.frozen (p := ⟨w.heap.size, k, none⟩) (by have := HS.out; show w.heap.size < _; omega)).trans f1
          have Ha1 : Hid _ := ha1
          clear ha1
          go_wp2
          have hs := HS.out
          go_roundw
          case rel =>
            refine ⟨k + 1, by omega, by go_num, ?_, ?_, ?_, by simp [hs1, hs]; omega⟩
            · refine (heap_setCell_same wr _ _ _ 38 _ ((hb1.block _ (by omega)).trans Ha.out)).trans ?_
              rw [hs, hdrs_step]
            · intro r hr
              refine (heap_setCell_other wr _ _ _ (by simp; omega)).trans ?_
              rcases Nat.lt_succ_iff_lt_or_eq.1 hr with h | rfl
              · exact (hb1.block _ (by omega)).trans (HRS.out r h)
              · rw [← hs]; exact Ha1.out
            · exact (hb.trans (hb1.mono (by omega))).setCell (by simp) _
          case measure => simp [intOf]; omega
    · obtain rfl : k = R := by omega
      have Ha : Hid _ := ha
      clear ha
      go_wp2
      go_ret
      exact ⟨rfl, ⟨Ha.out, HRS.out⟩, HS.out, hb⟩
end Go.Proofs.Qxb6612653a
