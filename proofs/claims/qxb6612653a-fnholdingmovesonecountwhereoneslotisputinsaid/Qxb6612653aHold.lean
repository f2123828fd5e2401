/-
  THE WALKS of ZZnewPlacement, holding, ZZholding: how often each number stands in the rows.
-/
import Derived.Test.Qxb6612653aMat
namespace Go.Proofs.Qxb6612653a
open Go.RowKit
set_option maxHeartbeats 1000000 in
theorem new15 (p : Int) (a b : Option Addr) (n c n1 c1 : Nat) (w : World) :
    Calls Try.prog 15 #[.int .i64 p, .slice a n c, .slice b n1 c1, .slice none 0 0] w fun e w' => e = .returned (.pointer (some ⟨w.heap.size, 0, none⟩)) ∧ w'.cell? ⟨w.heap.size, 1, none⟩ = some (.slice a n c) ∧ w'.cell? ⟨w.heap.size, 2, none⟩ = some (.slice b n1 c1) ∧ w'.heap.size = w.heap.size + 1 ∧ Below w.heap.size w w' := by
  go_enter Try.func15, Try.ntmps15
  go_wp2
  go_ret
  refine ⟨rfl, ?_, ?_, ?_, (Below.refl _ _).alloc (Nat.le_refl _) _⟩
  · exact cell_of_row _ _ 1 _ _ _ (heap_alloc_new _ _)
  · exact cell_of_row _ _ 2 _ _ _ (heap_alloc_new _ _)
  · simp
/-- How often d stands among the first p. -/
def rowCnt (f : Nat → Int) (d : Nat) : Nat → Nat
  | 0 => 0
  | p + 1 => rowCnt f d p + (if f p = d then 1 else 0)
def matCnt (g : Nat → Nat → Int) (P d : Nat) : Nat → Nat
  | 0 => 0
  | r + 1 => matCnt g P d r + rowCnt (g r) d P
theorem rowCnt_le (f : Nat → Int) (d p : Nat) : rowCnt f d p ≤ p := by
  induction p with
  | zero => exact Nat.le_refl _
  | succ p ih => unfold rowCnt; split <;> omega
theorem matCnt_le (g : Nat → Nat → Int) (P d r : Nat) : matCnt g P d r ≤ r * P := by
  induction r with
  | zero => simp [matCnt]
  | succ r ih => unfold matCnt; have := rowCnt_le (g r) d P; rw [Nat.succ_mul]; omega
/-- The counts as they stand in the round: k rows whole and q of the next. -/
def cnts (g : Nat → Nat → Int) (P k q : Nat) : Nat → Int := fun d => ((matCnt g P d k + rowCnt (g k) d q : Nat) : Int)
theorem cnts_skip (n : Nat) (g : Nat → Nat → Int) (P k q : Nat) (h : g k q = -1) : rowV .i64 n (cnts g P k q) = rowV .i64 n (cnts g P k (q + 1)) := by
  refine arrV_congr n _ _ fun i _ => ?_
  have : ¬ g k q = (i : Int) := by omega
  simp [cnts, rowCnt, this]
theorem cnts_step (n : Nat) (g : Nat → Nat → Int) (P k q d : Nat) (h : g k q = d) : (rowV .i64 n (cnts g P k q)).setIfInBounds d (.int .i64 (cnts g P k q d + 1)) = rowV .i64 n (cnts g P k (q + 1)) := by
  unfold rowV
  rw [arrV_set]
  refine arrV_congr n _ _ fun i _ => ?_
  by_cases hi : i = d
  · subst hi
    rw [if_pos rfl]
    simp [cnts, rowCnt, h]; omega
  · rw [if_neg hi]
    have : ¬ g k q = (i : Int) := by omega
    simp [cnts, rowCnt, this]
theorem cnts_next (n : Nat) (g : Nat → Nat → Int) (P k : Nat) : rowV .i64 n (cnts g P k P) = rowV .i64 n (cnts g P (k + 1) 0) := by
  refine arrV_congr n _ _ fun i _ => ?_
  simp [cnts, rowCnt, matCnt]
theorem cnts_zero (n : Nat) (g : Nat → Nat → Int) (P : Nat) : rowV .i64 n (fun _ => 0) = rowV .i64 n (cnts g P 0 0) := by
  refine arrV_congr n _ _ fun i _ => ?_
  simp [cnts, rowCnt, matCnt]
theorem cnts_bound (g : Nat → Nat → Int) (P k q d : Nat) (hk : k ≤ 1048576) (hP : P ≤ 1048576) (hq : q ≤ P) : 0 ≤ cnts g P k q d ∧ cnts g P k q d ≤ 1099512676352 := by
  have h1 := matCnt_le g P d k
  have h2 := rowCnt_le (g k) d q
  have h3 : k * P ≤ 1048576 * 1048576 := Nat.mul_le_mul hk hP
  unfold cnts
  omega
set_option maxHeartbeats 2000000 in
theorem holding22 (pb N R P n c : Nat) (b : Option Addr) (g : Nat → Nat → Int) (w : World) (h1 : w.cell? ⟨pb, 1, none⟩ = some (.slice (some ⟨N, 0, none⟩) R R)) (h2 : w.cell? ⟨pb, 2, none⟩ = some (.slice b n c))
    (rm : RdM w (some ⟨N, 0, none⟩) R (fun _ => P) g) (hv : ∀ r p, r < R → p < P → Ok1 n (g r p)) (hR : R ≤ 1048576) (hP : P ≤ 1048576) (hn : n ≤ 1048576) :
    Calls Try.prog 22 #[.pointer (some ⟨pb, 0, none⟩), .nilFunc] w fun e w' => e = .returned (.slice (some ⟨w.heap.size, 0, none⟩) n n) ∧ w'.heap[w.heap.size]? = some (.cells (rowV .i64 n (cnts g P R 0)) 3 (0, 0)) ∧ w'.heap.size = w.heap.size + 1 ∧ Below w.heap.size w w' := by
  have RM : Hid _ := rm
  have HV : Hid _ := hv
  have HMK : Hid _ := make25 n hn
  clear rm hv
  have hmk := HMK.out
  have hpb : pb < w.heap.size := World.block_lt_of_cell? _ _ h1
  have h1' := ((Below.refl w.heap.size w).alloc (Nat.le_refl _) (.cells (rowV .i64 n (fun _ => 0)) 3)).cell (p := ⟨pb, 1, none⟩) hpb |>.trans h1
  have heqf : ∀ w : World, (binOp .eql 52 .nilFunc .nilFunc).run Try.prog w = .ok (.bool true) w := fun _ => rfl
  go_enter Try.func22, Try.ntmps22
  go_wp2
  go_loopw [21] (fun i wr => ∃ k : Nat, k ≤ R ∧ i = .int .i64 k ∧ wr.heap[w.heap.size]? = some (.cells (rowV .i64 n (cnts g P k 0)) 3 (0, 0)) ∧ Below w.heap.size w wr ∧ wr.heap.size = w.heap.size + 1) (fun i _ => R - (intOf i).toNat)
  case atStart => exact ⟨0, Nat.zero_le _, rfl, by rw [← cnts_zero]; exact heap_alloc_new _ _, (Below.refl _ _).alloc (Nat.le_refl _) _, by simp⟩
  case round =>
    obtain ⟨k, hk, rfl, ha, hb, hs⟩ := hrel
    obtain ⟨wo, rfl⟩ : ∃ wo : World, wo = wr := ⟨_, rfl⟩
    have Ha : Hid _ := ha
    have HS : Hid _ := hs
    clear ha hs
    by_cases hlt : k < R
    · rcases RM.out with h | ⟨b0, off, heq, hbl, hc⟩
      · omega
      cases heq
      obtain ⟨ar, cr, hcell, hrd, _⟩ := hc k hlt
      have c0 := (hb.cell (p := ⟨N, 0 + k, none⟩) hbl).trans hcell
      rw [Nat.zero_add] at c0
      have RR : Hid _ := hrd
      clear hc hrd hcell
      go_wp2
      go_loopw [28] (fun i wr => ∃ q : Nat, q ≤ P ∧ i = .int .i64 q ∧ wr.heap[w.heap.size]? = some (.cells (rowV .i64 n (cnts g P k q)) 3 (0, 0)) ∧ Below w.heap.size w wr ∧ wr.heap.size = w.heap.size + 1) (fun i _ => P - (intOf i).toNat)
      case atStart => exact ⟨0, Nat.zero_le _, rfl, Ha.out, hb, HS.out⟩
      case round =>
        obtain ⟨q, hq, rfl, ha1, hb1, hs1⟩ := hrel
        have HS1 : Hid _ := hs1
        clear hs1
        by_cases hqt : q < P
        · rcases RR.out with h | ⟨b1, off1, rfl, hbl1, hc1⟩
          · omega
          have d2 := (hb1.cell (p := ⟨b1, off1 + q, none⟩) hbl1).trans (hc1 q hqt)
          clear hc1
          by_cases hm : g k q = -1
          · have HM : Hid _ := hm
            rw [hm] at d2
            clear hm
            have Ha1 : Hid _ := ha1
            clear ha1
            go_wp2
            go_roundw
            case rel => exact ⟨q + 1, by omega, by go_num, (cnts_skip n g P k q HM.out) ▸ Ha1.out, hb1, HS1.out⟩
            case measure => simp [intOf]; omega
          · obtain ⟨d, hd⟩ : ∃ d : Nat, g k q = d := by
              rcases HV.out k q hlt hqt with h | ⟨h, _⟩
              · exact absurd h hm
              · exact ⟨(g k q).toNat, by omega⟩
            have hdn : d < n := by
              rcases HV.out k q hlt hqt with h | ⟨_, h⟩
              · exact absurd h hm
              · omega
            have HD : Hid _ := hd
            rw [hd] at d2
            have hdm : ((d : Int) != -1) = true := by simp
            have e1 := rowV_cell wr _ _ _ _ _ d ha1 hdn
            have f1 := frozen_of_row wr _ d _ _ ha1
            have bd := cnts_bound g P k q d (by omega) hP (by omega)
            obtain ⟨x, hx⟩ : ∃ x, x = cnts g P k q d := ⟨_, rfl⟩
            rw [← hx] at e1 bd
            have HX : Hid _ := hx
            have Ha1 : Hid _ := ha1
            clear ha1 hm hd hx
            go_wp2
            go_roundw
            case rel =>
              refine ⟨q + 1, by omega, by go_num, ?_, hb1.setCell (by simp) _, by simp [HS1.out]⟩
              refine (heap_setCell_same wr _ _ _ 3 _ Ha1.out).trans ?_
              rw [HX.out, cnts_step n g P k q d HD.out]
            case measure => simp [intOf]; omega
        · obtain rfl : q = P := by omega
          have Ha1 : Hid _ := ha1
          clear ha1
          go_wp2
          go_roundw
          case rel => exact ⟨k + 1, by omega, by go_num, (cnts_next n g q k) ▸ Ha1.out, hb1, HS1.out⟩
          case measure => simp [intOf]; omega
    · obtain rfl : k = R := by omega
      go_wp2
      go_ret
      exact ⟨rfl, Ha.out, HS.out, hb⟩
set_option maxHeartbeats 1000000 in
theorem holding16 (pb N R P n c : Nat) (b : Option Addr) (g : Nat → Nat → Int) (w : World) (h1 : w.cell? ⟨pb, 1, none⟩ = some (.slice (some ⟨N, 0, none⟩) R R)) (h2 : w.cell? ⟨pb, 2, none⟩ = some (.slice b n c))
    (rm : RdM w (some ⟨N, 0, none⟩) R (fun _ => P) g) (hv : ∀ r p, r < R → p < P → Ok1 n (g r p)) (hR : R ≤ 1048576) (hP : P ≤ 1048576) (hn : n ≤ 1048576) :
    Calls Try.prog 16 #[.pointer (some ⟨pb, 0, none⟩)] w fun e w' => e = .returned (.slice (some ⟨w.heap.size, 0, none⟩) n n) ∧ w'.heap[w.heap.size]? = some (.cells (rowV .i64 n (cnts g P R 0)) 3 (0, 0)) ∧ w'.heap.size = w.heap.size + 1 ∧ Below w.heap.size w w' := by
  have C := holding22 pb N R P n c b g w h1 h2 rm hv hR hP hn
  clear h1 h2 rm hv
  go_enter Try.func16, Try.ntmps16
  go_wp2_with fail
  refine C.mono ?_
  rintro _ w1 ⟨rfl, ha, hs, hb⟩
  have HA : Hid _ := ha
  have HS : Hid _ := hs
  clear ha hs
  go_wp2
  go_ret
  exact ⟨rfl, HA.out, HS.out, hb⟩
end Go.Proofs.Qxb6612653a
