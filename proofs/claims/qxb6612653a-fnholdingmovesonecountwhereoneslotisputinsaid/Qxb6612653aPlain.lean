/-
  THE PLAIN LAW: one slot changed moves one count; the counts add up to the filled slots.
-/
import Derived.Test.Qxb6612653aHold
namespace Go.Proofs.Qxb6612653a
open Go.RowKit
def put1 (f : Nat → Int) (c : Nat) (v : Int) : Nat → Int := fun p => if p = c then v else f p
def put2 (g : Nat → Nat → Int) (r c : Nat) (v : Int) : Nat → Nat → Int := fun i => if i = r then put1 (g i) c v else g i
def one (p : Prop) [Decidable p] : Nat := if p then 1 else 0
theorem rowCnt_congr (f h : Nat → Int) (d p : Nat) (e : ∀ i, i < p → f i = h i) : rowCnt f d p = rowCnt h d p := by
  induction p with
  | zero => rfl
  | succ p ih => simp only [rowCnt]; rw [ih (fun i hi => e i (by omega)), e p (by omega)]
theorem rowCnt_put (f : Nat → Int) (d c P : Nat) (v : Int) (hc : c < P) : rowCnt (put1 f c v) d P + one (f c = d) = rowCnt f d P + one (v = d) := by
  induction P with
  | zero => omega
  | succ p ih =>
    by_cases h : c = p
    · subst h
      simp only [rowCnt]
      rw [rowCnt_congr (put1 f c v) f d c (fun i hi => by simp [put1]; omega)]
      simp only [put1, if_pos, one]
      omega
    · have := ih (by omega)
      simp only [rowCnt]
      have e : put1 f c v p = f p := by simp [put1]; omega
      rw [e]
      omega
theorem matCnt_congr (g h : Nat → Nat → Int) (P d R : Nat) (e : ∀ i, i < R → g i = h i) : matCnt g P d R = matCnt h P d R := by
  induction R with
  | zero => rfl
  | succ p ih => simp only [matCnt]; rw [ih (fun i hi => e i (by omega)), e p (by omega)]
theorem matCnt_put (g : Nat → Nat → Int) (P d r c R : Nat) (v : Int) (hc : c < P) (hr : r < R) : matCnt (put2 g r c v) P d R + one (g r c = d) = matCnt g P d R + one (v = d) := by
  induction R with
  | zero => omega
  | succ q ih =>
    simp only [matCnt]
    by_cases h : r = q
    · subst h
      rw [matCnt_congr (put2 g r c v) g P d r (fun i hi => by simp [put2]; omega)]
      have := rowCnt_put (g r) d c P v hc
      have e : put2 g r c v r = put1 (g r) c v := by simp [put2]
      rw [e]
      omega
    · have := ih (by omega)
      have e : put2 g r c v q = g q := by simp [put2]; omega
      rw [e]
      omega
/-- Where the slot held d, d was counted. -/
theorem matCnt_pos (g : Nat → Nat → Int) (P d r c R : Nat) (hc : c < P) (hr : r < R) (h : g r c = d) : 1 ≤ matCnt g P d R := by
  have := matCnt_put g P d r c R (-1) hc hr
  have h1 : one (g r c = d) = 1 := by simp [one, h]
  have h2 : one ((-1 : Int) = d) = 0 := by simp [one]
  omega
/-- The sum over d of the counts. -/
def sumTo (F : Nat → Nat) : Nat → Nat
  | 0 => 0
  | d + 1 => sumTo F d + F d
theorem sumTo_congr (F G : Nat → Nat) (n : Nat) (h : ∀ d, d < n → F d = G d) : sumTo F n = sumTo G n := by
  induction n with
  | zero => rfl
  | succ n ih => simp only [sumTo]; rw [ih (fun d hd => h d (by omega)), h n (by omega)]
theorem sumTo_add (F G : Nat → Nat) (n : Nat) : sumTo (fun d => F d + G d) n = sumTo F n + sumTo G n := by
  induction n with
  | zero => rfl
  | succ n ih => simp only [sumTo]; rw [ih]; omega
theorem sumTo_zero (n : Nat) : sumTo (fun _ => 0) n = 0 := by
  induction n with
  | zero => rfl
  | succ n ih => simp only [sumTo]; rw [ih]
theorem sumTo_one (v : Int) (n : Nat) : sumTo (fun d => if v = d then 1 else 0) n = (if 0 ≤ v ∧ v < n then 1 else 0) := by
  induction n with
  | zero => simp only [sumTo]; rw [if_neg (by omega)]
  | succ n ih =>
    simp only [sumTo]
    rw [ih]
    by_cases h1 : v = n
    · rw [if_neg (by omega), if_pos h1, if_pos (by omega)]
    · rw [if_neg h1]
      by_cases h2 : 0 ≤ v ∧ v < n
      · rw [if_pos h2, if_pos (by omega)]
      · rw [if_neg h2, if_neg (by omega)]
theorem sum_row (f : Nat → Int) (n P : Nat) (h : ∀ p, p < P → Ok1 n (f p)) : sumTo (fun d => rowCnt f d P) n = rowFill f P := by
  induction P with
  | zero => exact sumTo_zero n
  | succ p ih =>
    simp only [rowCnt, rowFill]
    rw [sumTo_add, ih (fun i hi => h i (by omega)), sumTo_one]
    congr 1
    rcases h p (by omega) with h1 | h1
    · rw [if_neg (by omega), if_pos h1]
    · rw [if_pos h1, if_neg (by omega)]
theorem sum_mat (g : Nat → Nat → Int) (n P R : Nat) (h : ∀ r p, r < R → p < P → Ok1 n (g r p)) : sumTo (fun d => matCnt g P d R) n = matFill g P R := by
  induction R with
  | zero => exact sumTo_zero n
  | succ q ih =>
    simp only [matCnt, matFill]
    rw [sumTo_add, ih (fun r p hr hp => h r p (by omega) hp), sum_row (g q) n P (fun p hp => h q p (by omega) hp)]
theorem put2_ok (g : Nat → Nat → Int) (n P r c R : Nat) (v : Int) (h : ∀ r p, r < R → p < P → Ok1 n (g r p)) (hv : Ok1 n v) : ∀ i p, i < R → p < P → Ok1 n (put2 g r c v i p) := by
  intro i p hi hp
  unfold put2 put1
  by_cases h1 : i = r
  · rw [if_pos h1]
    by_cases h2 : p = c
    · simp only [h2, if_true]; exact hv
    · simp only [h2, if_false]; exact h i p hi hp
  · rw [if_neg h1]; exact h i p hi hp
theorem sumTo_le (F : Nat → Nat) (k n : Nat) (h : k ≤ n) : sumTo F k ≤ sumTo F n := by
  induction n with
  | zero => rw [show k = 0 by omega]; exact Nat.le_refl _
  | succ n ih =>
    by_cases e : k = n + 1
    · rw [e]; exact Nat.le_refl _
    · exact Nat.le_trans (ih (by omega)) (by simp only [sumTo]; omega)
theorem MatAt.put {w : World} {N R P : Nat} {g : Nat → Nat → Int} (h : MatAt w N R P g) (r c : Nat) (v : Int) (hr : r < R) : MatAt (w.setCell ⟨N + 1 + r, c, none⟩ (.int .i32 v)) N R P (put2 g r c v) := by
  refine ⟨(heap_setCell_other w _ _ _ (by simp; omega)).trans h.1, fun i hi => ?_⟩
  by_cases e : i = r
  · subst e
    refine (heap_setCell_same w _ _ _ 21 _ (h.2 i hi)).trans ?_
    unfold rowV
    rw [arrV_set]
    congr 2
    refine arrV_congr P _ _ fun p _ => ?_
    by_cases hp : p = c
    · simp [put2, put1, hp]
    · simp [put2, put1, hp]
  · refine (heap_setCell_other w _ _ _ (by simp; omega)).trans ?_
    rw [h.2 i hi]
    simp [put2, e]
theorem cnts_eq (g : Nat → Nat → Int) (P R d : Nat) : cnts g P R 0 d = (matCnt g P d R : Int) := by simp [cnts, rowCnt]
end Go.Proofs.Qxb6612653a
