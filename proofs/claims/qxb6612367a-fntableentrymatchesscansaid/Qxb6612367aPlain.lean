/-
  THE PLAIN LAW: the search by blocks answers what the scan answers; and what ZZentry gives over the table as it was built.
-/
import Derived.Test.Qxb6612367aModel
namespace Go.Proofs.Qxb6612367a
open Go.RowKit
theorem dom_lt (f : Nat → Int) (n : Nat) (h : Dom f n) : ∀ i j, i < j → j < n → f i / 256 < f j / 256 := by
  intro i j hij hj
  induction j with
  | zero => omega
  | succ j ih =>
    have hs := h j hj
    by_cases e : i = j
    · subst e; exact hs
    · have := ih (by omega) (by omega); omega
theorem dom_le (f : Nat → Int) (n : Nat) (h : Dom f n) (i j : Nat) (hij : i ≤ j) (hj : j < n) : f i / 256 ≤ f j / 256 := by
  by_cases e : i = j
  · subst e; exact Int.le_refl _
  · have := dom_lt f n h i j (by omega) hj; omega
theorem chg_lk (fi fo : Nat → Int) (id : Int) : ∀ (n : Nat) (l : List (Int × Int × Nat)), chg fi fo n l → lk l id = lastOf fi fo id n
  | 0, l, h => by rw [show l = [] from h]; rfl
  | n + 1, l, h => by
    obtain ⟨l0, c, h0, rfl⟩ := h
    rw [lk_upd, lastOf, chg_lk fi fo id n l0 h0]
    by_cases e : fi n = id
    · rw [if_pos e, if_pos e.symm]
    · rw [if_neg e, if_neg (fun h => e h.symm)]
/-- THE BLOCK SEARCH ANSWERS WHAT THE SCAN ANSWERS. -/
theorem scan_of (f : Nat → Int) (n : Nat) (t : Int) (k i : Nat) (hd : Dom f n) (ha : After (fun j => f (128 * j) / 256) ((n + 127) / 128) t k) (hf : Found (fun j => bent f k j / 256) (blen n k) t i) : Scan f n t (sval f n t k i) (hit f n t k i) := by
  obtain ⟨ha1, ha2, ha3⟩ := ha
  obtain ⟨hf1, hf2, hf3⟩ := hf
  cases hh : hit f n t k i
  · refine .inr ⟨fun p hp he => ?_, by rw [sval, hh]; rfl, rfl⟩
    have hq1 : f (128 * (p / 128)) / 256 ≤ t := by rw [← he]; exact dom_le f n hd _ _ (by omega) hp
    have hk1 : p / 128 < k := by
      by_cases c : p / 128 < k
      · exact c
      · have h3 := ha3 (by omega)
        have := dom_le f n hd (128 * k) (128 * (p / 128)) (by omega) (by omega)
        dsimp only at h3
        omega
    have hk2 : k - 1 ≤ p / 128 := by
      by_cases c : k - 1 ≤ p / 128
      · exact c
      · have h2 := ha2 (by omega)
        have := dom_lt f n hd p (128 * (k - 1)) (by omega) (by omega)
        dsimp only at h2
        omega
    have hkq : k - 1 = p / 128 := by omega
    have hbl : blen n k = min ((k - 1) * 128 + 128) n - (k - 1) * 128 := by unfold blen; rw [if_neg (by omega)]
    have hpr : (k - 1) * 128 + p % 128 = p := by omega
    have hrl : p % 128 < blen n k := by omega
    have hir : i ≤ p % 128 := by
      by_cases c : i ≤ p % 128
      · exact c
      · have h2 := hf2 (by omega)
        have := dom_le f n hd p ((k - 1) * 128 + (i - 1)) (by omega) (by omega)
        simp only [bent] at h2
        omega
    have h3 := hf3 (by omega)
    simp only [bent] at h3
    have h4 := dom_le f n hd ((k - 1) * 128 + i) p (by omega) hp
    have h5 : f ((k - 1) * 128 + i) / 256 = t := by omega
    have : hit f n t k i = true := by simp [hit, bent, h5]; omega
    rw [hh] at this
    cases this
  · have h1 : i < blen n k ∧ bent f k i / 256 = t := by simpa [hit] using hh
    have hk0 : k ≠ 0 := by intro e; subst e; simp [blen] at h1
    have hbl : blen n k = min ((k - 1) * 128 + 128) n - (k - 1) * 128 := by unfold blen; rw [if_neg hk0]
    exact .inl ⟨(k - 1) * 128 + i, by omega, h1.2, by rw [sval, hh]; rfl, rfl⟩
theorem scan_unique (f : Nat → Int) (n : Nat) (t : Int) (hd : Dom f n) (x y : Int) (b c : Bool) (h1 : Scan f n t x b) (h2 : Scan f n t y c) : x = y ∧ b = c := by
  rcases h1 with ⟨i, hi, ei, rfl, rfl⟩ | ⟨n1, rfl, rfl⟩ <;> rcases h2 with ⟨j, hj, ej, rfl, rfl⟩ | ⟨n2, rfl, rfl⟩
  · have : i = j := by
      rcases Nat.lt_trichotomy i j with h | h | h
      · have := dom_lt f n hd i j h hj; omega
      · exact h
      · have := dom_lt f n hd j i h hi; omega
    subst this
    exact ⟨rfl, rfl⟩
  · exact absurd ei (n2 i hi)
  · exact absurd ej (n1 j hj)
  · exact ⟨rfl, rfl⟩
theorem model_unique (f0 f1 f2 : Nat → Int) (n0 n1 : Nat) (t : Int) (hd : Dom f0 n0) (x y : Int) (b c : Bool) (h1 : Model f0 f1 f2 n0 n1 t x b) (h2 : Model f0 f1 f2 n0 n1 t y c) : x = y ∧ b = c := by
  rcases h1 with ⟨v, e, rfl, rfl⟩ | ⟨e, s⟩ <;> rcases h2 with ⟨v', e', rfl, rfl⟩ | ⟨e', s'⟩
  · rw [e] at e'
    cases e'
    exact ⟨rfl, rfl⟩
  · rw [e] at e'; cases e'
  · rw [e] at e'; cases e'
  · exact scan_unique f0 n0 t hd x y b c s s'
theorem own_cell {w : World} {B : Nat} {e : TypeId} {g n cap : Nat} {xs : List Value} (h : w.ownsRow B e 1 (.slice (some ⟨g, 0, none⟩) n cap) n xs) (j : Nat) (v : Value) (hv : xs[j]? = some v) : w.cell? ⟨g, 0 + j, none⟩ = some v := by
  rcases h.2 with ⟨he, _⟩ | ⟨g', cap', cur, he, hg, hh, hn, hc, hs, ht⟩
  · cases he
  · simp only [Value.slice.injEq, Option.some.injEq, Addr.mk.injEq, and_true, true_and] at he
    obtain ⟨rfl, rfl⟩ := he
    rw [Nat.zero_add, cell_of_row w g j cur _ _ hh]
    rw [← ht, List.getElem?_take] at hv
    split at hv
    · simpa using hv
    · cases hv
theorem own_some {w : World} {B : Nat} {e : TypeId} {v : Value} {n : Nat} {xs : List Value} (h : w.ownsRow B e 1 v n xs) (hn : 0 < n) : ∃ g cap, v = .slice (some ⟨g, 0, none⟩) n cap ∧ n ≤ cap := by
  rcases h.2 with ⟨_, h0⟩ | ⟨g, cap, cur, he, _, _, hn, _⟩
  · omega
  · exact ⟨g, cap, he, hn⟩
/-- WHAT ZZentry GIVES OVER THE TABLE AS IT WAS BUILT. -/
theorem entry_all (f0 f1 f2 : Nat → Int) (n0 n1 : Nat) (id : Int) (w w1 : World) (ve vb : Value) (l : List (Int × Int × Nat)) (clock : Nat) (ti : TI w w1 ve vb (firsts f0 n0) (marks f0 n0) l clock) (hc : chg f1 f2 n1 l)
    (hnil : n0 = 0 → ve = .slice none 0 0 ∧ vb = .slice none 0 0) (hn0 : n0 ≤ 1048576) (hd : Dom f0 n0) :
    Calls Try.prog 8 #[.pointer (some ⟨w.heap.size + 1, 0, none⟩), .int .u64 id] w1 fun e w' => Gives (Model f0 f1 f2 n0 n1 id) w1 e w' := by
  have hlk := chg_lk f1 f2 id n1 l hc
  refine entry8 _ _ _ _ ?_
  cases hv : lk l id with
  | some v =>
    refine (entry15_hit _ _ ve vb l clock id v w1 ti.tabc ti.mapc hv).mono ?_
    rintro e w' ⟨rfl, hb⟩
    exact ⟨v, v != 0, .inl ⟨v, by rw [← hlk, hv], rfl, rfl⟩, rfl, hb⟩
  | none =>
    have hT : w.heap.size + 1 < w1.heap.size := (Array.getElem?_eq_some_iff.1 ti.tabc).1
    refine entry15_miss _ _ ve vb l clock id w1 _ ti.tabc ti.mapc hv fun W hW => ?_
    by_cases h0 : n0 = 0
    · obtain ⟨rfl, rfl⟩ := hnil h0
      refine (sorted16_nil _ _ id W ((hW.block _ hT).trans ti.tabc)).mono ?_
      rintro e w' ⟨rfl, hb⟩
      exact ⟨0, false, .inr ⟨by rw [← hlk, hv], .inr ⟨fun i hi => by omega, rfl, rfl⟩⟩, rfl, hb⟩
    · have he := ti.ent
      have hbk := ti.blk
      rw [firsts_len] at he
      have hml := marks_len f0 n0
      obtain ⟨ge, cape, rfl, hcape⟩ := own_some he (by omega)
      obtain ⟨gb, capb, rfl, hcapb⟩ := own_some hbk (by omega)
      have hge : ge < w1.heap.size := (own_lt he ge rfl).2
      have hgb : gb < w1.heap.size := (own_lt hbk gb rfl).2
      rw [hml] at hbk hcapb
      have hT' := (hW.block _ hT).trans ti.tabc
      rw [hml] at hT'
      refine (sorted16 _ _ gb ge ((n0 + 127) / 128) capb n0 cape (fun j => f0 (128 * j) / 256) f0 id W hT' hn0 hcape (by omega) (fun k h1 h2 => by omega) (fun j hj => dom_lt f0 n0 hd _ _ (by omega) (by omega)) (fun j hj => ?_) (fun j hj => ?_)).mono ?_
      · rw [hW.cell (p := ⟨gb, 0 + j, none⟩) hgb]
        refine own_cell hbk j _ ?_
        have hj' : j < (marks f0 n0).length := by omega
        rw [List.getElem?_map, ← marks_get f0 n0 j hj']
        simp [List.getD, hj']
      · rw [hW.cell (p := ⟨ge, 0 + j, none⟩) hge]
        refine own_cell he j _ ?_
        simp [firsts, hj]
      · rintro e w' ⟨k, i, hA, hF, rfl, hb⟩
        exact ⟨_, _, .inr ⟨by rw [← hlk, hv], scan_of f0 n0 id k i hd hA hF⟩, rfl, hb⟩
end Go.Proofs.Qxb6612367a
