/-
  THE TABLE AS IT IS BUILT: its invariant and what each step does to it. Lists and worlds; no walk.
-/
import Derived.Test.Qxb6612367aTable
namespace Go.Proofs.Qxb6612367a
open Go.RowKit
open Go.ChangeMaps (setBlock)
/-- A slice of integers as the walks read it: nothing, or cells in a row. -/
def Rd (k : IntKind) (w : World) (a : Option Addr) (len : Nat) (f : Nat → Int) : Prop :=
  len = 0 ∨ ∃ b off, a = some ⟨b, off, none⟩ ∧ b < w.heap.size ∧ ∀ j, j < len → w.cell? ⟨b, off + j, none⟩ = some (.int k (f j))
theorem Rd.below {k : IntKind} {w w' : World} {a : Option Addr} {len : Nat} {f : Nat → Int} (h : Rd k w a len f) (hb : Below w.heap.size w w') : Rd k w' a len f := by
  rcases h with h | ⟨b, off, ha, hl, hc⟩
  · exact .inl h
  · exact .inr ⟨b, off, ha, Nat.lt_of_lt_of_le hl hb.size, fun j hj => (hb.cell (p := ⟨b, off + j, none⟩) hl).trans (hc j hj)⟩
/-- The first n of f. -/
def firsts (f : Nat → Int) (n : Nat) : List Int := (List.range n).map f
theorem firsts_succ (f : Nat → Int) (n : Nat) : firsts f (n + 1) = firsts f n ++ [f n] := by simp [firsts, List.range_succ]
theorem firsts_len (f : Nat → Int) (n : Nat) : (firsts f n).length = n := by simp [firsts]
/-- The identities of every 128th of the first n entries. -/
def marks (f : Nat → Int) : Nat → List Int
  | 0 => []
  | n + 1 => if n % 128 = 0 then marks f n ++ [f n / 256] else marks f n
theorem marks_len (f : Nat → Int) (n : Nat) : (marks f n).length = (n + 127) / 128 := by
  induction n with
  | zero => rfl
  | succ n ih =>
    unfold marks
    split
    · rw [List.length_append, ih]; simp; omega
    · rw [ih]; omega
theorem marks_get (f : Nat → Int) (n j : Nat) (h : j < (marks f n).length) : (marks f n).getD j 0 = f (128 * j) / 256 := by
  induction n with
  | zero => simp [marks] at h
  | succ n ih =>
    have hl := marks_len f n
    unfold marks at h ⊢
    split
    · rename_i hm
      rw [if_pos hm, List.length_append, List.length_singleton] at h
      by_cases hj : j < (marks f n).length
      · have := ih hj
        simp only [List.getD, List.getElem?_append_left hj] at this ⊢
        exact this
      · have e : j = (marks f n).length := by omega
        have e2 : 128 * j = n := by omega
        rw [e2]
        simp [List.getD, e]
    · rename_i hm
      rw [if_neg hm] at h
      exact ih h

/-- THE TABLE AS IT IS BUILT, in the world wr, w the world ahead. -/
structure TI (w : World) (wr : World) (ve vb : Value) (es bs : List Int) (l : List (Int × Int × Nat)) (clock : Nat) : Prop where
  tabc : wr.heap[w.heap.size + 1]? = some (.cells (tab ve vb w.heap.size) 55 (0, 0))
  mapc : wr.heap[w.heap.size]? = some (.map (l.map mkE).toArray clock)
  ent : wr.ownsRow w.heap.size 56 1 ve es.length (es.map (Value.int .u64))
  blk : wr.ownsRow w.heap.size 40 1 vb bs.length (bs.map (Value.int .u64))
  bel : Below w.heap.size w wr
theorem own_ne_map {w : World} {B M : Nat} {e : TypeId} {v : Value} {n : Nat} {xs : List Value} {es : Array MapEntry} {c : Nat} (h : w.ownsRow B e 1 v n xs) (hM : w.heap[M]? = some (.map es c)) : some M ≠ v.ownBlock := by
  intro hk
  rcases h.2 with ⟨hv, _⟩ | ⟨g, cap, cur, hv, hg, hh, r⟩
  · rw [hv] at hk; cases hk
  · rw [hv] at hk
    obtain rfl : M = g := by simpa [Value.ownBlock] using hk
    rw [hh] at hM
    cases hM
theorem own_ne_own {w : World} {B B' : Nat} {e e' : TypeId} {v v' : Value} {n n' : Nat} {xs xs' : List Value} (h : w.ownsRow B e 1 v n xs) (h' : w.ownsRow B' e' 1 v' n' xs') (he : e ≠ e') : ∀ k, v.ownBlock = some k → some k ≠ v'.ownBlock := by
  intro k hk hk'
  rcases h'.2 with ⟨hv, _⟩ | ⟨g, cap, cur, hv, hg, hh, r⟩
  · rw [hv] at hk'; cases hk'
  · rw [hv] at hk'
    obtain rfl : k = g := by simpa [Value.ownBlock] using hk'
    exact own_ne h hh he k hk rfl
theorem Grew.below {B T : Nat} {v : Value} {w w1 w2 : World} (h : Below B w w1) (hg : Grew T v w1 w2) (hT : B ≤ T) (hB : B ≤ w1.heap.size) (hv : ∀ k, v.ownBlock = some k → B ≤ k) : Below B w w2 :=
  h.trans ⟨hg.2.1, hg.2.2.1, hg.2.2.2.1, hg.1, fun k hk => hg.2.2.2.2 k (by omega) (by omega) (fun e => by have := hv k e.symm; omega)⟩
theorem TI.step13 {w wr w1 : World} {ve vb ve' : Value} {es bs es' : List Int} {l : List (Int × Int × Nat)} {clock : Nat} (h : TI w wr ve vb es bs l clock)
    (h1 : w1.heap[w.heap.size + 1]? = some (.cells (tab ve' vb w.heap.size) 55 (0, 0))) (h2 : w1.ownsRow w.heap.size 56 1 ve' es'.length (es'.map (Value.int .u64))) (h3 : Grew (w.heap.size + 1) ve wr w1) : TI w w1 ve' vb es' bs l clock :=
  ⟨h1, (h3.2.2.2.2 _ (Array.getElem?_eq_some_iff.1 h.mapc).1 (by omega) (own_ne_map h.ent h.mapc)).trans h.mapc, h2,
   owns_kept h.blk fun k hk => h3.2.2.2.2 k (own_lt h.blk k hk).2 (own_ne h.blk h.tabc (by decide) k hk) (own_ne_own h.blk h.ent (by decide) k hk),
   h3.below h.bel (by omega) h.bel.size fun k hk => (own_lt h.ent k hk).1⟩
theorem TI.step14 {w wr w1 : World} {ve vb vb' : Value} {es bs bs' : List Int} {l : List (Int × Int × Nat)} {clock : Nat} (h : TI w wr ve vb es bs l clock)
    (h1 : w1.heap[w.heap.size + 1]? = some (.cells (tab ve vb' w.heap.size) 55 (0, 0))) (h2 : w1.ownsRow w.heap.size 40 1 vb' bs'.length (bs'.map (Value.int .u64))) (h3 : Grew (w.heap.size + 1) vb wr w1) : TI w w1 ve vb' es bs' l clock :=
  ⟨h1, (h3.2.2.2.2 _ (Array.getElem?_eq_some_iff.1 h.mapc).1 (by omega) (own_ne_map h.blk h.mapc)).trans h.mapc,
   owns_kept h.ent fun k hk => h3.2.2.2.2 k (own_lt h.ent k hk).2 (own_ne h.ent h.tabc (by decide) k hk) (own_ne_own h.ent h.blk (by decide) k hk), h2,
   h3.below h.bel (by omega) h.bel.size fun k hk => (own_lt h.blk k hk).1⟩
theorem TI.step11 {w wr : World} {ve vb : Value} {es bs : List Int} {l l' : List (Int × Int × Nat)} {clock c' : Nat} (h : TI w wr ve vb es bs l clock) : TI w (setBlock wr w.heap.size (.map (l'.map mkE).toArray c')) ve vb es bs l' c' := by
  have hm : w.heap.size < wr.heap.size := (Array.getElem?_eq_some_iff.1 h.mapc).1
  have ho : ∀ k o, k ≠ w.heap.size → (setBlock wr w.heap.size o).heap[k]? = wr.heap[k]? := fun k o hk => by
    simp only [setBlock, Array.getElem?_setIfInBounds]
    rw [if_neg (fun e => hk e.symm)]
  refine ⟨(ho _ _ (by omega)).trans h.tabc, ?_, owns_kept h.ent fun k hk => ho k _ (fun e => own_ne_map h.ent h.mapc (by rw [← e]; exact hk.symm)), owns_kept h.blk fun k hk => ho k _ (fun e => own_ne_map h.blk h.mapc (by rw [← e]; exact hk.symm)), h.bel.trans ⟨rfl, rfl, rfl, by simp [setBlock], fun k hk => ho k _ (by omega)⟩⟩
  simp [setBlock, hm]
end Go.Proofs.Qxb6612367a
