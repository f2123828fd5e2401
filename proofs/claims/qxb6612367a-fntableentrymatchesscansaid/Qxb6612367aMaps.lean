/-
  THE MAP OF CHANGES: what a look-up and a store do to its block (a map keyed by an integer type, its elements structs of two integers).
-/
import Derived.Test.Qxb6612367aRows
import Derived.WalkKit
import Derived.WalkSpells
import Derived.WalkLawsBesides
import Derived.MapKept
import Derived.ChangeMaps4
namespace Go.Proofs.Qxb6612367a
open Go.RowKit
/-- A change: its identity, the lists, when it came. -/
def mkE (x : Int × Int × Nat) : MapEntry := { key := .int .u64 x.1, val := .agg #[.int .u8 x.2.1, .int .u64 0], born := x.2.2 }
/-- The lists of the change for k. -/
def lk : List (Int × Int × Nat) → Int → Option Int
  | [], _ => none
  | x :: l, k => if k = x.1 then some x.2.1 else lk l k
def upd : List (Int × Int × Nat) → Int → Int → Nat → List (Int × Int × Nat)
  | [], k, v, c => [(k, v, c)]
  | x :: l, k, v, c => if k = x.1 then (k, v, x.2.2) :: l else x :: upd l k v c
theorem lk_upd (l : List (Int × Int × Nat)) (k v : Int) (c : Nat) (q : Int) : lk (upd l k v c) q = if q = k then some v else lk l q := by
  induction l with
  | nil => simp [upd, lk]
  | cons x l ih =>
    unfold upd
    by_cases h : k = x.1
    · rw [if_pos h]
      simp only [lk]
      by_cases hq : q = k
      · rw [if_pos hq, if_pos hq]
      · rw [if_neg hq, if_neg hq, if_neg (by rw [← h]; exact hq)]
    · rw [if_neg h]
      simp only [lk, ih]
      by_cases hx : q = x.1
      · rw [if_pos hx, if_pos hx, if_neg (by rw [hx]; exact fun e => h e.symm)]
      · rw [if_neg hx, if_neg hx]
/-- What the search for a key finds. -/
theorem findNow_at (k : Int) : ∀ (l : List (Int × Int × Nat)) (i : Nat),
    (lk l k = none ∧ Instr.findNow (.int .u64) (.int .u64 k) (l.map mkE) i = some none ∧ ∀ (v : Int) (c : Nat), upd l k v c = l ++ [(k, v, c)]) ∨
    ∃ (j : Nat) (v0 : Int), j < l.length ∧ lk l k = some v0 ∧ Instr.findNow (.int .u64) (.int .u64 k) (l.map mkE) i = some (some (i + j, .agg #[.int .u8 v0, .int .u64 0])) ∧ ((l.map mkE)[j]?).map (·.key) = some (.int .u64 k) ∧
      ∀ (v : Int) (c : Nat), (upd l k v c).map mkE = (l.map mkE).modify j (fun e => { e with key := .int .u64 k, val := .agg #[.int .u8 v, .int .u64 0] })
  | [], i => .inl ⟨rfl, rfl, fun _ _ => rfl⟩
  | x :: l, i => by
    by_cases h : k = x.1
    · refine .inr ⟨0, x.2.1, by simp, by simp [lk, h], ?_, by simp [mkE, h], fun v c => ?_⟩
      · simp [Instr.findNow, Instr.sameNow, mkE, h]
      · simp [upd, h, mkE]
    · have hs : (k == x.1) = false := by simpa using h
      rcases findNow_at k l (i + 1) with ⟨h1, h2, h3⟩ | ⟨j, v0, h0, h1, h2, h2', h3⟩
      · refine .inl ⟨by simp [lk, h, h1], ?_, fun v c => by simp [upd, h, h3]⟩
        simp only [List.map_cons, Instr.findNow, Instr.sameNow, mkE, hs, if_true]
        exact h2
      · refine .inr ⟨j + 1, v0, by simpa using h0, by simp [lk, h, h1], ?_, by simpa using h2', fun v c => ?_⟩
        · simp only [List.map_cons, Instr.findNow, Instr.sameNow, mkE, hs, if_true]
          have e : i + (j + 1) = i + 1 + j := by omega
          rw [e]
          exact h2
        · simp [upd, h, h3]

open Go.ChangeMaps (setBlock)
theorem und53 : Try.prog.underlying 53 = some (.map 40 43) := by kernel_rfl
theorem zero43 (w : World) : (zeroValue 43).run Try.prog w = .ok (.agg #[.int .u8 0, .int .u64 0]) w := by kernel_rfl
theorem check40 (e : Bool) (k : Int) (w : World) : (Instr.checkKey e 10000 40 (.int .u64 k)).run Try.prog w = .ok () w := by
  rw [show (10000 : Nat) = 9999 + 1 from rfl]
  unfold Instr.checkKey
  simp [run_underlying Try.underlying40]
theorem run_find (w : World) (k : Int) (es : List MapEntry) (r : Option (Nat × Value)) (h : Instr.findNow (.int .u64) (.int .u64 k) es 0 = some r) : (Instr.findKey 40 (.int .u64 k) es).run Try.prog w = .ok r w := by
  unfold Instr.findKey
  simp [run_underlying Try.underlying40, h]
theorem run_lookup53 (w : World) (M : Nat) (l : List (Int × Int × Nat)) (clock : Nat) (k : Int) (hM : w.heap[M]? = some (.map (l.map mkE).toArray clock)) :
    (Instr.lookup 53 (.map (some M)) (.int .u64 k) true).run Try.prog w = .ok (.tuple #[.agg #[.int .u8 ((lk l k).getD 0), .int .u64 0], .bool (lk l k).isSome]) w := by
  unfold Instr.lookup
  rcases findNow_at k l 0 with ⟨h1, h2, _⟩ | ⟨j, v0, _, h1, h2, _, _⟩
  · simp [run_underlying und53, MapKept.run_getObj_map hM, check40, run_find w k _ _ h2, h1]
  · simp [run_underlying und53, MapKept.run_getObj_map hM, check40, run_find w k _ _ h2, h1]
theorem run_update53 (w : World) (M : Nat) (l : List (Int × Int × Nat)) (clock : Nat) (k v : Int) (hM : w.heap[M]? = some (.map (l.map mkE).toArray clock)) :
    ∃ c', (Instr.mapUpdate 53 (.map (some M)) (.int .u64 k) (.agg #[.int .u8 v, .int .u64 0])).run Try.prog w = .ok () (setBlock w M (.map ((upd l k v clock).map mkE).toArray c')) := by
  unfold Instr.mapUpdate
  rcases findNow_at k l 0 with ⟨h1, h2, h3⟩ | ⟨j, v0, hj, h1, h2, hk, h3⟩
  · refine ⟨clock + 1, ?_⟩
    simp [run_underlying und53, MapKept.run_getObj_map hM, check40, run_find w k _ _ h2, MapKept.run_setObj_map _ hM, h3, setBlock, mkE]
  · refine ⟨clock, ?_⟩
    have hkk : ((((l.map mkE).toArray[j]?).map (·.key)).getD (.int .u64 k)) = .int .u64 k := by
      rw [List.getElem?_toArray, hk]; rfl
    have hst : (Instr.keyThatStays (.int .u64 k) (.int .u64 k)).run Try.prog w = .ok (.int .u64 k) w := by
      unfold Instr.keyThatStays
      simp [Instr.sameBits]
    have hmod : (l.map mkE).toArray.modify j (fun e => { e with key := .int .u64 k, val := .agg #[.int .u8 v, .int .u64 0] }) = ((upd l k v clock).map mkE).toArray := by
      rw [h3]; simp
    have h2' : Instr.findNow (.int .u64) (.int .u64 k) (l.map mkE) 0 = some (some (j, .agg #[.int .u8 v0, .int .u64 0])) := by rw [h2]; simp
    simp only [Sem.run_bind, run_underlying und53, Result.andThen_ok, MapKept.run_getObj_map hM, check40, run_find w k _ _ h2', hkk, hst, hmod, MapKept.run_setObj_map _ hM, setBlock]
end Go.Proofs.Qxb6612367a
