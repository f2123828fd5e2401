/-
  THE PLAIN PART: the tally's block and the array as lists of numbers; small laws on blocks. Nothing of the walk.
-/
import Derived.Test.Qxb6612324aRows
import Derived.WalkKit
import Derived.WalkSpells
import Derived.WalkLawsBesides
namespace Go.Proofs.Qxb6612324a
open Go.RowKit

/-- The tally's block: four counts, then the latencies. -/
def tal (r e sr se : Int) (zs : List Int) : Array Value := (.int .u64 r :: .int .u64 e :: .int .u64 sr :: .int .u64 se :: zs.map (Value.int .i64)).toArray
/-- The array's block. -/
def arr (zs : List Int) : Array Value := (zs.map (Value.int .i64)).toArray
def zeros (n : Nat) : List Int := List.replicate n 0

theorem tal_cell (w : World) (g : Nat) (r e sr se : Int) (zs : List Int) (j : Nat) (hg : w.heap[g]? = some (.cells (tal r e sr se zs) 33 (0, 0))) (hj : j < zs.length) : w.cell? ⟨g, 4 + j, none⟩ = some (.int .i64 (zs.getD j 0)) := by
  rw [cell_of_row w g _ _ _ _ hg]
  simp [tal, Nat.add_comm 4 j, hj]
theorem tal_cell0 (w : World) (g : Nat) (r e sr se : Int) (zs : List Int) (hg : w.heap[g]? = some (.cells (tal r e sr se zs) 33 (0, 0))) : w.cell? ⟨g, 0, none⟩ = some (.int .u64 r) ∧ w.cell? ⟨g, 1, none⟩ = some (.int .u64 e) ∧ w.cell? ⟨g, 2, none⟩ = some (.int .u64 sr) ∧ w.cell? ⟨g, 3, none⟩ = some (.int .u64 se) := by
  refine ⟨?_, ?_, ?_, ?_⟩ <;> rw [cell_of_row w g _ _ _ _ hg] <;> simp [tal]
theorem tal_set (r e sr se : Int) (zs : List Int) (k : Nat) (v : Int) : (tal r e sr se zs).setIfInBounds (4 + k) (.int .i64 v) = tal r e sr se (zs.set k v) := by
  unfold tal
  rw [Nat.add_comm]
  simp [List.setIfInBounds_toArray, List.set_cons_succ, List.map_set]
theorem tal_step (r e sr se : Int) (zs : List Int) : ((tal r e sr se zs).setIfInBounds 2 (.int .u64 r)).setIfInBounds 3 (.int .u64 e) = tal r e r e zs := by
  unfold tal
  simp [List.setIfInBounds_toArray]
theorem arr_cell (w : World) (g : Nat) (zs : List Int) (j : Nat) (hg : w.heap[g]? = some (.cells (arr zs) 23 (0, 0))) (hj : j < zs.length) : w.cell? ⟨g, j, none⟩ = some (.int .i64 (zs.getD j 0)) := by
  rw [cell_of_row w g _ _ _ _ hg]
  simp [arr, hj]
theorem arr_set (zs : List Int) (k : Nat) (v : Int) : (arr zs).setIfInBounds k (.int .i64 v) = arr (zs.set k v) := by
  unfold arr
  simp [List.setIfInBounds_toArray, List.map_set]
theorem arr_size (zs : List Int) : (arr zs).size = zs.length := by simp [arr]
theorem arr_one (zs : List Int) : (arr zs).all (·.oneCell') = true := by
  rw [Array.all_eq_true_iff_forall_mem]
  intro v hv
  simp only [arr, List.mem_toArray, List.mem_map] at hv
  obtain ⟨z, _, rfl⟩ := hv
  rfl
theorem getD_getElem (zs : List Int) (k : Nat) (h : k < zs.length) : zs.getD k 0 = zs[k] := by simp [List.getD, h]

/-- The first k numbers laid, the rest zero. -/
def part1 (zs : List Int) (k : Nat) : List Int := (List.range 1000).map fun j => if j < k then zs.getD j 0 else 0
theorem part1_len (zs : List Int) (k : Nat) : (part1 zs k).length = 1000 := by simp [part1]
theorem part1_get (zs : List Int) (k j : Nat) : (part1 zs k)[j]? = if j < 1000 then some (if j < k then zs.getD j 0 else 0) else none := by
  unfold part1
  rw [List.getElem?_map]
  by_cases h : j < 1000
  · rw [List.getElem?_range h, if_pos h]; rfl
  · rw [List.getElem?_eq_none (by simp; omega), if_neg h]; rfl
theorem part1_succ (zs : List Int) (k : Nat) (hk : k < 1000) : (part1 zs k).set k (zs.getD k 0) = part1 zs (k + 1) := by
  apply List.ext_getElem?
  intro j
  rw [List.getElem?_set, part1_len, part1_get, part1_get]
  by_cases hjk : k = j
  · subst hjk
    rw [if_pos rfl, if_pos hk, if_pos hk, if_pos (Nat.lt_succ_self _)]
  · rw [if_neg hjk]
    by_cases h1 : j < k
    · rw [if_pos h1, if_pos (by omega : j < k + 1)]
    · rw [if_neg h1, if_neg (by omega : ¬ j < k + 1)]
theorem part1_zero (zs : List Int) : part1 zs 0 = zeros 1000 := by
  apply List.ext_getElem?
  intro j
  rw [part1_get, zeros, List.getElem?_replicate, if_neg (Nat.not_lt_zero j)]
theorem part1_full (zs : List Int) (hz : zs.length = 1000) : part1 zs 1000 = zs := by
  apply List.ext_getElem?
  intro j
  rw [part1_get]
  by_cases h : j < 1000
  · rw [if_pos h, if_pos h, List.getElem?_eq_getElem (by omega)]; simp [List.getD, List.getElem?_eq_getElem (show j < zs.length by omega)]
  · rw [if_neg h, List.getElem?_eq_none (by omega)]

theorem setRow_same (w : World) (g : Nat) (cs : Array Value) (t : TypeId) (fr : Nat × Nat) (hg : w.heap[g]? = some (.cells cs t fr)) : w.setRow g cs = w := by
  have hh : (w.setRow g cs).heap = w.heap := by
    apply Array.ext_getElem?
    intro i
    by_cases h : i = g
    · subst h
      rw [setRow_heap w i cs cs t fr hg, hg]
    · exact setRow_other w g i cs h
  show { w with heap := (w.setRow g cs).heap } = w
  rw [hh]

theorem built33 (r e sr se : Int) : Try.prog.built 33 [(0, .int .u64 r), (1, .int .u64 e), (2, .int .u64 sr), (3, .int .u64 se)] = some (tal r e sr se (zeros 1000)) := by kernel_rfl
theorem info23 : (Try.prog.info? 23).map (·.size) = some 1000 := by kernel_rfl

theorem wpList_build_lit {P : Program} {ops : Array Oper} {rest : List Oper} {a : Act} {w : World} {Q : Exit → Act → World → Prop} {dst : Option Tmp} {ty : TypeId} {pos : String} {after : Array Edge} {t : TypeId} {parts : Array (Nat × Operand)}
    {l : List (Nat × Value)} {cells : Array Value} (hc : P.built t l = some cells) (hl : parts.toList.map (fun p => (p.1, a.eval p.2)) = l)
    (h : wpList P ops Q rest (a.put dst (.agg cells)) w) : wpList P ops Q (⟨dst, .build t parts, ty, pos, after, none⟩ :: rest) a w := by
  have hl' : (parts.map fun (i, x) => (i, a.eval x)).toList = l := by rw [← hl]; simp
  exact wpList_plain rfl fun _ hK => wp_build t parts rfl (by rw [hl', hc]; rfl) (by rw [hl', hc]; exact hK _ _ h)

theorem run_alloc23 (w : World) : (Instr.alloc 23 true (.tuple #[])).run Try.prog w = .ok (.pointer (some ⟨w.heap.size, 0, none⟩)) (w.alloc (.cells (arr (zeros 1000)) 23)) := by kernel_rfl
theorem wpList_alloc23 {ops : Array Oper} {rest : List Oper} {a : Act} {w : World} {Q : Exit → Act → World → Prop} {dst : Option Tmp} {ty : TypeId} {pos : String} {after : Array Edge}
    (h : wpList Try.prog ops Q rest (a.put dst (.pointer (some ⟨w.heap.size, 0, none⟩))) (w.alloc (.cells (arr (zeros 1000)) 23))) : wpList Try.prog ops Q (⟨dst, .alloc 23, ty, pos, after, none⟩ :: rest) a w :=
  wpList_plain rfl fun K hK => by
    unfold Oper.wp execOp
    simp only [Sem.run_bind, run_alloc23, Result.andThen_ok]
    exact hK _ _ h
end Go.Proofs.Qxb6612324a
