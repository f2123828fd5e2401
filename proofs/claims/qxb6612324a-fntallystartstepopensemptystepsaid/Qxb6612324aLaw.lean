import Derived.Test.Qxb6612324aWalks6
import Derived.ChangeKeysEq
import Derived.Deep.WholeRow
namespace Go.Proofs.Qxb6612324a
open Go.RowKit
theorem plain2 : Try.prog.plainKey 2 = true := by kernel_rfl
theorem cells2 : Try.prog.cellsOf 2 = 1 := by kernel_rfl
theorem guard23 : Try.prog.eqGuardType Try.prog.depth 23 = false := by kernel_rfl
theorem run_eqItems_arr (d : Nat) (zs : List Int) (w : World) : ∀ is : List Nat, (∀ i ∈ is, i < zs.length) → (Op.eqItems (d + 1) 2 1 (arr zs) (arr zs) is).run Try.prog w = .ok true w
  | [], _ => by simp [Op.eqItems]
  | i :: is, h => by
    have hi : i < zs.length := h i (by simp)
    have hc : (arr zs)[i * 1]? = some (.int .i64 zs[i]) := by simp [arr, hi]
    have ih := run_eqItems_arr d zs w is (fun j hj => h j (by simp [hj]))
    simp only [Op.eqItems, Sem.run_bind, run_part_plain w plain2 hc, Result.andThen_ok, run_equalIn_int w d 2 .i64 .i64 zs[i] zs[i] Try.underlying2]
    simpa using ih
theorem run_eq23 (zs : List Int) (hz : zs.length = 1000) (w : World) : (Op.equalIn 10000 23 (.agg (arr zs)) (.agg (arr zs))).run Try.prog w = .ok true w := by
  obtain ⟨i, hi⟩ : ∃ i, Try.prog.info? 2 = some i := Option.isSome_iff_exists.1 (by kernel_rfl)
  rw [run_equalIn_array w 9999 (arr zs) (arr zs) und23 hi, cells2]
  exact run_eqItems_arr 9998 zs w _ (fun i hi => by rw [hz]; simpa using hi)

theorem wpList_load23 {ops : Array Oper} {rest : List Oper} {a : Act} {w : World} {Q : Exit → Act → World → Prop} {dst : Option Tmp} {x : Operand} {ty : TypeId} {pos : String} {after : Array Edge} {gd : Option (Nat × Bool)} {g : Nat} {zs : List Int}
    (hg : w.heap[g]? = some (.cells (arr zs) 23 (0, 0))) (hz : zs.length = 1000) (hw : Region.wanted ⟨dst, .load 23 x, ty, pos, after, gd⟩ (yielded ops a.tmps) = true) (hx : a.eval x = .pointer (some ⟨g, 0, none⟩))
    (h : wpList Try.prog ops Q rest (a.put dst (.agg (arr zs))) w) : wpList Try.prog ops Q (⟨dst, .load 23 x, ty, pos, after, gd⟩ :: rest) a w :=
  wpList_step fun _ hK => by
    rw [if_pos hw]
    exact wp_load_row 23 x rfl g hx 23 (arr zs) (0, 0) _ hg und23 rfl (by rw [info23, arr_size, hz]) (hK _ _ h)
theorem wpList_store23 {ops : Array Oper} {rest : List Oper} {a : Act} {w : World} {Q : Exit → Act → World → Prop} {dst : Option Tmp} {x y : Operand} {ty : TypeId} {pos : String} {after : Array Edge} {zs : List Int}
    (hz : zs.length = 1000) (hx : a.eval x = .pointer (some ⟨w.heap.size, 0, none⟩)) (hy : a.eval y = .agg (arr zs))
    (h : wpList Try.prog ops Q rest (a.put dst undef) (w.alloc (.cells (arr zs) 23))) : wpList Try.prog ops Q (⟨dst, .store 23 x y, ty, pos, after, none⟩ :: rest) a (w.alloc (.cells (arr (zeros 1000)) 23)) :=
  wpList_store_row rfl 23 x y rfl w.heap.size (arr zs) hx hy 23 _ (heap_alloc_new w _) (by rw [info23, arr_size, hz]) (by rw [arr_size, arr_size, hz, zeros, List.length_replicate]) (arr_one zs) (by rw [World.setRow_alloc_new]; exact h)

set_option maxRecDepth 100000 in
set_option maxHeartbeats 400000 in
theorem law3 (r e sr se : Int) (zs : List Int) (hz : zs.length = 1000) (w : World) :
    Calls Try.prog 3 #[.int .u64 r, .int .u64 e, .int .u64 sr, .int .u64 se, .agg (arr zs)] w fun en w' => en = .returned (.bool true) ∧ Below w.heap.size w w' := by
  have hmg := guard23
  have heq := run_eq23 zs hz
  go_enter Try.func3, Try.ntmps3
  go_wp2_with ((with_reducible (refine wpList_load23 (heap_alloc_new w _) hz ?hw ?hx ?_)); (case hw => rfl); (case hx => rfl))
  refine (new_calls r e sr se zs hz _).mono ?_
  rintro _ w1 ⟨rfl, hg1, hb1, hs1⟩
  have ha1 : w1.heap[w.heap.size]? = some (.cells (arr zs) 23 (0, 0)) := (hb1.block _ (by simp)).trans (heap_alloc_new w _)
  have hB1 : Below w.heap.size w w1 := ((Below.refl _ _).alloc (Nat.le_refl _) _).trans (hb1.mono (by simp))
  simp only [World.size_alloc] at hg1 hs1
  have Hg1 : Hid _ := hg1
  have Ha1 : Hid _ := ha1
  clear hg1 ha1
  go_wp2_with fail
  refine (step5 (w.heap.size + 1 + 1) r e sr se zs _ Hg1.out).mono ?_
  rintro _ w2 ⟨rfl, hg2, ho2, hs2, e1, e2, e3⟩
  have ha2 : w2.heap[w.heap.size]? = some (.cells (arr zs) 23 (0, 0)) := (ho2 _ (by omega)).trans Ha1.out
  have hB2 : Below w.heap.size w w2 := hB1.trans ⟨e1, e2, e3, by omega, fun k hk => ho2 k (by omega)⟩
  clear ho2 e1 e2 e3
  have Hg2 : Hid _ := hg2
  have Ha2 : Hid _ := ha2
  clear hg2 ha2
  go_wp2_with fail
  refine (fields6 (w.heap.size + 1 + 1) r e r e zs hz _ Hg2.out).mono ?_
  rintro _ w3 ⟨rfl, hb3⟩
  go_wp2_with (first | (with_reducible (refine wpList_alloc23 ?_)) | ((with_reducible (refine wpList_store23 hz ?hx ?hy ?_)); (case hx => rfl); (case hy => rfl)))
  have hsz3 := hb3.size
  have hl2 : w.heap.size + 1 + 1 < w2.heap.size := (Array.getElem?_eq_some_iff.1 Hg2.out).1
  have hg3 : (w3.alloc (.cells (arr zs) 23)).heap[w.heap.size + 1 + 1]? = some (.cells (tal r e r e zs) 33 (0, 0)) := (Below.heap_alloc _ _ _ (by omega)).trans ((hb3.block _ hl2).trans Hg2.out)
  have ha3 : (w3.alloc (.cells (arr zs) 23)).heap[w.heap.size]? = some (.cells (arr zs) 23 (0, 0)) := (Below.heap_alloc _ _ _ (by omega)).trans ((hb3.block _ (by omega)).trans Ha2.out)
  have hp3 : (w3.alloc (.cells (arr zs) 23)).heap[w3.heap.size]? = some (.cells (arr zs) 23 (0, 0)) := heap_alloc_new _ _
  have hB3 : Below w.heap.size w (w3.alloc (.cells (arr zs) 23)) := (hB2.trans (hb3.mono (by omega))).alloc (by omega) _
  have Hg3 : Hid _ := hg3
  have Ha3 : Hid _ := ha3
  have Hp3 : Hid _ := hp3
  clear hg3 ha3 hp3
  refine (step5 (w.heap.size + 1 + 1) r e r e zs _ Hg3.out).mono ?_
  rintro _ w4 ⟨rfl, hg4, ho4, hs4, e1, e2, e3⟩
  have ha4 : w4.heap[w.heap.size]? = some (.cells (arr zs) 23 (0, 0)) := (ho4 _ (by omega)).trans Ha3.out
  have hp4 : w4.heap[w3.heap.size]? = some (.cells (arr zs) 23 (0, 0)) := (ho4 _ (by omega)).trans Hp3.out
  have hB4 : Below w.heap.size w w4 := hB3.trans ⟨e1, e2, e3, by omega, fun k hk => ho4 k (by omega)⟩
  clear ho4 e1 e2 e3
  have Hg4 : Hid _ := hg4
  have Ha4 : Hid _ := ha4
  have Hp4 : Hid _ := hp4
  clear hg4 ha4 hp4
  go_wp2_with fail
  refine (fields6 (w.heap.size + 1 + 1) r e r e zs hz _ Hg4.out).mono ?_
  rintro _ w5 ⟨rfl, hb5⟩
  have hsz5 := hb5.size
  have hl4 : w3.heap.size < w4.heap.size := (Array.getElem?_eq_some_iff.1 Hp4.out).1
  have ha5 : (w5.alloc (.cells (arr zs) 23)).heap[w.heap.size]? = some (.cells (arr zs) 23 (0, 0)) := (Below.heap_alloc _ _ _ (by omega)).trans ((hb5.block _ (by omega)).trans Ha4.out)
  have hp5 : (w5.alloc (.cells (arr zs) 23)).heap[w3.heap.size]? = some (.cells (arr zs) 23 (0, 0)) := (Below.heap_alloc _ _ _ (by omega)).trans ((hb5.block _ (by omega)).trans Hp4.out)
  have hq5 : (w5.alloc (.cells (arr zs) 23)).heap[w5.heap.size]? = some (.cells (arr zs) 23 (0, 0)) := heap_alloc_new _ _
  have hB5 : Below w.heap.size w (w5.alloc (.cells (arr zs) 23)) := (hB4.trans (hb5.mono (by omega))).alloc (by omega) _
  have Ha5 : Hid _ := ha5
  have Hp5 : Hid _ := hp5
  have Hq5 : Hid _ := hq5
  clear ha5 hp5 hq5
  go_wp2_with (first | (with_reducible (refine wpList_alloc23 ?_)) | ((with_reducible (refine wpList_store23 hz ?hx ?hy ?_)); (case hx => rfl); (case hy => rfl)) | ((with_reducible (refine wpList_load23 Ha5.out hz ?hw ?hx ?_)); (case hx => rfl); (case hw => rfl)) | ((with_reducible (refine wpList_load23 Hp5.out hz ?hw ?hx ?_)); (case hx => rfl); (case hw => rfl)) | ((with_reducible (refine wpList_load23 Hq5.out hz ?hw ?hx ?_)); (case hx => rfl); (case hw => rfl)))
  go_ret
  exact ⟨rfl, hB5⟩
end Go.Proofs.Qxb6612324a
