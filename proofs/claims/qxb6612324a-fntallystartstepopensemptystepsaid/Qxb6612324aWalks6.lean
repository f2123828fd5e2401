import Derived.Test.Qxb6612324aWalks
import Derived.Deep.QuietTactic
import Derived.BigQuiet
/-
  THE WALK of function 6, ZZtallyFields: a loop that copies the latencies, then a return that draws its order and stores the array onto itself.
-/
namespace Go.Proofs.Qxb6612324a
open Go.RowKit
theorem und23 : Try.prog.underlying 23 = some (.array 1000 2) := by kernel_rfl
theorem run_load23 (w : World) (g : Nat) (zs : List Int) (hz : zs.length = 1000) (hg : w.heap[g]? = some (.cells (arr zs) 23 (0, 0))) : (loadVar 23 ⟨g, 0, none⟩).run Try.prog w = .ok (.agg (arr zs)) w :=
  run_loadVar_row w g 23 23 (arr zs) (0, 0) _ hg und23 rfl (by rw [info23, arr_size, hz])
theorem run_store23 (w : World) (g : Nat) (zs old : List Int) (hz : zs.length = 1000) (ho : old.length = 1000) (hg : w.heap[g]? = some (.cells (arr old) 23 (0, 0))) : (storeVar 23 ⟨g, 0, none⟩ (.agg (arr zs))).run Try.prog w = .ok () (w.setRow g (arr zs)) :=
  run_storeVar_row w g 23 23 (arr old) (arr zs) hg (by rw [info23, arr_size, hz]) (by rw [arr_size, arr_size, ho, hz]) (arr_one zs)


theorem quiet_load23 {ops : Array Oper} {C : World → Prop} {Q : Act → Prop} {rest : List Oper} {a : Act} {dst : Option Tmp} {x : Operand} {ty : TypeId} {pos : String} {after : Array Edge} {g : Nat} {zs : List Int}
    (hrun : ∀ w, C w → (loadVar 23 ⟨g, 0, none⟩).run Try.prog w = .ok (.agg (arr zs)) w) (hx : a.eval x = .pointer (some ⟨g, 0, none⟩))
    (h : wpQuiet Try.prog ops C Q rest (a.put dst (.agg (arr zs)))) : wpQuiet Try.prog ops C Q (⟨dst, .load 23 x, ty, pos, after, none⟩ :: rest) a :=
  BigFrame.wpQuiet_want rfl fun _ hK => ⟨_, fun w hw => by
    unfold Oper.quietAt execOp
    simp only [hx, Instr.loadAt, Instr.sureAddr, Sem.run_bind, Sem.run_pure, Result.andThen_ok, hrun w hw]
    exact ⟨rfl, rfl⟩, hK _ h⟩
theorem quiet_store23 {ops : Array Oper} {C : World → Prop} {Q : Act → Prop} {rest : List Oper} {a : Act} {dst : Option Tmp} {x y : Operand} {ty : TypeId} {pos : String} {after : Array Edge} {g : Nat} {zs : List Int}
    (hrun : ∀ w, C w → (storeVar 23 ⟨g, 0, none⟩ (.agg (arr zs))).run Try.prog w = .ok () w) (hx : a.eval x = .pointer (some ⟨g, 0, none⟩)) (hy : a.eval y = .agg (arr zs))
    (h : wpQuiet Try.prog ops C Q rest (a.put dst undef)) : wpQuiet Try.prog ops C Q (⟨dst, .store 23 x y, ty, pos, after, none⟩ :: rest) a :=
  BigFrame.wpQuiet_want rfl fun _ hK => ⟨_, fun w hw => by
    unfold Oper.quietAt execOp
    simp only [hx, hy, Instr.storeAt, Instr.sureAddr, Sem.run_bind, Sem.run_pure, Result.andThen_ok, hrun w hw]
    exact ⟨rfl, rfl⟩, hK _ h⟩
theorem quiet_assign_lit {P : Program} {ops : Array Oper} {C : World → Prop} {Q : Act → Prop} {rest : List Oper} {a : Act} {dst : Option Tmp} {x : Operand} {ty : TypeId} {pos : String} {after : Array Edge}
    (h : wpQuiet P ops C Q rest (a.put dst (a.eval x))) : wpQuiet P ops C Q (⟨dst, .assign x, ty, pos, after, none⟩ :: rest) a :=
  BigFrame.wpQuiet_want rfl fun _ hK => BigFrame.quiet_assign x rfl (hK _ h)
theorem below_drewN {B : Nat} {a w : World} (h : Below B a w) (n : Nat) : Below B a (w.drewN n) := ⟨h.os, h.tape, h.output, h.size, h.block⟩
set_option maxRecDepth 100000 in
set_option maxHeartbeats 400000 in
theorem fields6 (g : Nat) (r e sr se : Int) (zs : List Int) (hz : zs.length = 1000) (w : World) (hg : w.heap[g]? = some (.cells (tal r e sr se zs) 33 (0, 0))) :
    Calls Try.prog 6 #[.pointer (some ⟨g, 0, none⟩)] w fun en w' => en = .returned (.tuple #[.int .u64 r, .int .u64 e, .int .u64 sr, .int .u64 se, .agg (arr zs)]) ∧ Below w.heap.size w w' := by
  have hgl : g < w.heap.size := (Array.getElem?_eq_some_iff.1 hg).1
  have Hg : Hid _ := hg
  clear hg
  go_enter Try.func6, Try.ntmps6
  go_wp2_with (with_reducible (refine wpList_alloc23 ?_))
  go_loopw [8] (fun i wr => ∃ k : Nat, k ≤ 1000 ∧ i = .int .i64 k ∧ wr.heap[w.heap.size]? = some (.cells (arr (part1 zs k)) 23 (0, 0)) ∧ wr.heap[g]? = some (.cells (tal r e sr se zs) 33 (0, 0)) ∧ Below w.heap.size w wr) (fun i _ => 1000 - (intOf i).toNat)
  case atStart => exact ⟨0, by omega, rfl, by rw [part1_zero]; exact heap_alloc_new _ _, (Below.heap_alloc _ _ _ hgl).trans Hg.out, ((Below.refl _ _).alloc (Nat.le_refl _) _)⟩
  case round =>
    obtain ⟨k, hk, rfl, ha, ht, hb⟩ := hrel
    by_cases hlt : k < 1000
    · have c1 := arr_cell wr _ _ k ha (by rw [part1_len]; omega)
      have c2 := tal_cell wr _ r e sr se _ k ht (by rw [hz]; exact hlt)
      have f2 := frozen_of_row wr _ k _ _ ha
      have Ha : Hid _ := ha
      have Ht : Hid _ := ht
      clear ha ht
      go_wp2
      go_roundw
      case rel =>
        refine ⟨k + 1, by omega, by go_num, ?_, ?_, hb.setCell (by simp) _⟩
        · refine (heap_setCell_same wr _ _ _ 23 _ Ha.out).trans ?_
          rw [arr_set, ← getD_getElem, part1_succ zs k hlt]
        · exact (heap_setCell_other wr _ _ _ (by simp; omega)).trans Ht.out
      case measure => simp [intOf]; omega
    · obtain rfl : k = 1000 := by omega
      rw [part1_full zs hz] at ha
      obtain ⟨h0, h1, h2, h3⟩ := tal_cell0 wr g r e sr se zs ht
      have hl : ∀ w', (∃ n, w' = wr.drewN n) → (loadVar 23 ⟨w.heap.size, 0, none⟩).run Try.prog w' = .ok (.agg (arr zs)) w' := by
        rintro w' ⟨n, rfl⟩
        exact run_load23 _ w.heap.size zs hz (by simpa using ha)
      have hst : ∀ w', (∃ n, w' = wr.drewN n) → (storeVar 23 ⟨w.heap.size, 0, none⟩ (.agg (arr zs))).run Try.prog w' = .ok () w' := by
        rintro w' ⟨n, rfl⟩
        have ha' : (wr.drewN n).heap[w.heap.size]? = some (.cells (arr zs) 23 (0, 0)) := by simpa using ha
        have := run_store23 _ w.heap.size zs zs hz hz ha'
        rwa [setRow_same _ _ _ _ _ ha'] at this
      have Hl : Hid _ := hl
      have Hst : Hid _ := hst
      have Ha : Hid _ := ha
      clear ha ht hl hst
      go_wp2
      refine wp_region_quiet_lit (by kernel_rfl) (by kernel_rfl) ?_
      repeat (first | ((with_reducible (refine quiet_load23 Hl.out ?hx ?_)); case hx => rfl) | go_big_quiet_step (fail) | (with_reducible (refine quiet_assign_lit ?_)))
      with_reducible (refine quiet_store23 Hst.out ?hx ?hy ?_)
      case hx => simp [Act.put, Act.eval]
      case hy => simp [Act.put, Act.eval]
      refine wpQuiet_nil ?_
      intro _ hw'
      obtain ⟨nq, hw''⟩ := hw'
      subst hw''
      simp only [Act.put, Act.eval]
      go_wp2
      have hr := Hl.out (wr.drewN nq) ⟨nq, rfl⟩
      refine bodyPost_ret (v := .tuple #[.int .u64 r, .int .u64 e, .int .u64 sr, .int .u64 se, .agg (arr zs)]) ?_ rfl ⟨rfl, below_drewN hb nq⟩
      simp [results, Try.results6, asAddr, hr]
end Go.Proofs.Qxb6612324a
