/-
  THE WITNESS: one input that fits (four zeros, an array of 1000 zeros), shown by laws, not by a run of the kernel over 1000 cells.
-/
import Derived.Test.Qxb6612324aLaw
import Derived.ProofKit
import Derived.OpenShut
namespace Go.Proofs.Qxb6612324a
open Go.ChangeShapes Go.WideShapes Go.ChangeAt Go.RowKit
theorem cells23 : Try.prog.cellsOf 23 = 1000 := by kernel_rfl
theorem cellTypes23 : Try.prog.cellTypes Try.prog.depth 23 = some (List.replicate 1000 2) := by kernel_rfl
def witArgs : Array Value := #[.int .u64 0, .int .u64 0, .int .u64 0, .int .u64 0, .agg (arr (zeros 1000))]
def wit : Input := ⟨#[], witArgs, []⟩

theorem arr_zeros : (arr (zeros 1000)).toList = List.replicate 1000 (.int .i64 0) := by simp only [arr, zeros, List.map_replicate]
theorem zeros_get (i : Nat) (v : Value) (h : (arr (zeros 1000))[i]? = some v) : i < 1000 ∧ v = .int .i64 0 := by
  rw [← Array.getElem?_toList, arr_zeros, List.getElem?_replicate] at h
  split at h
  · exact ⟨‹_›, (Option.some.inj h).symm⟩
  · cases h

theorem ok_int (w : World) (base : Nat) (t : TypeId) (k : IntKind) (ht : Try.prog.underlying t = some (.int k)) (hk : (Lit.int k 0).wf = true) : Cell.okWide Try.prog w .any base t (.int k 0) := by
  have hk' : k.min ≤ 0 ∧ 0 ≤ k.max := by simpa [Lit.wf] using hk
  simp only [Cell.okWide, ht, Cell.ok]
  simpa [IntKind.has] using hk'

theorem ok_arr (w : World) (base : Nat) : Value.okWide Try.prog w .any base 23 (.agg (arr (zeros 1000))) := by
  unfold Value.okWide
  rw [und23]
  refine ⟨_, rfl, by rw [cells23, arr_size, zeros, List.length_replicate], List.replicate 1000 2, cellTypes23, ⟨1, by rw [arr_size, zeros, List.length_replicate, List.length_replicate]⟩, ?_⟩
  intro i v hv
  obtain ⟨hi, rfl⟩ := zeros_get i v hv
  refine ⟨2, ?_, ok_int w base 2 .i64 Try.underlying2 (by decide)⟩
  rw [List.length_replicate, Nat.mod_eq_of_lt hi, List.getElem?_replicate, if_pos hi]

theorem ok_wit (w : World) (base : Nat) : Input.okWide Try.prog w .any base 3 ⟨#[], witArgs, []⟩ := by
  refine ⟨by simp, by simp, by kernel_rfl, Try.f3, Try.func3, by kernel_rfl, by kernel_rfl, by kernel_rfl, by kernel_rfl, ?_⟩
  intro j t v ht hv
  rw [Try.params3] at ht
  have u := ok_int w base 22 .u64 Try.underlying22 (by decide)
  have u' : Value.okWide Try.prog w .any base 22 (.int .u64 0) := by unfold Value.okWide; rw [Try.underlying22]; exact u
  match j, ht, hv with
  | 0, ht, hv | 1, ht, hv | 2, ht, hv | 3, ht, hv =>
    simp [witArgs] at ht hv
    subst ht hv
    exact u'
  | 4, ht, hv =>
    simp [witArgs] at ht hv
    subst ht hv
    exact ok_arr w base
  | j + 5, ht, _ => simp at ht

theorem mapM_zeros {H : Type} (enc : TypeId × Value → H) (w : World) (base : Nat) (sp : Nat → Bool) (held : Bool) : ∀ is : List Nat, (∀ i ∈ is, i < 1000) →
    is.mapM (fun i => DataW.trod enc Try.prog w base sp held 1 2 (((List.replicate 1000 (Value.int .i64 0)).drop (i * 1)).take 1)) = some (List.replicate is.length (.lit (.int .i64 0), []))
  | [], _ => rfl
  | i :: is, h => by
    have hi : i < 1000 := h i (by simp)
    have ih := mapM_zeros enc w base sp held is (fun j hj => h j (by simp [hj]))
    have hd : ((List.replicate 1000 (Value.int .i64 0)).drop (i * 1)).take 1 = [.int .i64 0] := by
      rw [Nat.mul_one, List.drop_replicate, List.take_replicate, show min 1 (1000 - i) = 1 by omega]; rfl
    have ht : DataW.trod enc Try.prog w base sp held 1 2 [.int .i64 0] = some (.lit (.int .i64 0), []) := by simp [DataW.trod, Try.underlying2, show (Lit.int .i64 0).wf = true by decide]
    rw [List.mapM_cons, hd, ht, ih]
    rfl
theorem trod_zeros {H : Type} (enc : TypeId × Value → H) (w : World) (base : Nat) (sp : Nat → Bool) (held : Bool) :
    DataW.Trod enc Try.prog w base sp held 23 (.agg (arr (zeros 1000))) (.agg (List.replicate 1000 (.lit (.int .i64 0)))) [] := by
  refine ⟨2, ?_⟩
  unfold DataW.trod
  rw [und23]
  have hc : (Value.agg (arr (zeros 1000))).cells.toList = List.replicate 1000 (.int .i64 0) := arr_zeros
  rw [hc]
  simp only [List.length_replicate, cells23, cells2, if_true]
  rw [mapM_zeros enc w base sp held (List.range 1000) (fun i hi => by simpa using hi)]
  simp only [Option.map_some, List.length_range, List.map_replicate, Option.some.injEq, Prod.mk.injEq, true_and]
  generalize 1000 = n
  induction n with
  | zero => rfl
  | succ n ih => rw [List.replicate_succ, List.flatMap_cons, ih]; rfl

def witData {H : Type} : List (DataW H) := [.lit (.int .u64 0), .lit (.int .u64 0), .lit (.int .u64 0), .lit (.int .u64 0), .agg (List.replicate 1000 (.lit (.int .i64 0)))]
theorem whole_wit {H : Type} (enc : TypeId × Value → H) (w : World) : DataW.Whole enc Try.prog Try.f3.params.toList [] false w witArgs.toList witData [] [] := by
  refine ⟨[], [], ?_, rfl, rfl, by simp [World.noneFrozen], by simp⟩
  have hp : Try.f3.params.toList = [22, 22, 22, 22, 23] := by rw [Try.params3]
  rw [hp]
  exact trodAll_cons_mk (p := []) (shut_int Try.underlying22 (by decide)) (trodAll_cons_mk (p := []) (shut_int Try.underlying22 (by decide)) (trodAll_cons_mk (p := []) (shut_int Try.underlying22 (by decide)) (trodAll_cons_mk (p := []) (shut_int Try.underlying22 (by decide)) (trodAll_cons_mk (p := []) (trod_zeros enc w 0 _ _) trodAll_mk0))))
theorem weights_wit {H : Type} : (DataW.weightsEach (H := H) Try.prog (Try.f3.params.toList ++ (OpenSpec.ofChange Rows.fnTallyStartStepOpensEmptyStepSpec).bare.plain.varTypes Try.prog) (witData ++ [])).all (· ≤ reachBytes) = true := by kernel_rfl
theorem witness (os : Os) (H : Type) (enc : TypeId × Value → H) : ∃ (w : World) (tape : Tape) (i : Input), w.os = os ∧ (w.forCall tape i).Shaped Try.checked.prog ∧ i.vars = [] ∧ Input.okWide Try.checked.prog (w.forCall tape i) .any w.heap.size 3 i ∧
      Rows.fnTallyStartStepOpensEmptyStepSpec.pre6 enc Try.checked.prog Try.f3 Rows.fnTallyStartStepOpensEmptyStepRow.domain false (w.forCall tape i).memory i.args ∧ ({ modest := false } : Assume).holds Try.checked.prog (lone (Frame.enter Try.checked.prog 3 i.args .normal) [] (w.forCall tape i)) :=
  ⟨World.holding Try.checked.prog os wit, fun _ _ => 0, ⟨#[], wit.args, []⟩, rfl, World.shaped_of_B (by kernel_rfl) (by kernel_rfl), rfl, ok_wit _ _, ⟨⟨witData, [], [], whole_wit enc _, rfl⟩, by kernel_rfl, witData, [], [], whole_wit enc _, weights_wit⟩, by
    simp only [Assume.holds]
    exact ⟨by simp, by simp, fun _ => Modest.zero, by simp, by simp⟩⟩
end Go.Proofs.Qxb6612324a
