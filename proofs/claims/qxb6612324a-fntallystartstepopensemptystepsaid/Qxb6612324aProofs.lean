/-
  THE PROOF OF 'Rows.FnTallyStartStepOpensEmptyStepSaid'. The frame is the guide's own way (the shell's lines at this function's number and types; the array parameter opened by 'DataW.trod_array').
-/
import Derived.Test.Qxb6612324aWitness
import Derived.ProofKit
import Derived.OpenShut
import Derived.ShutString
import Derived.ChangeOld
import Derived.Below
namespace Go.Proofs.Qxb6612324a
open Go.ChangeShapes Go.WideShapes Go.ChangeAt Go.RowKit

theorem own : ownKnob Try.prog.godebug = none := by kernel_rfl
theorem laidOut : laidOutB Try.prog = true := by kernel_rfl

theorem okWide_array {P : Program} {w : World} {r : Reach} {base : Nat} {t : TypeId} {v : Value} {n : Nat} {e : TypeId} (ht : P.underlying t = some (.array n e)) (h : Value.okWide P w r base t v) : ∃ cs, v = .agg cs ∧ cs.size = P.cellsOf t := by
  simp only [Value.okWide, ht] at h
  obtain ⟨cs, h1, h2, _⟩ := h
  exact ⟨cs, h1, h2⟩

/-- AN ARRAY OF 1000 int64 THAT CAME IN: its cells are numbers. -/
theorem open_arr {H : Type} {enc : TypeId × Value → H} {W : World} {base : Nat} {b0 : Nat} {r : Reach} {sp : Nat → Bool} {held : Bool} {v : Value} {d : DataW H} {p : List MemPlace}
    (hv : Value.okWide Try.prog W r b0 23 v) (h : DataW.Trod enc Try.prog W base sp held 23 v d p) : ∃ zs : List Int, v = .agg (arr zs) ∧ zs.length = 1000 := by
  obtain ⟨cs, rfl, hsz⟩ := okWide_array und23 hv
  rw [cells23] at hsz
  obtain ⟨fuel, hf⟩ := h
  obtain ⟨xs, m, _, _, _, hxl, hel⟩ := DataW.trod_array und23 hf
  refine ⟨cs.toList.map intOf, ?_, by simp [hsz]⟩
  congr 1
  apply Array.ext_getElem?
  intro i
  by_cases hi : i < 1000
  · have he := hel i hi
    rw [cells2, Nat.mul_one, List.getElem?_eq_getElem (by omega)] at he
    obtain ⟨n, e1, _, _⟩ := DataW.trod_int Try.underlying2 he
    have hc : cs[i]? = some (.int .i64 n) := by
      have e2 : ((Value.agg cs).cells.toList.drop i)[0]? = some (.int .i64 n) := by
        have := congrArg (fun l => l[0]?) e1
        simpa using this
      simpa [Value.cells] using e2
    rw [hc]
    simp [arr, hc, intOf]
  · have h1 : cs[i]? = none := by simp; omega
    simp only [arr, List.map_map, List.getElem?_toArray, List.getElem?_map, Array.getElem?_toList, h1, Option.map_none]

set_option maxRecDepth 100000 in
theorem lifted (os : Os) (started : os.Started) (H : Type) (enc : TypeId × Value → H) :
    ReturnsInHanded {} Try.checked os 3 .any (Rows.fnTallyStartStepOpensEmptyStepSpec.pre6 enc Try.prog Try.f3 Rows.fnTallyStartStepOpensEmptyStepRow.domain false) (Rows.fnTallyStartStepOpensEmptyStepSpec.post enc Try.prog Try.f3 false true false false) := by
  refine returnsInHanded_of_change (C := Try.checked) own started (by kernel_rfl) Try.func3
    (witness os H enc) ?_
  intro W base args ds gs before hval0 hW hcnd _
  have hval : ∀ (j : Nat) t v, Try.f3.params[j]? = some t → args[j]? = some v → Value.okWide Try.prog W .any base t v := hval0
  have hW' := hW
  obtain ⟨p, q, hA0, hV, rfl, hfz, hnd⟩ := hW
  have hA : DataW.TrodAll enc Try.prog W 0 (fun _ => true) true Try.f3.params.toList args.toList ds p := hA0
  rw [Try.params3] at hA hval
  obtain ⟨v0, vs0, d0, ds0, p0, q0, hargs, rfl, rfl, h0, r0⟩ := trodAll_cons hA
  obtain ⟨v1, vs1, d1, ds1, p1, q1, rfl, rfl, rfl, h1, r1⟩ := trodAll_cons r0
  obtain ⟨v2, vs2, d2, ds2, p2, q2, rfl, rfl, rfl, h2, r2⟩ := trodAll_cons r1
  obtain ⟨v3, vs3, d3, ds3, p3, q3, rfl, rfl, rfl, h3, r3⟩ := trodAll_cons r2
  obtain ⟨v4, vs4, d4, ds4, p4, q4, rfl, rfl, rfl, h4, r4⟩ := trodAll_cons r3
  obtain ⟨rfl, rfl, rfl⟩ := trodAll_nil r4
  obtain rfl : args = #[v0, v1, v2, v3, v4] := by cases args; simp_all
  obtain ⟨rfl, rfl⟩ := trodVars_none hV
  obtain ⟨a0, rfl, rfl, rfl, w0⟩ := open_int Try.underlying22 (hval 0 22 v0 rfl rfl) h0
  obtain ⟨a1, rfl, rfl, rfl, w1⟩ := open_int Try.underlying22 (hval 1 22 v1 rfl rfl) h1
  obtain ⟨a2, rfl, rfl, rfl, w2⟩ := open_int Try.underlying22 (hval 2 22 v2 rfl rfl) h2
  obtain ⟨a3, rfl, rfl, rfl, w3⟩ := open_int Try.underlying22 (hval 3 22 v3 rfl rfl) h3
  have k4 := h4
  have lt4 : ∀ x ∈ p4, x.block < W.heap.size := by obtain ⟨m, hm⟩ := k4; exact DataW.trod_lt m _ _ _ hm
  obtain ⟨zs, rfl, hz⟩ := open_arr (hval 4 23 v4 rfl rfl) h4
  clear hA0 hval0
  refine (law3 a0 a1 a2 a3 zs hz W).mono fun e W' ⟨he, bel⟩ => ?_
  subst he
  exact ⟨_, rfl, _, _, _, [], _, [], hW', trodAll_mk1 (shut_bool Try.underlying4 _), (trodAll_cons_mk (shut_int Try.underlying22 w0) (trodAll_cons_mk (shut_int Try.underlying22 w1) (trodAll_cons_mk (shut_int Try.underlying22 w2) (trodAll_cons_mk (shut_int Try.underlying22 w3) (trodAll_cons_mk (Below.trod laidOut (by kernel_rfl) (of_decide_eq_true (by kernel_rfl)) k4 bel lt4) trodAll_mk0))))), rfl, bel.frame _, fun h => by cases h⟩

theorem over : Rows.fnTallyStartStepOpensEmptyStepRow.holds Try.pinned (OpenSpec.ofChange Rows.fnTallyStartStepOpensEmptyStepSpec) :=
  OpenClaim.holds_of_wide 3 Try.f3 rfl rfl rfl rfl rfl rfl rfl ⟨rfl, rfl, rfl, rfl, rfl⟩ rfl rfl rfl rfl rfl (by kernel_rfl) Try.func3 (by kernel_rfl)
    (of_decide_eq_true (by kernel_rfl)) (by unfold Func.isWrapper; first | (rw [if_pos (by decide +kernel)]; kernel_rfl) | (rw [if_neg (by decide +kernel)]; exact ⟨rfl, rfl⟩))
    (fun os started H enc _ => lifted os started H enc)

/-- THE STATEMENT. -/
theorem proved : Rows.FnTallyStartStepOpensEmptyStepSaid := over
end Go.Proofs.Qxb6612324a
