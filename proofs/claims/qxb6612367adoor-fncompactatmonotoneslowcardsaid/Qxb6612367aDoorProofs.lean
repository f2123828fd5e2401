/-
  THE PROOF OF THE TIED CARD 'Rows.FnCompactAtMonotoneSlowCardSaid': the row (the listed variables' cells out of the condition), then the card by the builder's one call.
-/
import Derived.Test.Qxb6612367aDoorWalks
import Derived.Test.Qxb6612367aDoorTie
import Derived.Test.Qxb6612367aDoorCards
import Derived.ProofKit
import Derived.LaidMore
import Derived.OpenShut
import Derived.OpenVars
import Derived.Stop.Joined
import Derived.SevenTiedAt
namespace Go.Proofs.Qxb6612367aDoor
open Go.ChangeShapes Go.WideShapes Go.ChangeAt Go.RowKit

theorem own : ownKnob Tryd.prog.godebug = none := by kernel_rfl
theorem laidOut : laidOutB Tryd.prog = true := by kernel_rfl
theorem gMin : Tryd.prog.globalNamed (Rows.fnCompactAtMonotoneSlowSpec.vars.getD 0 "") = some 0 := by kernel_rfl
theorem gRatio : Tryd.prog.globalNamed (Rows.fnCompactAtMonotoneSlowSpec.vars.getD 1 "") = some 1 := by kernel_rfl
theorem tMin : (Tryd.prog.globals[0]?).map (·.type) = some 3 := by kernel_rfl
theorem tRatio : (Tryd.prog.globals[1]?).map (·.type) = some 3 := by kernel_rfl

/-- The door's own heap meets the condition. -/
theorem door_met (os : Os) (args : Array Value) : laidMetH Tryd.prog Rows.fnCompactAtMonotoneSlowRow.laid ((World.doorLaid Tryd.prog 400 os).forCall (fun _ _ => 0) ⟨#[], args, []⟩).memory :=
  laidMetH_of_parts3 (fuel := 8) (laidMet_of_run' 8 (by kernel_rfl) (by kernel_rfl)) (by kernel_rfl) (by kernel_rfl)

/-- WHAT THE CONDITION GIVES THE WALKS: the two variables' cells. -/
theorem of_laid {W : World} (h : laidMetH Tryd.prog Rows.fnCompactAtMonotoneSlowRow.laid W) : W.cell? ⟨0, 0, none⟩ = some (.int .i64 65536) ∧ W.cell? ⟨1, 0, none⟩ = some (.int .i64 128) := by
  rw [MakeChecks.laidMetH_plain _ _ _ (by kernel_rfl)] at h
  obtain ⟨ps, ⟨g0, t0, cs0, f0, p0, q0, hg0, ht0, hv0, hd0, ⟨g1, t1, cs1, f1, p1, q1, hg1, ht1, hv1, hd1, _, _⟩, _⟩, _, _⟩ := h
  obtain rfl := Option.some.inj (gMin.symm.trans hg0)
  obtain rfl := Option.some.inj (gRatio.symm.trans hg1)
  obtain rfl := Option.some.inj (tMin.symm.trans ht0)
  obtain rfl := Option.some.inj (tRatio.symm.trans ht1)
  obtain ⟨n0, e0, x0, _⟩ := DataW.trod_int Tryd.underlying3 hd0
  obtain ⟨n1, e1, x1, _⟩ := DataW.trod_int Tryd.underlying3 hd1
  simp only [Rows.laid_example_com_greyward_greyward_lists_minCompaction, Prod.mk.injEq, DataW.lit.injEq, Lit.int.injEq, true_and] at x0
  simp only [Rows.laid_example_com_greyward_greyward_lists_compactionRatio, Prod.mk.injEq, DataW.lit.injEq, Lit.int.injEq, true_and] at x1
  obtain ⟨rfl, _⟩ := x0
  obtain ⟨rfl, _⟩ := x1
  have c0 := World.var?_cell hg0 hv0 0
  have c1 := World.var?_cell hg1 hv1 0
  rw [Array.eq_one_of_toList e0] at c0
  rw [Array.eq_one_of_toList e1] at c1
  exact ⟨by simpa using c0, by simpa using c1⟩

set_option maxRecDepth 100000 in
theorem lifted (os : Os) (started : os.Started) (H : Type) (enc : TypeId × Value → H) :
    ReturnsInHanded {} Tryd.checked os 3 .any (fun w args => (Rows.fnCompactAtMonotoneSlowSpec.pre enc Tryd.prog Tryd.f3 [] false w args ∧ laidMetH Tryd.prog Rows.fnCompactAtMonotoneSlowRow.laid w) ∧ sizedMet enc Tryd.prog Tryd.f3 (OpenSpec.ofChange Rows.fnCompactAtMonotoneSlowSpec) false w args)
      (Rows.fnCompactAtMonotoneSlowSpec.post enc Tryd.prog Tryd.f3 false true false false) := by
  refine returnsInHanded_of_change_and (C := Tryd.checked) (X := fun w _ => laidMetH Tryd.prog Rows.fnCompactAtMonotoneSlowRow.laid w) (fun _ _ _ hh h => h.of_heap hh) own started (by kernel_rfl) Tryd.func3
    (ChangeSpec.witness_shaped (enc := enc) (C := Tryd.checked) (os := os) (X := fun w _ => laidMetH Tryd.prog Rows.fnCompactAtMonotoneSlowRow.laid w) false (World.doorLaid Tryd.prog 400 os) #[.int .i64 0, .int .i64 0] 8 rfl (World.shaped_of_RefB (by kernel_rfl) (by kernel_rfl)) (by kernel_rfl) (by kernel_rfl) (by kernel_rfl) (door_met os _)) ?_
  intro W base args ds gs before hval0 hW _ _ hL _
  have hval : ∀ (j : Nat) t v, Tryd.f3.params[j]? = some t → args[j]? = some v → Value.okWide Tryd.prog W .any base t v := hval0
  have hW' := hW
  obtain ⟨p, q, hA0, hV, rfl, hfz, hnd⟩ := hW
  have hA : DataW.TrodAll enc Tryd.prog W 0 (fun _ => true) true Tryd.f3.params.toList args.toList ds p := hA0
  rw [Tryd.params3] at hA hval
  obtain ⟨v0, v1, d0, d1, p0, p1, rfl, rfl, rfl, h0, h1⟩ := trodAll_two hA
  obtain ⟨a0, rfl, rfl, rfl, w0⟩ := open_int Tryd.underlying3 (hval 0 3 v0 rfl rfl) h0
  obtain ⟨a1, rfl, rfl, rfl, w1⟩ := open_int Tryd.underlying3 (hval 1 3 v1 rfl rfl) h1
  obtain ⟨_, _, _, _, g0, _, _, _, _, _, g1, _, rfl, _⟩ := trodVars_two hV
  obtain ⟨c0, c1⟩ := of_laid hL
  have b0 : -9223372036854775808 ≤ a0 ∧ a0 ≤ 9223372036854775807 := by simpa [Lit.wf, IntKind.min, IntKind.max, IntKind.signed, IntKind.bits] using w0
  have b1 : -9223372036854775808 ≤ a1 ∧ a1 ≤ 9223372036854775807 := by simpa [Lit.wf, IntKind.min, IntKind.max, IntKind.signed, IntKind.bits] using w1
  clear hA0 hval0
  refine (c3 a0 a1 W c0 c1 b0.1 b0.2 b1.1 b1.2).mono fun e W' ⟨he, hw⟩ => ?_
  subst he; subst hw
  have bel : Below W.heap.size W W.drew.drew := ((Below.refl _ _).drew).drew
  exact ⟨_, rfl, _, _, _, [], _, q, hW', trodAll_mk1 (shut_bool Tryd.underlying4 _), trodAll_mk2 (shut_int Tryd.underlying3 w0) (shut_int Tryd.underlying3 w1), Below.trodVars laidOut bel (by kernel_rfl) hV, bel.frame _, fun h => by cases h⟩

theorem row_holds : Rows.FnCompactAtMonotoneSlowSaid :=
  OpenClaim.holds_of_wide 3 Tryd.f3 rfl rfl rfl rfl rfl rfl rfl ⟨rfl, rfl, rfl, rfl, rfl⟩ rfl rfl rfl rfl rfl (by kernel_rfl) Tryd.func3 (by kernel_rfl)
    (of_decide_eq_true (by kernel_rfl)) (by unfold Func.isWrapper; first | (rw [if_pos (by decide +kernel)]; kernel_rfl) | (rw [if_neg (by decide +kernel)]; exact ⟨rfl, rfl⟩))
    (fun os started H enc _ => lifted os started H enc)

/-- THE TIED CARD. -/
theorem proved : Rows.FnCompactAtMonotoneSlowCardSaid :=
  Claim7.holds_tied_plain_at .later [] [.data, .data] true (true, "545c6ddb8f9c10c591aafa593090b209ff1e993438d540fc92dc158218a29ab6") false
    row_holds (fun _ h => by cases h) (by kernel_rfl) (fun _ h => by cases h) fnCompactAtMonotoneSlow_row_tie rfl ⟨rfl, rfl⟩ (by kernel_rfl) rfl
    (fun f fn hf hfn => by
      obtain rfl : f = 3 := Option.some.inj ((show Tryd.prog.funcNamed Rows.fnCompactAtMonotoneSlowRow.func = some 3 by kernel_rfl).symm.trans hf) |>.symm
      obtain rfl : fn = Tryd.f3 := (Option.some.inj (Tryd.func3.symm.trans hfn)).symm
      exact ⟨by kernel_rfl, fun j t ht => by
        rw [Tryd.params3] at ht
        have hm : t ∈ [3, 3] := by simpa using Array.mem_of_getElem? ht
        have hall : ([3, 3].all fun u => !Tryd.prog.wantsStandIn u) = true := by kernel_rfl
        exact (show Tryd.prog.wantsStandIn t = false by simpa using List.all_eq_true.1 hall t hm)⟩)
    (by kernel_rfl)
end Go.Proofs.Qxb6612367aDoor
