/-
  No cell of these rows narrows 'for every input' (looked for: loops, veiled, ifaces, maps, wideKeys, modest, calm, conditions, laid).
  DERIVED. THE GIVEN ROWS OF THIS SEAT. 1 by the template 'for every input the law returns true; each argument reads behind the call as it read before'; 0 by the template 'total and deterministic' (their statements: Qxb6612324aTotals.lean).
  GIVEN WITH THE SEED: the statements are not yours to turn. If you find one false, say at which input.
  Laid BY PROGRAM, IN A SANDBOX (cutbox-rows.mjs): the forced cells as the released guide's own fill.sh prints them over the translation 9bae8128b5d22bc9… (all of the seat's roots in one cut). By AI agents, Wed Nov 11 2026. No macro, syntax, notation, axiom, sorry.
-/
import Derived.Test.Qxb6612324aChecked
import GoSem.Claim
import GoSem.ClaimJoined
import GoSem.ClaimMapViews
import Derived.JoinedTies
import Derived.KernelRfl
namespace Go.Proofs.Qxb6612324a
/- THE CELL 'sum', in the pinned program and in every row, IS THE sha256 OF THE DUMP (.gsa) THAT Qxb6612324aProg.lean LOADS. Nothing in Lean hashes anything: it is a label: what it is worth is what the hold of that sum in a sandbox is worth. -/
noncomputable def Try.pinned : Pinned := { name := "qxb6612324a", sum := "9bae8128b5d22bc94b4b920633b6b2e951832aa79c5b6fc983ed9739aeeb875f", checked := Try.checked }
namespace Rows
def none {H : Type} : Left H := { results := [], args := [] }

/-- 'zzlaws_proxy_b1.FnTallyStartStepOpensEmptyStep': WHATEVER THE INPUT: true; the input reads as it did. -/
def fnTallyStartStepOpensEmptyStepSpec : ChangeSpec := { name := "fnTallyStartStepOpensEmptyStep", fn := fun _ => fun
  | [d1, d2, d3, d4, d5] => { results := [.lit (.bool true)], args := [d1, d2, d3, d4, d5] }
  | _ => none }
def fnTallyStartStepOpensEmptyStepRow : OpenClaim := { program := "qxb6612324a", sum := "9bae8128b5d22bc94b4b920633b6b2e951832aa79c5b6fc983ed9739aeeb875f", func := "example.com/slipway/slipway/zzlaws_proxy_b1.FnTallyStartStepOpensEmptyStep", spec := "fnTallyStartStepOpensEmptyStep", apart := false }
def FnTallyStartStepOpensEmptyStepSaid : Prop := fnTallyStartStepOpensEmptyStepRow.holds Try.pinned (OpenSpec.ofChange fnTallyStartStepOpensEmptyStepSpec)

/-- ITS FALSE NEIGHBOUR: 'it returns false'. Refute it at one input. -/
def fnTallyStartStepOpensEmptyStepWrong : ChangeSpec := { name := "fnTallyStartStepOpensEmptyStep", fn := fun _ => fun
  | [d1, d2, d3, d4, d5] => { results := [.lit (.bool false)], args := [d1, d2, d3, d4, d5] }
  | _ => none }
def FnTallyStartStepOpensEmptyStepWrongFalsely : Prop := fnTallyStartStepOpensEmptyStepRow.holds Try.pinned (OpenSpec.ofChange fnTallyStartStepOpensEmptyStepWrong)

end Rows
end Go.Proofs.Qxb6612324a
