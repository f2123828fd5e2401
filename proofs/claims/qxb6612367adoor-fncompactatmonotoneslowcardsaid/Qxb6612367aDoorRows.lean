/-
  NARROWER THAN 'FOR EVERY INPUT', by the rows' own cells (each row's printed sentence says how): FnCompactAtMonotoneSlow: laid.
  DERIVED. THE GIVEN ROWS OF THIS SEAT. 1 by the template 'for every input the law returns true; each argument reads behind the call as it read before'; 0 by the template 'total and deterministic' (their statements: Qxb6612367aDoorTotals.lean).
  GIVEN WITH THE SEED: the statements are not yours to turn. If you find one false, say at which input.
  Laid BY PROGRAM, IN A SANDBOX (cutbox-rows.mjs): the forced cells as the released guide's own fill.sh prints them over the translation 6124651fb8fb8167… (all of the seat's roots in one cut). By AI agents, Wed Nov 11 2026. No macro, syntax, notation, axiom, sorry.
-/
import Derived.Test.Qxb6612367aDoorChecked
import GoSem.Claim
import GoSem.ClaimJoined
import GoSem.ClaimMapViews
import Derived.JoinedTies
import Derived.KernelRfl
namespace Go.Proofs.Qxb6612367aDoor
/- THE CELL 'sum', in the pinned program and in every row, IS THE sha256 OF THE DUMP (.gsa) THAT Qxb6612367aDoorProg.lean LOADS. Nothing in Lean hashes anything: it is a label: what it is worth is what the hold of that sum in a sandbox is worth. -/
noncomputable def Tryd.pinned : Pinned := { name := "qxb6612367adoor", sum := "6124651fb8fb81670f0b0c36475ba9449e6f398cfc6c4ad457401d8737ea6bef", checked := Tryd.checked }
namespace Rows
def none {H : Type} : Left H := { results := [], args := [] }

/- WHAT THE LISTED PACKAGE-LEVEL VARIABLES READ AS WHEN THE CALL BEGINS. Each datum BY PROGRAM (the guide's laid-datum.mjs) off the statement by which the dump's own 'gosem.cut.vars' lays the variable. In a bare row this is a premise. The card (Qxb6612367aDoorCards.lean) ties it to the program's text. -/
def laid_example_com_greyward_greyward_lists_minCompaction {H : Type} : DataW H := .lit (.int .i64 65536)
def laid_example_com_greyward_greyward_lists_compactionRatio {H : Type} : DataW H := .lit (.int .i64 128)

/-- 'zzlaws_lists_b1.FnCompactAtMonotoneSlow': WHATEVER THE INPUT: true; the input reads as it did. -/
def fnCompactAtMonotoneSlowSpec : ChangeSpec := { name := "fnCompactAtMonotoneSlow", vars := ["example.com/greyward/greyward/lists.minCompaction", "example.com/greyward/greyward/lists.compactionRatio"], fn := fun _ => fun
  | [d1, d2, g1, g2] => { results := [.lit (.bool true)], args := [d1, d2], vars := [g1, g2] }
  | _ => none }
def fnCompactAtMonotoneSlowRow : OpenClaim := { program := "qxb6612367adoor", sum := "6124651fb8fb81670f0b0c36475ba9449e6f398cfc6c4ad457401d8737ea6bef", func := "example.com/greyward/greyward/zzlaws_lists_b1.FnCompactAtMonotoneSlow", spec := "fnCompactAtMonotoneSlow", named := ["example.com/greyward/greyward/lists.minCompaction", "example.com/greyward/greyward/lists.compactionRatio"], apart := false, laid := [("example.com/greyward/greyward/lists.minCompaction", laid_example_com_greyward_greyward_lists_minCompaction), ("example.com/greyward/greyward/lists.compactionRatio", laid_example_com_greyward_greyward_lists_compactionRatio)] }
def FnCompactAtMonotoneSlowSaid : Prop := fnCompactAtMonotoneSlowRow.holds Tryd.pinned (OpenSpec.ofChange fnCompactAtMonotoneSlowSpec)

/-- ITS FALSE NEIGHBOUR: 'it returns false'. Refute it at one input. -/
def fnCompactAtMonotoneSlowWrong : ChangeSpec := { name := "fnCompactAtMonotoneSlow", vars := ["example.com/greyward/greyward/lists.minCompaction", "example.com/greyward/greyward/lists.compactionRatio"], fn := fun _ => fun
  | [d1, d2, g1, g2] => { results := [.lit (.bool false)], args := [d1, d2], vars := [g1, g2] }
  | _ => none }
def FnCompactAtMonotoneSlowWrongFalsely : Prop := fnCompactAtMonotoneSlowRow.holds Tryd.pinned (OpenSpec.ofChange fnCompactAtMonotoneSlowWrong)

end Rows
end Go.Proofs.Qxb6612367aDoor
