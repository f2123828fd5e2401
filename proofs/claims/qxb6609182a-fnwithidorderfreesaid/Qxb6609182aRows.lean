/-
  No cell of these rows narrows 'for every input' (looked for: loops, veiled, ifaces, maps, wideKeys, modest, calm, conditions, laid).
  DERIVED. THE GIVEN ROWS OF THIS SEAT. 2 by the template 'for every input the law returns true; each argument reads behind the call as it read before'; 0 by the template 'total and deterministic' (their statements: Qxb6609182aTotals.lean).
  GIVEN WITH THE SEED: the statements are not yours to turn. If you find one false, say at which input.
  Laid BY PROGRAM, IN A SANDBOX (cutbox-rows.mjs): the forced cells as the released guide's own fill.sh prints them over the translation 731709a8e5f860fd… (all of the seat's roots in one cut). By AI agents, Wed Nov 11 2026. No macro, syntax, notation, axiom, sorry.
-/
import Derived.Test.Qxb6609182aChecked
import GoSem.Claim
import GoSem.ClaimJoined
import GoSem.ClaimMapViews
import Derived.JoinedTies
import Derived.KernelRfl
namespace Go.Proofs.Qxb6609182a
/- THE CELL 'sum', in the pinned program and in every row, IS THE sha256 OF THE DUMP (.gsa) THAT Qxb6609182aProg.lean LOADS. Nothing in Lean hashes anything: it is a label: what it is worth is what the hold of that sum in a sandbox is worth. -/
noncomputable def Try.pinned : Pinned := { name := "qxb6609182a", sum := "731709a8e5f860fd2885d6a3fbfa133bcccdbe4e0ec52b77a9dcf43c16894133", checked := Try.checked }
namespace Rows
def none {H : Type} : Left H := { results := [], args := [] }

/-- 'zzlaws_root_b1.FnWithIDInsertsInPlace': WHATEVER THE INPUT: true; the input reads as it did. -/
def fnWithIDInsertsInPlaceSpec : ChangeSpec := { name := "fnWithIDInsertsInPlace", fn := fun _ => fun
  | [d1, d2] => { results := [.lit (.bool true)], args := [d1, d2] }
  | _ => none }
def fnWithIDInsertsInPlaceRow : OpenClaim := { program := "qxb6609182a", sum := "731709a8e5f860fd2885d6a3fbfa133bcccdbe4e0ec52b77a9dcf43c16894133", func := "example.com/oarlock/oarlock/zzlaws_root_b1.FnWithIDInsertsInPlace", spec := "fnWithIDInsertsInPlace", inPlace := ["slices.overlaps[example.com/oarlock/oarlock.NodeID]"], apart := false }
def FnWithIDInsertsInPlaceSaid : Prop := fnWithIDInsertsInPlaceRow.holds Try.pinned (OpenSpec.ofChange fnWithIDInsertsInPlaceSpec)

/-- ITS FALSE NEIGHBOUR: 'it returns false'. Refute it at one input. -/
def fnWithIDInsertsInPlaceWrong : ChangeSpec := { name := "fnWithIDInsertsInPlace", fn := fun _ => fun
  | [d1, d2] => { results := [.lit (.bool false)], args := [d1, d2] }
  | _ => none }
def FnWithIDInsertsInPlaceWrongFalsely : Prop := fnWithIDInsertsInPlaceRow.holds Try.pinned (OpenSpec.ofChange fnWithIDInsertsInPlaceWrong)

/-- 'zzlaws_root_b1.FnWithIDOrderFree': WHATEVER THE INPUT: true; the input reads as it did. -/
def fnWithIDOrderFreeSpec : ChangeSpec := { name := "fnWithIDOrderFree", fn := fun _ => fun
  | [d1, d2, d3] => { results := [.lit (.bool true)], args := [d1, d2, d3] }
  | _ => none }
def fnWithIDOrderFreeRow : OpenClaim := { program := "qxb6609182a", sum := "731709a8e5f860fd2885d6a3fbfa133bcccdbe4e0ec52b77a9dcf43c16894133", func := "example.com/oarlock/oarlock/zzlaws_root_b1.FnWithIDOrderFree", spec := "fnWithIDOrderFree", inPlace := ["slices.overlaps[example.com/oarlock/oarlock.NodeID]"], apart := false }
def FnWithIDOrderFreeSaid : Prop := fnWithIDOrderFreeRow.holds Try.pinned (OpenSpec.ofChange fnWithIDOrderFreeSpec)

/-- ITS FALSE NEIGHBOUR: 'it returns false'. Refute it at one input. -/
def fnWithIDOrderFreeWrong : ChangeSpec := { name := "fnWithIDOrderFree", fn := fun _ => fun
  | [d1, d2, d3] => { results := [.lit (.bool false)], args := [d1, d2, d3] }
  | _ => none }
def FnWithIDOrderFreeWrongFalsely : Prop := fnWithIDOrderFreeRow.holds Try.pinned (OpenSpec.ofChange fnWithIDOrderFreeWrong)

end Rows
end Go.Proofs.Qxb6609182a
