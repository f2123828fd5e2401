/-
  NARROWER THAN 'FOR EVERY INPUT', by the rows' own cells (each row's printed sentence says how): FnDamagedWrapsErrDamaged: ifaces, laid.
  DERIVED. THE GIVEN ROWS OF THIS SEAT. 1 by the template 'for every input the law returns true; each argument reads behind the call as it read before'; 0 by the template 'total and deterministic' (their statements: Qxb6612367aFmtTotals.lean).
  GIVEN WITH THE SEED: the statements are not yours to turn. If you find one false, say at which input.
  Laid BY PROGRAM, IN A SANDBOX (cutbox-rows.mjs): the forced cells as the released guide's own fill.sh prints them over the translation 8aaaf35df14dbb39… (all of the seat's roots in one cut). By AI agents, Wed Nov 11 2026. No macro, syntax, notation, axiom, sorry.
-/
import Derived.Test.Qxb6612367aFmtChecked
import GoSem.Claim
import GoSem.ClaimJoined
import GoSem.ClaimMapViews
import Derived.JoinedTies
import Derived.KernelRfl
namespace Go.Proofs.Qxb6612367aFmt
/- THE CELL 'sum', in the pinned program and in every row, IS THE sha256 OF THE DUMP (.gsa) THAT Qxb6612367aFmtProg.lean LOADS. Nothing in Lean hashes anything: it is a label: what it is worth is what the hold of that sum in a sandbox is worth. -/
noncomputable def Tryf.pinned : Pinned := { name := "qxb6612367afmt", sum := "8aaaf35df14dbb393753684b991086d910b79256209864cb9fab42a2467e4035", checked := Tryf.checked }
namespace Rows
def none {H : Type} : Left H := { results := [], args := [] }

/- WHAT THE LISTED PACKAGE-LEVEL VARIABLES READ AS WHEN THE CALL BEGINS. Each datum BY PROGRAM (the guide's laid-datum.mjs) off the statement by which the dump's own 'gosem.cut.vars' lays the variable. In a bare row this is a premise. The card (Qxb6612367aFmtCards.lean) ties it to the program's text. -/
def laid_example_com_greyward_greyward_lists_ErrDamaged {H : Type} : DataW H := .iface "*errors.errorString" (.ptr (.agg [.lit (.string [100, 97, 109, 97, 103, 101, 100, 32, 115, 97, 118, 101, 100, 32, 102, 111, 114, 109])]))

/-- 'zzlaws_lists_b1.FnDamagedWrapsErrDamaged': WHATEVER THE INPUT: true; the input reads as it did. -/
def fnDamagedWrapsErrDamagedSpec : ChangeSpec := { name := "fnDamagedWrapsErrDamaged", vars := ["example.com/greyward/greyward/lists.ErrDamaged"], fn := fun _ => fun
  | [d, g1] => { results := [.lit (.bool true)], args := [d], vars := [g1] }
  | _ => none }
def fnDamagedWrapsErrDamagedRow : OpenClaim := { program := "qxb6612367afmt", sum := "8aaaf35df14dbb393753684b991086d910b79256209864cb9fab42a2467e4035", func := "example.com/greyward/greyward/zzlaws_lists_b1.FnDamagedWrapsErrDamaged", spec := "fnDamagedWrapsErrDamaged", stops := ["fmt.Sprintf", "fmt.errorf"], inPlace := ["fmt.Sprintf", "fmt.errorf", "internal/reflectlite.TypeOf"], unfollowed := true, recurses := true, named := ["example.com/greyward/greyward/lists.ErrDamaged"], ifaces := true, apart := false, laid := [("example.com/greyward/greyward/lists.ErrDamaged", laid_example_com_greyward_greyward_lists_ErrDamaged)] }
/-- NO THEOREM (fmt's text is open here; it may be false): for the released tool's asking of the row's closed facts alone. THE STATEMENT IS 'FnDamagedWrapsErrDamagedToldSaid' (Qxb6612367aFmtCards.lean). -/
def FnDamagedWrapsErrDamagedFormAsk : Prop := fnDamagedWrapsErrDamagedRow.holds Tryf.pinned (OpenSpec.ofChange fnDamagedWrapsErrDamagedSpec)

/-- ITS FALSE NEIGHBOUR: 'it returns false'. Refute it at one input. -/
def fnDamagedWrapsErrDamagedWrong : ChangeSpec := { name := "fnDamagedWrapsErrDamaged", vars := ["example.com/greyward/greyward/lists.ErrDamaged"], fn := fun _ => fun
  | [d, g1] => { results := [.lit (.bool false)], args := [d], vars := [g1] }
  | _ => none }
def FnDamagedWrapsErrDamagedWrongFormAsk : Prop := fnDamagedWrapsErrDamagedRow.holds Tryf.pinned (OpenSpec.ofChange fnDamagedWrapsErrDamagedWrong)

end Rows
end Go.Proofs.Qxb6612367aFmt
