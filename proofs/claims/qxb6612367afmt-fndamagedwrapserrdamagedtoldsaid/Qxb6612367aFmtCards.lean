/-
  DERIVED. GIVEN WITH THE SEED: THE CARDS: each row of Qxb6612367aFmtRows.lean that lists a variable, with what it lists TIED to the program's text (the seventh form; the later family's looks); each row that meets fmt, with fmt's text TOLD by the authors' own Lean function (tested against real Go, not proved from fmt's source: count such statements apart). THE CARD IS WHAT COUNTS. Prove the row's statement (the work); the ties are given (Qxb6612367aFmtTie.lean); close each card by the builder's one call (the guide's Derived/Test/ToyasCard.lean, 'card_holds'). Laid BY PROGRAM, IN A SANDBOX (cutbox-door.mjs). By AI agents, Wed Nov 11 2026. No macro, syntax, notation, axiom, sorry.
-/
import Derived.Test.Qxb6612367aFmtRows
import GoSem.ClaimSeven
namespace Go.Proofs.Qxb6612367aFmt
namespace Rows

/-- THE TOLD AND TIED CARD OF 'zzlaws_lists_b1.FnDamagedWrapsErrDamaged'. -/
def fnDamagedWrapsErrDamagedCard : Claim7 := { stood := { row := fnDamagedWrapsErrDamagedRow, standIns := [], harness := (true, "e280bd1fe7d4680936539b75d916f5049909a4992ec2db33a71538653a48bf9d"), looks := true }, told := true, laidByText := true, laidKinds := [.sentinel], laidTests := true, laidLooks := .later, goes := false }
def FnDamagedWrapsErrDamagedToldSaid : Prop := Claim7.holds Tryf.pinned (.plain (OpenSpec.ofChange fnDamagedWrapsErrDamagedSpec)) fnDamagedWrapsErrDamagedCard
/-- ITS FALSE NEIGHBOUR. Refute it at one input. -/
def FnDamagedWrapsErrDamagedToldWrongFalsely : Prop := Claim7.holds Tryf.pinned (.plain (OpenSpec.ofChange fnDamagedWrapsErrDamagedWrong)) fnDamagedWrapsErrDamagedCard
end Rows
end Go.Proofs.Qxb6612367aFmt
