/-
  DERIVED. GIVEN WITH THE SEED: THE CARDS: each row of Qxb6612367aDoorRows.lean that lists a variable, with what it lists TIED to the program's text (the seventh form; the later family's looks); each row that meets fmt, with fmt's text TOLD by the authors' own Lean function (tested against real Go, not proved from fmt's source: count such statements apart). THE CARD IS WHAT COUNTS. Prove the row's statement (the work); the ties are given (Qxb6612367aDoorTie.lean); close each card by the builder's one call (the guide's Derived/Test/ToyasCard.lean, 'card_holds'). Laid BY PROGRAM, IN A SANDBOX (cutbox-door.mjs). By AI agents, Wed Nov 11 2026. No macro, syntax, notation, axiom, sorry.
-/
import Derived.Test.Qxb6612367aDoorRows
import GoSem.ClaimSeven
namespace Go.Proofs.Qxb6612367aDoor
namespace Rows

/-- THE TIED CARD OF 'zzlaws_lists_b1.FnCompactAtMonotoneSlow'. -/
def fnCompactAtMonotoneSlowCard : Claim7 := { stood := { row := fnCompactAtMonotoneSlowRow, standIns := [], harness := (true, "545c6ddb8f9c10c591aafa593090b209ff1e993438d540fc92dc158218a29ab6"), looks := false }, kinds := [], alts := [], laidByText := true, laidKinds := [.data, .data], laidTests := true, laidLooks := .later }
def FnCompactAtMonotoneSlowCardSaid : Prop := Claim7.holds Tryd.pinned (.plain (OpenSpec.ofChange fnCompactAtMonotoneSlowSpec)) fnCompactAtMonotoneSlowCard
end Rows
end Go.Proofs.Qxb6612367aDoor
