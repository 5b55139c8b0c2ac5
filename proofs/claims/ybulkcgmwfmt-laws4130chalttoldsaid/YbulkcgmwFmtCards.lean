/-
  DERIVED. GIVEN WITH THE SEED: THE CARDS: each row of YbulkcgmwFmtRows.lean that lists a variable, with what it lists TIED to the program's text (the seventh form; the later family's looks); each row that meets fmt, with fmt's text TOLD by the authors' own Lean function (tested against real Go, not proved from fmt's source: count such statements apart). THE CARD IS WHAT COUNTS. Prove the row's statement (the work); the ties are given (YbulkcgmwFmtTie.lean); close each card by the builder's one call (the guide's Derived/Test/ToyasCard.lean, 'card_holds'). Laid BY PROGRAM, IN A SANDBOX (cutbox-door.mjs). By AI agents, Wed Nov 11 2026. No macro, syntax, notation, axiom, sorry.
-/
import Derived.Test.YbulkcgmwFmtRows
import GoSem.ClaimSeven
namespace Go.Proofs.YbulkcgmwFmt
namespace Rows

/-- THE TOLD CARD OF 'tacet.LawS4130CHalt'. -/
def lawS4130CHaltCard : Claim7 := { stood := { row := lawS4130CHaltRow, standIns := [], harness := (true, "c86a2586197a38323bb3fcc6513b63536da997ba63d67b3e83ac6ec5b83d0288"), looks := false }, told := true, goes := false }
def LawS4130CHaltToldSaid : Prop := Claim7.holds Ybaf.pinned (.plain (OpenSpec.ofChange lawS4130CHaltSpec)) lawS4130CHaltCard
/-- ITS FALSE NEIGHBOUR. Refute it at one input. -/
def LawS4130CHaltToldWrongFalsely : Prop := Claim7.holds Ybaf.pinned (.plain (OpenSpec.ofChange lawS4130CHaltWrong)) lawS4130CHaltCard
end Rows
end Go.Proofs.YbulkcgmwFmt
