/-
  DERIVED. GIVEN WITH THE SEED: THE CARDS: each row of YbulkdspqFmtRows.lean that lists a variable, with what it lists TIED to the program's text (the seventh form; the later family's looks); each row that meets fmt, with fmt's text TOLD by the authors' own Lean function (tested against real Go, not proved from fmt's source: count such statements apart). THE CARD IS WHAT COUNTS. Prove the row's statement (the work); the ties are given (YbulkdspqFmtTie.lean); close each card by the builder's one call (the guide's Derived/Test/ToyasCard.lean, 'card_holds'). Laid BY PROGRAM, IN A SANDBOX (cutbox-door.mjs). By AI agents, Wed Nov 11 2026. No macro, syntax, notation, axiom, sorry.
-/
import Derived.Test.YbulkdspqFmtRows
import GoSem.ClaimSeven
namespace Go.Proofs.YbulkdspqFmt
namespace Rows

/-- THE TOLD CARD OF 'vouchsafe.LawS5970CWhole'. -/
def lawS5970CWholeCard : Claim7 := { stood := { row := lawS5970CWholeRow, standIns := [], harness := (true, "3b0c203f18047b51b9ec2dfb2523dc68c6474543db03c36e8429f2d09d794dab"), looks := false }, told := true, goes := false }
def LawS5970CWholeToldSaid : Prop := Claim7.holds Ybaf.pinned (.plain (OpenSpec.ofChange lawS5970CWholeSpec)) lawS5970CWholeCard
/-- ITS FALSE NEIGHBOUR. Refute it at one input. -/
def LawS5970CWholeToldWrongFalsely : Prop := Claim7.holds Ybaf.pinned (.plain (OpenSpec.ofChange lawS5970CWholeWrong)) lawS5970CWholeCard
end Rows
end Go.Proofs.YbulkdspqFmt
