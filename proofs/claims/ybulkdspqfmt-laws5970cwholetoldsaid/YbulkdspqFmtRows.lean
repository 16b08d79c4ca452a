/-
  No cell of these rows narrows 'for every input' (looked for: loops, veiled, ifaces, maps, wideKeys, modest, calm, conditions, laid).
  DERIVED. THE GIVEN ROWS OF THIS SEAT. 1 by the template 'for every input the law returns true; each argument reads behind the call as it read before'; 0 by the template 'total and deterministic' (their statements: YbulkdspqFmtTotals.lean).
  GIVEN WITH THE SEED: the statements are not yours to turn. If you find one false, say at which input.
  Laid BY PROGRAM, IN A SANDBOX (cutbox-rows.mjs): the forced cells as the released guide's own fill.sh prints them over the translation d9ead45f86031c02… (all of the seat's roots in one cut). By AI agents, Wed Nov 11 2026. No macro, syntax, notation, axiom, sorry.
-/
import Derived.Test.YbulkdspqFmtChecked
import GoSem.Claim
import GoSem.ClaimJoined
import GoSem.ClaimMapViews
import Derived.JoinedTies
import Derived.KernelRfl
namespace Go.Proofs.YbulkdspqFmt
/- THE CELL 'sum', in the pinned program and in every row, IS THE sha256 OF THE DUMP (.gsa) THAT YbulkdspqFmtProg.lean LOADS. Nothing in Lean hashes anything: it is a label: what it is worth is what the hold of that sum in a sandbox is worth. -/
noncomputable def Ybaf.pinned : Pinned := { name := "ybulkdspqfmt", sum := "d9ead45f86031c02b2d4be0a242feb1458cf6874e038a498dda98de59f2d6e24", checked := Ybaf.checked }
namespace Rows
def none {H : Type} : Left H := { results := [], args := [] }

/-- 'vouchsafe.LawS5970CWhole': WHATEVER THE INPUT: true; the input reads as it did. -/
def lawS5970CWholeSpec : ChangeSpec := { name := "lawS5970CWhole", fn := fun _ => fun
  | [d1, d2, d3, d4, d5, d6, d7, d8] => { results := [.lit (.bool true)], args := [d1, d2, d3, d4, d5, d6, d7, d8] }
  | _ => none }
def lawS5970CWholeRow : OpenClaim := { program := "ybulkdspqfmt", sum := "d9ead45f86031c02b2d4be0a242feb1458cf6874e038a498dda98de59f2d6e24", func := "example.com/vouchsafe/vouchsafe.LawS5970CWhole", spec := "lawS5970CWhole", stops := ["fmt.errorf"], inPlace := ["internal/bytealg.Compare", "fmt.errorf", "math/bits.Sub64"], unfollowed := true, recurses := true, named := ["encoding/binary.BigEndian"], apart := false }
/-- NO THEOREM (fmt's text is open here; it may be false): for the released tool's asking of the row's closed facts alone. THE STATEMENT IS 'LawS5970CWholeToldSaid' (YbulkdspqFmtCards.lean). -/
def LawS5970CWholeFormAsk : Prop := lawS5970CWholeRow.holds Ybaf.pinned (OpenSpec.ofChange lawS5970CWholeSpec)

/-- ITS FALSE NEIGHBOUR: 'it returns false'. Refute it at one input. -/
def lawS5970CWholeWrong : ChangeSpec := { name := "lawS5970CWhole", fn := fun _ => fun
  | [d1, d2, d3, d4, d5, d6, d7, d8] => { results := [.lit (.bool false)], args := [d1, d2, d3, d4, d5, d6, d7, d8] }
  | _ => none }
def LawS5970CWholeWrongFormAsk : Prop := lawS5970CWholeRow.holds Ybaf.pinned (OpenSpec.ofChange lawS5970CWholeWrong)

end Rows
end Go.Proofs.YbulkdspqFmt
