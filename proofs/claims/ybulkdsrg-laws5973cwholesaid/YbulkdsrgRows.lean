/-
  No cell of these rows narrows 'for every input' (looked for: loops, veiled, ifaces, maps, wideKeys, modest, calm, conditions, laid).
  DERIVED. THE GIVEN ROWS OF THIS SEAT. 1 by the template 'for every input the law returns true; each argument reads behind the call as it read before'; 0 by the template 'total and deterministic' (their statements: YbulkdsrgTotals.lean).
  GIVEN WITH THE SEED: the statements are not yours to turn. If you find one false, say at which input.
  Laid BY PROGRAM, IN A SANDBOX (cutbox-rows.mjs): the forced cells as the released guide's own fill.sh prints them over the translation 510422075950fdd6… (all of the seat's roots in one cut). By AI agents, Wed Nov 11 2026. No macro, syntax, notation, axiom, sorry.
-/
import Derived.Test.YbulkdsrgChecked
import GoSem.Claim
import GoSem.ClaimJoined
import GoSem.ClaimMapViews
import Derived.JoinedTies
import Derived.KernelRfl
namespace Go.Proofs.Ybulkdsrg
/- THE CELL 'sum', in the pinned program and in every row, IS THE sha256 OF THE DUMP (.gsa) THAT YbulkdsrgProg.lean LOADS. Nothing in Lean hashes anything: it is a label: what it is worth is what the hold of that sum in a sandbox is worth. -/
noncomputable def Yba.pinned : Pinned := { name := "ybulkdsrg", sum := "510422075950fdd6315deb14e92be3d32349a1998018495fde2f796a5c4314c6", checked := Yba.checked }
namespace Rows
def none {H : Type} : Left H := { results := [], args := [] }

/-- 'flow.LawS5973CWhole': WHATEVER THE INPUT: true; the input reads as it did. -/
def lawS5973CWholeSpec : ChangeSpec := { name := "lawS5973CWhole", fn := fun _ => fun
  | [d1, d2, d3, d4, d5, d6, d7] => { results := [.lit (.bool true)], args := [d1, d2, d3, d4, d5, d6, d7] }
  | _ => none }
def lawS5973CWholeRow : OpenClaim := { program := "ybulkdsrg", sum := "510422075950fdd6315deb14e92be3d32349a1998018495fde2f796a5c4314c6", func := "example.com/flowscribe/flowscribe/internal/flow.LawS5973CWhole", spec := "lawS5973CWhole", plainKeys := false, apart := false }
def LawS5973CWholeSaid : Prop := lawS5973CWholeRow.holds Yba.pinned (OpenSpec.ofChange lawS5973CWholeSpec)

/-- ITS FALSE NEIGHBOUR: 'it returns false'. Refute it at one input. -/
def lawS5973CWholeWrong : ChangeSpec := { name := "lawS5973CWhole", fn := fun _ => fun
  | [d1, d2, d3, d4, d5, d6, d7] => { results := [.lit (.bool false)], args := [d1, d2, d3, d4, d5, d6, d7] }
  | _ => none }
def LawS5973CWholeWrongFalsely : Prop := lawS5973CWholeRow.holds Yba.pinned (OpenSpec.ofChange lawS5973CWholeWrong)

end Rows
end Go.Proofs.Ybulkdsrg
