/-
  No cell of these rows narrows 'for every input' (looked for: loops, veiled, ifaces, maps, wideKeys, modest, calm, conditions, laid).
  DERIVED. THE GIVEN ROWS OF THIS SEAT. 2 by the template 'for every input the law returns true; each argument reads behind the call as it read before'; 0 by the template 'total and deterministic' (their statements: YbulkdsooTotals.lean).
  GIVEN WITH THE SEED: the statements are not yours to turn. If you find one false, say at which input.
  Laid BY PROGRAM, IN A SANDBOX (cutbox-rows.mjs): the forced cells as the released guide's own fill.sh prints them over the translation 681f3523755c8ba4… (all of the seat's roots in one cut). By AI agents, Wed Nov 11 2026. No macro, syntax, notation, axiom, sorry.
-/
import Derived.Test.YbulkdsooChecked
import GoSem.Claim
import GoSem.ClaimJoined
import GoSem.ClaimMapViews
import Derived.JoinedTies
import Derived.KernelRfl
namespace Go.Proofs.Ybulkdsoo
/- THE CELL 'sum', in the pinned program and in every row, IS THE sha256 OF THE DUMP (.gsa) THAT YbulkdsooProg.lean LOADS. Nothing in Lean hashes anything: it is a label: what it is worth is what the hold of that sum in a sandbox is worth. -/
noncomputable def Yba.pinned : Pinned := { name := "ybulkdsoo", sum := "681f3523755c8ba48429964ea399c0da73101f48036c5d2d618a27c21766af7f", checked := Yba.checked }
namespace Rows
def none {H : Type} : Left H := { results := [], args := [] }

/-- 'lock.LawS5968AWhole': WHATEVER THE INPUT: true; the input reads as it did. -/
def lawS5968AWholeSpec : ChangeSpec := { name := "lawS5968AWhole", fn := fun _ => fun
  | [d1, d2, d3] => { results := [.lit (.bool true)], args := [d1, d2, d3] }
  | _ => none }
def lawS5968AWholeRow : OpenClaim := { program := "ybulkdsoo", sum := "681f3523755c8ba48429964ea399c0da73101f48036c5d2d618a27c21766af7f", func := "example.com/wardlock/wardlock/lock.LawS5968AWhole", spec := "lawS5968AWhole", apart := false }
def LawS5968AWholeSaid : Prop := lawS5968AWholeRow.holds Yba.pinned (OpenSpec.ofChange lawS5968AWholeSpec)

/-- ITS FALSE NEIGHBOUR: 'it returns false'. Refute it at one input. -/
def lawS5968AWholeWrong : ChangeSpec := { name := "lawS5968AWhole", fn := fun _ => fun
  | [d1, d2, d3] => { results := [.lit (.bool false)], args := [d1, d2, d3] }
  | _ => none }
def LawS5968AWholeWrongFalsely : Prop := lawS5968AWholeRow.holds Yba.pinned (OpenSpec.ofChange lawS5968AWholeWrong)

/-- 'lock.LawS5968CWhole': WHATEVER THE INPUT: true; the input reads as it did. -/
def lawS5968CWholeSpec : ChangeSpec := { name := "lawS5968CWhole", fn := fun _ => fun
  | [d1, d2] => { results := [.lit (.bool true)], args := [d1, d2] }
  | _ => none }
def lawS5968CWholeRow : OpenClaim := { program := "ybulkdsoo", sum := "681f3523755c8ba48429964ea399c0da73101f48036c5d2d618a27c21766af7f", func := "example.com/wardlock/wardlock/lock.LawS5968CWhole", spec := "lawS5968CWhole", apart := false }
def LawS5968CWholeSaid : Prop := lawS5968CWholeRow.holds Yba.pinned (OpenSpec.ofChange lawS5968CWholeSpec)

/-- ITS FALSE NEIGHBOUR: 'it returns false'. Refute it at one input. -/
def lawS5968CWholeWrong : ChangeSpec := { name := "lawS5968CWhole", fn := fun _ => fun
  | [d1, d2] => { results := [.lit (.bool false)], args := [d1, d2] }
  | _ => none }
def LawS5968CWholeWrongFalsely : Prop := lawS5968CWholeRow.holds Yba.pinned (OpenSpec.ofChange lawS5968CWholeWrong)

end Rows
end Go.Proofs.Ybulkdsoo
