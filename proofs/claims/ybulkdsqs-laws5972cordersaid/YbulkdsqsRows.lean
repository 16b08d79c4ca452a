/-
  No cell of these rows narrows 'for every input' (looked for: loops, veiled, ifaces, maps, wideKeys, modest, calm, conditions, laid).
  DERIVED. THE GIVEN ROWS OF THIS SEAT. 2 by the template 'for every input the law returns true; each argument reads behind the call as it read before'; 0 by the template 'total and deterministic' (their statements: YbulkdsqsTotals.lean).
  GIVEN WITH THE SEED: the statements are not yours to turn. If you find one false, say at which input.
  Laid BY PROGRAM, IN A SANDBOX (cutbox-rows.mjs): the forced cells as the released guide's own fill.sh prints them over the translation c26ed0feb162eef7… (all of the seat's roots in one cut). By AI agents, Wed Nov 11 2026. No macro, syntax, notation, axiom, sorry.
-/
import Derived.Test.YbulkdsqsChecked
import GoSem.Claim
import GoSem.ClaimJoined
import GoSem.ClaimMapViews
import Derived.JoinedTies
import Derived.KernelRfl
namespace Go.Proofs.Ybulkdsqs
/- THE CELL 'sum', in the pinned program and in every row, IS THE sha256 OF THE DUMP (.gsa) THAT YbulkdsqsProg.lean LOADS. Nothing in Lean hashes anything: it is a label: what it is worth is what the hold of that sum in a sandbox is worth. -/
noncomputable def Yba.pinned : Pinned := { name := "ybulkdsqs", sum := "c26ed0feb162eef73ce412131e1df674c42adf37d2db032526455000eba98298", checked := Yba.checked }
namespace Rows
def none {H : Type} : Left H := { results := [], args := [] }

/-- 'lock.LawS5972CWhole': WHATEVER THE INPUT: true; the input reads as it did. -/
def lawS5972CWholeSpec : ChangeSpec := { name := "lawS5972CWhole", fn := fun _ => fun
  | [d1, d2] => { results := [.lit (.bool true)], args := [d1, d2] }
  | _ => none }
def lawS5972CWholeRow : OpenClaim := { program := "ybulkdsqs", sum := "c26ed0feb162eef73ce412131e1df674c42adf37d2db032526455000eba98298", func := "example.com/interlace/interlace/internal/lock.LawS5972CWhole", spec := "lawS5972CWhole", apart := false }
def LawS5972CWholeSaid : Prop := lawS5972CWholeRow.holds Yba.pinned (OpenSpec.ofChange lawS5972CWholeSpec)

/-- ITS FALSE NEIGHBOUR: 'it returns false'. Refute it at one input. -/
def lawS5972CWholeWrong : ChangeSpec := { name := "lawS5972CWhole", fn := fun _ => fun
  | [d1, d2] => { results := [.lit (.bool false)], args := [d1, d2] }
  | _ => none }
def LawS5972CWholeWrongFalsely : Prop := lawS5972CWholeRow.holds Yba.pinned (OpenSpec.ofChange lawS5972CWholeWrong)

/-- 'lock.LawS5972COrder': WHATEVER THE INPUT: true; the input reads as it did. -/
def lawS5972COrderSpec : ChangeSpec := { name := "lawS5972COrder", fn := fun _ => fun
  | [d] => { results := [.lit (.bool true)], args := [d] }
  | _ => none }
def lawS5972COrderRow : OpenClaim := { program := "ybulkdsqs", sum := "c26ed0feb162eef73ce412131e1df674c42adf37d2db032526455000eba98298", func := "example.com/interlace/interlace/internal/lock.LawS5972COrder", spec := "lawS5972COrder", unfollowed := true, recurses := true, apart := false }
def LawS5972COrderSaid : Prop := lawS5972COrderRow.holds Yba.pinned (OpenSpec.ofChange lawS5972COrderSpec)

/-- ITS FALSE NEIGHBOUR: 'it returns false'. Refute it at one input. -/
def lawS5972COrderWrong : ChangeSpec := { name := "lawS5972COrder", fn := fun _ => fun
  | [d] => { results := [.lit (.bool false)], args := [d] }
  | _ => none }
def LawS5972COrderWrongFalsely : Prop := lawS5972COrderRow.holds Yba.pinned (OpenSpec.ofChange lawS5972COrderWrong)

end Rows
end Go.Proofs.Ybulkdsqs
