/-
  No cell of these rows narrows 'for every input' (looked for: loops, veiled, ifaces, maps, wideKeys, modest, calm, conditions, laid).
  DERIVED. THE GIVEN ROWS OF THIS SEAT. 2 by the template 'for every input the law returns true; each argument reads behind the call as it read before'; 0 by the template 'total and deterministic' (their statements: YbulkdspqTotals.lean).
  GIVEN WITH THE SEED: the statements are not yours to turn. If you find one false, say at which input.
  Laid BY PROGRAM, IN A SANDBOX (cutbox-rows.mjs): the forced cells as the released guide's own fill.sh prints them over the translation 18274fdcea4a371c… (all of the seat's roots in one cut). By AI agents, Wed Nov 11 2026. No macro, syntax, notation, axiom, sorry.
-/
import Derived.Test.YbulkdspqChecked
import GoSem.Claim
import GoSem.ClaimJoined
import GoSem.ClaimMapViews
import Derived.JoinedTies
import Derived.KernelRfl
namespace Go.Proofs.Ybulkdspq
/- THE CELL 'sum', in the pinned program and in every row, IS THE sha256 OF THE DUMP (.gsa) THAT YbulkdspqProg.lean LOADS. Nothing in Lean hashes anything: it is a label: what it is worth is what the hold of that sum in a sandbox is worth. -/
noncomputable def Yba.pinned : Pinned := { name := "ybulkdspq", sum := "18274fdcea4a371c336308be55f8f4ed5d8d097e0bd618c7747d8266baebb7fa", checked := Yba.checked }
namespace Rows
def none {H : Type} : Left H := { results := [], args := [] }

/-- 'vouchsafe.LawS5970AWhole': WHATEVER THE INPUT: true; the input reads as it did. -/
def lawS5970AWholeSpec : ChangeSpec := { name := "lawS5970AWhole", fn := fun _ => fun
  | [d1, d2, d3, d4, d5, d6, d7, d8] => { results := [.lit (.bool true)], args := [d1, d2, d3, d4, d5, d6, d7, d8] }
  | _ => none }
def lawS5970AWholeRow : OpenClaim := { program := "ybulkdspq", sum := "18274fdcea4a371c336308be55f8f4ed5d8d097e0bd618c7747d8266baebb7fa", func := "example.com/vouchsafe/vouchsafe.LawS5970AWhole", spec := "lawS5970AWhole", unfollowed := true, recurses := true, apart := false }
def LawS5970AWholeSaid : Prop := lawS5970AWholeRow.holds Yba.pinned (OpenSpec.ofChange lawS5970AWholeSpec)

/-- ITS FALSE NEIGHBOUR: 'it returns false'. Refute it at one input. -/
def lawS5970AWholeWrong : ChangeSpec := { name := "lawS5970AWhole", fn := fun _ => fun
  | [d1, d2, d3, d4, d5, d6, d7, d8] => { results := [.lit (.bool false)], args := [d1, d2, d3, d4, d5, d6, d7, d8] }
  | _ => none }
def LawS5970AWholeWrongFalsely : Prop := lawS5970AWholeRow.holds Yba.pinned (OpenSpec.ofChange lawS5970AWholeWrong)

/-- 'node.LawS5970BWhole': WHATEVER THE INPUT: true; the input reads as it did. -/
def lawS5970BWholeSpec : ChangeSpec := { name := "lawS5970BWhole", fn := fun _ => fun
  | [d1, d2, d3] => { results := [.lit (.bool true)], args := [d1, d2, d3] }
  | _ => none }
def lawS5970BWholeRow : OpenClaim := { program := "ybulkdspq", sum := "18274fdcea4a371c336308be55f8f4ed5d8d097e0bd618c7747d8266baebb7fa", func := "example.com/vouchsafe/vouchsafe/node.LawS5970BWhole", spec := "lawS5970BWhole", inPlace := ["(*internal/sync.Mutex).Lock", "internal/race.Disable", "sync/atomic.CompareAndSwapInt32", "internal/race.Enable", "internal/race.Acquire", "(*internal/sync.Mutex).lockSlow", "internal/sync.runtime_canSpin", "internal/sync.runtime_doSpin", "internal/sync.throw", "internal/sync.runtime_nanotime", "internal/sync.runtime_SemacquireMutex", "sync/atomic.AddInt32", "(*internal/sync.Mutex).Unlock", "internal/race.ReleaseMerge", "(*internal/sync.Mutex).unlockSlow", "internal/sync.fatal", "internal/sync.runtime_Semrelease", "(*internal/sync.Mutex).TryLock"], unfollowed := true, recurses := true, apart := false }
def LawS5970BWholeSaid : Prop := lawS5970BWholeRow.holds Yba.pinned (OpenSpec.ofChange lawS5970BWholeSpec)

/-- ITS FALSE NEIGHBOUR: 'it returns false'. Refute it at one input. -/
def lawS5970BWholeWrong : ChangeSpec := { name := "lawS5970BWhole", fn := fun _ => fun
  | [d1, d2, d3] => { results := [.lit (.bool false)], args := [d1, d2, d3] }
  | _ => none }
def LawS5970BWholeWrongFalsely : Prop := lawS5970BWholeRow.holds Yba.pinned (OpenSpec.ofChange lawS5970BWholeWrong)

end Rows
end Go.Proofs.Ybulkdspq
