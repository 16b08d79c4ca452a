/-
  LawS5970CWhole: identifiers as twenty bytes, and as numbers.
-/
import Derived.Test.YbulkdspqFmtCLaws
namespace Go.Proofs.YbulkdspqFmt
open Go.RowKit
set_option linter.unusedSimpArgs false
set_option linter.unusedVariables false

/-- The cells of twenty bytes. -/
def ab (f : Nat → Int) : List Value := [.int .u8 (f 0), .int .u8 (f 1), .int .u8 (f 2), .int .u8 (f 3), .int .u8 (f 4), .int .u8 (f 5), .int .u8 (f 6), .int .u8 (f 7), .int .u8 (f 8), .int .u8 (f 9), .int .u8 (f 10), .int .u8 (f 11), .int .u8 (f 12), .int .u8 (f 13), .int .u8 (f 14), .int .u8 (f 15), .int .u8 (f 16), .int .u8 (f 17), .int .u8 (f 18), .int .u8 (f 19)]
theorem ab_len (f : Nat → Int) : (ab f).length = 20 := rfl
theorem ab_one (f : Nat → Int) : ∀ v ∈ ab f, v.oneCell' = true := by intro v hv; simp [ab] at hv; rcases hv with rfl | rfl | rfl | rfl | rfl | rfl | rfl | rfl | rfl | rfl | rfl | rfl | rfl | rfl | rfl | rfl | rfl | rfl | rfl | rfl <;> rfl
theorem ab_get (f : Nat → Int) : ∀ i, i < 20 → (ab f)[i]? = some (.int .u8 (f i))
  | 0, _ => rfl | 1, _ => rfl | 2, _ => rfl | 3, _ => rfl | 4, _ => rfl | 5, _ => rfl | 6, _ => rfl | 7, _ => rfl | 8, _ => rfl | 9, _ => rfl | 10, _ => rfl | 11, _ => rfl | 12, _ => rfl | 13, _ => rfl | 14, _ => rfl | 15, _ => rfl | 16, _ => rfl | 17, _ => rfl | 18, _ => rfl | 19, _ => rfl
  | n + 20, h => by omega
theorem ab_set (f : Nat → Int) (i : Nat) (hi : i < 20) (z : Int) : (ab f).set i (.int .u8 z) = ab (fun j => if j = i then z else f j) := by
  apply List.ext_getElem?
  intro j
  by_cases hj : j < 20
  · have e2 := ab_get (fun j => if j = i then z else f j) j hj
    rw [List.getElem?_set, e2, ab_len]
    by_cases e : i = j
    · subst e; simp [hi]
    · rw [if_neg e, ab_get f j hj, if_neg (Ne.symm e)]
  · rw [List.getElem?_eq_none (by rw [List.length_set, ab_len]; omega), List.getElem?_eq_none (by rw [ab_len]; omega)]
theorem size25 (f : Nat → Int) : (Ybaf.prog.info? 25).map (·.size) = some (ab f).length := by kernel_rfl
theorem size5 : (Ybaf.prog.info? 5).map (·.size) = some 1 := by kernel_rfl
theorem info25 : (Ybaf.prog.info? 25).map (fun i => (i.zero, i.size, i.bytes)) = some (some (.agg (ab fun _ => 0).toArray), 20, 20) := by kernel_rfl
theorem alloc25 (w : World) : (Instr.alloc 25 true (.tuple #[])).run Ybaf.prog w = .ok (.pointer (some ⟨w.heap.size, 0, none⟩)) (w.alloc (.cells (ab fun _ => 0).toArray 25)) := by kernel_rfl
theorem wpList_alloc25 {ops : Array Oper} {rest : List Oper} {op : Oper} {a : Act} {w : World} {Q : Exit → Act → World → Prop} (hgd : op.guard = none) (ho : op.op = .alloc 25)
    (h : wpList Ybaf.prog ops Q rest (a.put op.dst (.pointer (some ⟨w.heap.size, 0, none⟩))) (w.alloc (.cells (ab fun _ => 0).toArray 25))) : wpList Ybaf.prog ops Q (op :: rest) a w := by
  refine wpList_plain hgd fun K hK => ?_
  unfold Oper.wp execOp
  simp only [ho, Sem.run_bind, alloc25, Result.andThen_ok, Sem.run_pure]
  exact hK _ _ h
theorem box25 (f : Nat → Int) (w : World) : (Instr.box 25 (.agg (ab f).toArray)).run Ybaf.prog w = .ok (.pointer (some ⟨w.heap.size, 0, none⟩)) (w.alloc (.cells (ab f).toArray 25)) := by kernel_rfl
theorem wpList_box25 {ops : Array Oper} {rest : List Oper} {op : Oper} {a : Act} {w : World} {Q : Exit → Act → World → Prop} (hgd : op.guard = none) (x : Operand) (ho : op.op = .box 25 x) (f : Nat → Int) (hx : a.eval x = .agg (ab f).toArray)
    (h : wpList Ybaf.prog ops Q rest (a.put op.dst (.pointer (some ⟨w.heap.size, 0, none⟩))) (w.alloc (.cells (ab f).toArray 25))) : wpList Ybaf.prog ops Q (op :: rest) a w := by
  refine wpList_plain hgd fun K hK => ?_
  unfold Oper.wp execOp
  simp only [ho, hx, Sem.run_bind, box25, Result.andThen_ok, Sem.run_pure]
  exact hK _ _ h

/-- The number of twenty bytes. -/
def num (f : Nat → Int) : Int := (List.range 20).foldl (fun a i => a * 256 + f i) 0
/-- Bytes. -/
def Byt (f : Nat → Int) : Prop := ∀ i, i < 20 → 0 ≤ f i ∧ f i < 256
/-- The identifier of a small number: its high byte leads, its low byte ends. -/
def cf (x : Int) : Nat → Int := fun i => if i = 0 then x / 256 else if i = 19 then x % 256 else 0

end Go.Proofs.YbulkdspqFmt
