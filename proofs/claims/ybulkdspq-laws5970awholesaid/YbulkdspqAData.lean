/-
  LawS5970AWhole: the cells of its records; the identifier made of a byte.
-/
import Derived.Test.YbulkdspqALaws
namespace Go.Proofs.Ybulkdspq
open Go.RowKit
set_option linter.unusedSimpArgs false
set_option linter.unusedVariables false

/-- The cells of the identifier that is made of the byte b. -/
def idc (b : Int) : List Value := [.int .u8 b, .int .u8 0, .int .u8 0, .int .u8 0, .int .u8 0, .int .u8 0, .int .u8 0, .int .u8 0, .int .u8 0, .int .u8 0, .int .u8 0, .int .u8 0, .int .u8 0, .int .u8 0, .int .u8 0, .int .u8 0, .int .u8 0, .int .u8 0, .int .u8 0, .int .u8 b]
theorem idc_len (b : Int) : (idc b).length = 20 := rfl
theorem idc_one (b : Int) : ∀ v ∈ idc b, v.oneCell' = true := by intro v hv; simp [idc] at hv; rcases hv with rfl | rfl | rfl <;> rfl
theorem idc_cells (b : Int) : (Value.agg (idc b).toArray).cells = (idc b).toArray := rfl
theorem size26 (b : Int) : (Yba.prog.info? 26).map (·.size) = some (idc b).length := by kernel_rfl
theorem size26' : (Yba.prog.info? 26).map (·.size) = some 20 := by kernel_rfl
theorem info26 : (Yba.prog.info? 26).map (fun i => (i.zero, i.size, i.bytes)) = some (some (.agg (idc 0).toArray), 20, 20) := by kernel_rfl
theorem size5 : (Yba.prog.info? 5).map (·.size) = some 1 := by kernel_rfl
theorem idc_get0 (b : Int) : (idc b)[0]? = some (.int .u8 b) := rfl
theorem idc_get19 (b : Int) : (idc b)[19]? = some (.int .u8 b) := rfl

/-- One heard tiding. -/
structure Tid where
  b : Int
  n : Int
  r : Bool
  f : Int
/-- The cells of a tiding. -/
def tc (t : Tid) : List Value := idc t.b ++ [.int .i64 t.n, .bool t.r, .int .i64 t.f]
def tid0 : Tid := ⟨0, 0, false, 0⟩
theorem tc_len (t : Tid) : (tc t).length = 23 := rfl
theorem tc_one (t : Tid) : ∀ v ∈ tc t, v.oneCell' = true := by
  intro v hv
  simp only [tc, List.mem_append, List.mem_cons, List.not_mem_nil, or_false] at hv
  rcases hv with h | rfl | rfl | rfl
  · exact idc_one _ v h
  all_goals rfl
theorem size45 (t : Tid) : (Yba.prog.info? 45).map (·.size) = some (tc t).length := by kernel_rfl
theorem size45' : (Yba.prog.info? 45).map (·.size) = some 23 := by kernel_rfl
theorem info45 : (Yba.prog.info? 45).map (fun i => (i.zero, i.size, i.bytes)) = some (some (.agg (tc tid0).toArray), 23, 48) := by kernel_rfl
theorem info3 : (Yba.prog.info? 3).map (fun i => (i.zero, i.size, i.bytes)) = some (some (.int .i64 0), 1, 8) := by kernel_rfl
theorem info54 : (Yba.prog.info? 54).map (fun i => (i.zero, i.size, i.bytes)) = some (some (.int .u8 0), 1, 1) := by kernel_rfl
/-- One number, one verdict. -/
def ic (z : Int) : List Value := [.int .i64 z]
def vc (z : Int) : List Value := [.int .u8 z]
theorem ic_len (z : Int) : (ic z).length = 1 := rfl
theorem vc_len (z : Int) : (vc z).length = 1 := rfl
theorem ic_one (z : Int) : ∀ v ∈ ic z, v.oneCell' = true := by intro v hv; simp [ic] at hv; subst hv; rfl
theorem vc_one (z : Int) : ∀ v ∈ vc z, v.oneCell' = true := by intro v hv; simp [vc] at hv; subst hv; rfl

theorem alloc26 (w : World) : (Instr.alloc 26 true (.tuple #[])).run Yba.prog w = .ok (.pointer (some ⟨w.heap.size, 0, none⟩)) (w.alloc (.cells (idc 0).toArray 26)) := by kernel_rfl
theorem wpList_alloc26 {ops : Array Oper} {rest : List Oper} {op : Oper} {a : Act} {w : World} {Q : Exit → Act → World → Prop} (hgd : op.guard = none) (ho : op.op = .alloc 26)
    (h : wpList Yba.prog ops Q rest (a.put op.dst (.pointer (some ⟨w.heap.size, 0, none⟩))) (w.alloc (.cells (idc 0).toArray 26))) : wpList Yba.prog ops Q (op :: rest) a w := by
  refine wpList_plain hgd fun K hK => ?_
  unfold Oper.wp execOp
  simp only [ho, Sem.run_bind, alloc26, Result.andThen_ok, Sem.run_pure]
  exact hK _ _ h
theorem box26 (b : Int) (w : World) : (Instr.box 26 (.agg (idc b).toArray)).run Yba.prog w = .ok (.pointer (some ⟨w.heap.size, 0, none⟩)) (w.alloc (.cells (idc b).toArray 26)) := by kernel_rfl
end Go.Proofs.Ybulkdspq
