/-
  LawS5970AWhole: the identifier of a byte (5) and the word of a tiding (22).
-/
import Derived.Test.YbulkdspqAData
namespace Go.Proofs.Ybulkdspq
open Go.RowKit
set_option linter.unusedSimpArgs false
set_option linter.unusedVariables false

set_option maxRecDepth 100000 in
theorem aid_any (b : Int) (w : World) : Calls Yba.prog 5 #[.int .u8 b] w fun e w' => e = .returned (.agg (idc b).toArray) ∧ w.grownBy w' none := by
  go_enter Yba.func5, Yba.ntmps5
  go_upto_region 2 with (refine wpList_is (.alloc 26) rfl ?_; refine wpList_alloc26 rfl rfl ?_)
  have hb0 : ((w.alloc (.cells (idc 0).toArray 26)).alloc (.cells (idc 0).toArray 26)).heap[w.heap.size]? = some (.cells (idc 0).toArray 26 (0, 0)) := blk_alloc (heap_alloc_new w _) _
  have hb1 : ((w.alloc (.cells (idc 0).toArray 26)).alloc (.cells (idc 0).toArray 26)).heap[w.heap.size + 1]? = some (.cells (idc 0).toArray 26 (0, 0)) := blk_new _ _ _ _ (by simp)
  have hg0 : w.grownBy ((w.alloc (.cells (idc 0).toArray 26)).alloc (.cells (idc 0).toArray 26)) none := grown_trans (World.grownBy_alloc _ _ none) (World.grownBy_alloc _ _ none)
  have hs0 : ((w.alloc (.cells (idc 0).toArray 26)).alloc (.cells (idc 0).toArray 26)).heap.size = w.heap.size + 2 := by simp
  generalize (w.alloc (.cells (idc 0).toArray 26)).alloc (.cells (idc 0).toArray 26) = w0 at *
  go_wp2_with (first
    | (refine wpList_is (.store 5 (.tmp 5) (.tmp 4)) rfl ?_; refine wpList_store_cell rfl 5 (.tmp 5) (.tmp 4) rfl (w.heap.size + 1) 0 (.int .u8 b) rfl rfl _ _ hb1 size5 (by rw [idc_len]; omega) rfl _ rfl ?_; intro w1 hb2 hg1)
    | (refine wpList_is (.store 5 (.tmp 7) (.tmp 6)) rfl ?_; refine wpList_store_cell rfl 5 (.tmp 7) (.tmp 6) rfl (w.heap.size + 1) 19 (.int .u8 b) rfl rfl _ _ hb2 size5 (by simp [idc]) rfl (idc b) rfl ?_; intro w2 hb3 hg2)
    | (refine wpList_is (.load 26 (.tmp 3)) rfl ?_; refine wpList_load_blk rfl 26 (.tmp 3) rfl (w.heap.size + 1) rfl (idc b) 26 hb3 _ Yba.underlying26 rfl (size26 b) ?_)
    | (refine wpList_is (.store 26 (.tmp 2) (.tmp 8)) rfl ?_; refine wpList_store_blk rfl 26 (.tmp 2) (.tmp 8) rfl w.heap.size (idc b) rfl rfl _ _ (keep_blk hg2 (keep_blk hg1 hb0 (by simp)) (by simp)) rfl (size26 b) (idc_one b) ?_; intro w3 hb4 hg3))
  refine bodyPost_ret (v := .agg (idc b).toArray) ?_ rfl ⟨rfl, ?_⟩
  · have hld := run_load_blk (P := Yba.prog) hb4 Yba.underlying26 rfl (size26 b)
    simp only [results, Yba.results5]
    simp [asAddr, Result.andThen, Act.put, hld]
  · have h1 := hg1.size
    have h2 := hg2.size
    have h3 := hg3.size
    refine ⟨hg3.os.trans (hg2.os.trans (hg1.os.trans hg0.os)), hg3.tape.trans (hg2.tape.trans (hg1.tape.trans hg0.tape)), hg3.output.trans (hg2.output.trans (hg1.output.trans hg0.output)), by omega, fun q hq _ => ?_⟩
    exact (hg3.block q (by omega) (by simp; omega)).trans ((hg2.block q (by omega) (by simp; omega)).trans ((hg1.block q (by omega) (by simp; omega)).trans (hg0.block q hq (by simp))))

/-- The word of a tiding. -/
def word (r ok : Bool) : Int := if ok then (if r then 2 else 1) else 0
theorem box45 (t : Tid) (w : World) : (Instr.box 45 (.agg (tc t).toArray)).run Yba.prog w = .ok (.pointer (some ⟨w.heap.size, 0, none⟩)) (w.alloc (.cells (tc t).toArray 45)) := by kernel_rfl
theorem wpList_box45 {ops : Array Oper} {rest : List Oper} {op : Oper} {a : Act} {w : World} {Q : Exit → Act → World → Prop} (hgd : op.guard = none) (x : Operand) (ho : op.op = .box 45 x) (t : Tid) (hx : a.eval x = .agg (tc t).toArray)
    (h : wpList Yba.prog ops Q rest (a.put op.dst (.pointer (some ⟨w.heap.size, 0, none⟩))) (w.alloc (.cells (tc t).toArray 45))) : wpList Yba.prog ops Q (op :: rest) a w := by
  refine wpList_plain hgd fun K hK => ?_
  unfold Oper.wp execOp
  simp only [ho, hx, Sem.run_bind, box45, Result.andThen_ok, Sem.run_pure]
  exact hK _ _ h
theorem wpList_box26 {ops : Array Oper} {rest : List Oper} {op : Oper} {a : Act} {w : World} {Q : Exit → Act → World → Prop} (hgd : op.guard = none) (x : Operand) (ho : op.op = .box 26 x) (b : Int) (hx : a.eval x = .agg (idc b).toArray)
    (h : wpList Yba.prog ops Q rest (a.put op.dst (.pointer (some ⟨w.heap.size, 0, none⟩))) (w.alloc (.cells (idc b).toArray 26))) : wpList Yba.prog ops Q (op :: rest) a w := by
  refine wpList_plain hgd fun K hK => ?_
  unfold Oper.wp execOp
  simp only [ho, hx, Sem.run_bind, box26, Result.andThen_ok, Sem.run_pure]
  exact hK _ _ h

set_option maxRecDepth 100000 in
theorem word_any (t : Tid) (ok : Bool) (w : World) : Calls Yba.prog 22 #[.agg (tc t).toArray, .bool ok] w fun e w' => e = .returned (.int .u8 (word t.r ok)) ∧ w.grownBy w' none := by
  obtain ⟨b, n, r, f⟩ := t
  cases ok <;> cases r
  all_goals
    go_enter Yba.func22, Yba.ntmps22
    go_wp2_with (first
      | (refine wpList_is (.box 45 (.tmp 0)) rfl ?_; refine wpList_box45 rfl (.tmp 0) rfl _ rfl ?_)
      | (refine wpList_is (.load 4 (.tmp 9)) rfl ?_; refine wpList_load_cell rfl 4 (.tmp 9) rfl w.heap.size 21 rfl _ _ (blk_new _ _ _ _ rfl) _ Yba.underlying4 rfl _ rfl ?_))
    refine bodyPost_ret (by kernel_rfl) rfl ⟨rfl, World.grownBy_alloc _ _ none⟩
end Go.Proofs.Ybulkdspq
