/-
  LawS5970CWhole: the identifier of a small number (4), the distance of two identifiers (7).
-/
import Derived.Test.YbulkdspqFmtCData
namespace Go.Proofs.YbulkdspqFmt
open Go.RowKit
set_option linter.unusedSimpArgs false
set_option linter.unusedVariables false

theorem shr8 (x : Int) (h : 0 ≤ x) (h2 : x < 65536) (w : World) : (binOp .shr 22 (.int .u16 x) (.int .u64 8)).run Ybaf.prog w = .ok (.int .u16 (x / 256)) w := by
  simp [binOp, go_sem]
theorem conv225 (x : Int) (w : World) : (convert 22 5 (.int .u16 x)).run Ybaf.prog w = .ok (.int .u8 (IntKind.u8.wrap x)) w := by kernel_rfl
theorem wrapu8 (x : Int) : IntKind.u8.wrap x = x % 256 := by
  simp [IntKind.wrap, IntKind.signed, IntKind.bits]
theorem exec_conv225 {a : Act} {o : Oper} {w : World} (x : Operand) (ho : o.op = .convert 22 5 x) (z : Int) (hx : a.eval x = .int .u16 z) : (execOp a.eval o).run Ybaf.prog w = .ok (.value (.int .u8 (z % 256))) w := by
  unfold execOp
  simp only [ho, hx, Sem.run_bind, conv225, Result.andThen_ok, Sem.run_pure, wrapu8]
theorem exec_shr8 {a : Act} {o : Oper} {w : World} (x : Operand) (ho : o.op = .binOp .shr 22 x (.const (.int .u64 8)) 49) (z : Int) (h : 0 ≤ z) (h2 : z < 65536) (hx : a.eval x = .int .u16 z) : (execOp a.eval o).run Ybaf.prog w = .ok (.value (.int .u16 (z / 256))) w := by
  have e : a.eval (.const (.int .u64 8)) = .int .u64 8 := rfl
  have hg : (eqGuard .shr 22 x (.const (.int .u64 8)) (.int .u16 z) (.int .u64 8)).run Ybaf.prog w = .ok () w := by simp [eqGuard]
  unfold execOp
  simp only [ho, hx, e, Sem.run_bind, hg, Result.andThen_ok, shr8 z h h2 w, Sem.run_pure]
theorem ab_congr {f g : Nat → Int} (h : ∀ i, i < 20 → f i = g i) : ab f = ab g := by
  apply List.ext_getElem?
  intro j
  by_cases hj : j < 20
  · rw [ab_get f j hj, ab_get g j hj, h j hj]
  · rw [List.getElem?_eq_none (by rw [ab_len]; omega), List.getElem?_eq_none (by rw [ab_len]; omega)]

set_option maxRecDepth 100000 in
theorem cid_any (x : Int) (hx0 : 0 ≤ x) (hx1 : x < 65536) (w : World) : Calls Ybaf.prog 4 #[.int .u16 x] w fun e w' => e = .returned (.agg (ab (cf x)).toArray) ∧ w.grownBy w' none := by
  go_enter Ybaf.func4, Ybaf.ntmps4
  go_upto_region 2 with (refine wpList_is (.alloc 25) rfl ?_; refine wpList_alloc25 rfl rfl ?_)
  have hb0 : ((w.alloc (.cells (ab fun _ => 0).toArray 25)).alloc (.cells (ab fun _ => 0).toArray 25)).heap[w.heap.size]? = some (.cells (ab fun _ => 0).toArray 25 (0, 0)) := blk_alloc (heap_alloc_new w _) _
  have hb1 : ((w.alloc (.cells (ab fun _ => 0).toArray 25)).alloc (.cells (ab fun _ => 0).toArray 25)).heap[w.heap.size + 1]? = some (.cells (ab fun _ => 0).toArray 25 (0, 0)) := blk_new _ _ _ _ (by simp)
  have hg0 : w.grownBy ((w.alloc (.cells (ab fun _ => 0).toArray 25)).alloc (.cells (ab fun _ => 0).toArray 25)) none := grown_trans (World.grownBy_alloc _ _ none) (World.grownBy_alloc _ _ none)
  have hs0 : ((w.alloc (.cells (ab fun _ => 0).toArray 25)).alloc (.cells (ab fun _ => 0).toArray 25)).heap.size = w.heap.size + 2 := by simp
  generalize (w.alloc (.cells (ab fun _ => 0).toArray 25)).alloc (.cells (ab fun _ => 0).toArray 25) = w0 at *
  have e1 : x / 256 % 256 = x / 256 := by omega
  have hcf : ab (fun j => if j = 19 then x % 256 else if j = 0 then x / 256 % 256 else 0) = ab (cf x) := ab_congr (fun i hi => by
    unfold cf
    by_cases h0 : i = 0
    · subst h0; simp [e1]
    · by_cases h9 : i = 19
      · subst h9; simp
      · simp [h0, h9])
  clear e1
  go_wp2_with (first
    | (refine wpList_is (.binOp .shr 22 (.tmp 4) (.const (.int .u64 8)) 49) rfl ?_; refine wpList_exec rfl _ (exec_shr8 (.tmp 4) rfl x hx0 hx1 rfl) ?_)
    | (refine wpList_is (.convert 22 5 (.tmp 5)) rfl ?_; refine wpList_exec rfl _ (exec_conv225 (.tmp 5) rfl (x / 256) rfl) ?_)
    | (refine wpList_is (.convert 22 5 (.tmp 8)) rfl ?_; refine wpList_exec rfl _ (exec_conv225 (.tmp 8) rfl x rfl) ?_)
    | (refine wpList_is (.store 5 (.tmp 7) (.tmp 6)) rfl ?_; refine wpList_store_cell rfl 5 (.tmp 7) (.tmp 6) rfl (w.heap.size + 1) 0 (.int .u8 (x / 256 % 256)) rfl rfl _ _ hb1 size5 (by rw [ab_len]; omega) rfl _ (ab_set _ 0 (by omega) _) ?_; intro w1 hb2 hg1)
    | (refine wpList_is (.store 5 (.tmp 10) (.tmp 9)) rfl ?_; refine wpList_store_cell rfl 5 (.tmp 10) (.tmp 9) rfl (w.heap.size + 1) 19 (.int .u8 (x % 256)) rfl rfl _ _ hb2 size5 (by rw [ab_len]; omega) rfl (ab (cf x)) ((ab_set _ 19 (by omega) _).trans hcf) ?_; intro w2 hb3 hg2)
    | (refine wpList_is (.load 25 (.tmp 3)) rfl ?_; refine wpList_load_blk rfl 25 (.tmp 3) rfl (w.heap.size + 1) rfl (ab (cf x)) 25 hb3 _ Ybaf.underlying25 rfl (size25 _) ?_)
    | (refine wpList_is (.store 25 (.tmp 2) (.tmp 11)) rfl ?_; refine wpList_store_blk rfl 25 (.tmp 2) (.tmp 11) rfl w.heap.size (ab (cf x)) rfl rfl _ _ (keep_blk hg2 (keep_blk hg1 hb0 (by simp)) (by simp)) rfl (size25 _) (ab_one _) ?_; intro w3 hb4 hg3))
  refine bodyPost_ret (v := .agg (ab (cf x)).toArray) ?_ rfl ⟨rfl, ?_⟩
  · have hld := run_load_blk (P := Ybaf.prog) hb4 Ybaf.underlying25 rfl (size25 (cf x))
    simp only [results, Ybaf.results4]
    simp [asAddr, Result.andThen, Act.put, hld]
  · have h1 := hg1.size
    have h2 := hg2.size
    have h3 := hg3.size
    refine ⟨hg3.os.trans (hg2.os.trans (hg1.os.trans hg0.os)), hg3.tape.trans (hg2.tape.trans (hg1.tape.trans hg0.tape)), hg3.output.trans (hg2.output.trans (hg1.output.trans hg0.output)), by omega, fun q hq _ => ?_⟩
    exact (hg3.block q (by omega) (by simp; omega)).trans ((hg2.block q (by omega) (by simp; omega)).trans ((hg1.block q (by omega) (by simp; omega)).trans (hg0.block q hq (by simp))))

end Go.Proofs.YbulkdspqFmt
