/-
  LawS5970CWhole: Adjacent (22).
-/
import Derived.Test.YbulkdspqFmtCSearch
namespace Go.Proofs.YbulkdspqFmt
open Go.RowKit
set_option linter.unusedSimpArgs false
set_option linter.unusedVariables false

/-- Adjacent's clockwise answer. -/
def cwB (s : Int) (ids : List Int) (x : Int) : Bool := if x = s then false else decide (rk s ids x = 0)
/-- Adjacent's counter-clockwise answer. -/
def ccB (s : Int) (ids : List Int) (x : Int) : Bool := if x = s then false else if x ∈ ids then decide ((rk s ids x : Int) = (ids.length : Int) - 1) else decide ((rk s ids x : Int) = (ids.length : Int))
theorem exec_sub3 {a : Act} {o : Oper} {w : World} (x y : Operand) (ho : o.op = .binOp .sub 3 x y 3) (p q : Int) (h1 : -9223372036854775808 ≤ p - q) (h2 : p - q < 9223372036854775808) (hx : a.eval x = .int .i64 p) (hy : a.eval y = .int .i64 q) : (execOp a.eval o).run Ybaf.prog w = .ok (.value (.int .i64 (p - q))) w := by
  unfold execOp
  simp only [ho, hx, hy]
  simp [binOp, eqGuard, Result.andThen, go_sem, Ybaf.underlying3, IntKind.wrap, IntKind.signed, IntKind.bits]
  omega
theorem exec_eql3 {a : Act} {o : Oper} {w : World} (x y : Operand) (ho : o.op = .binOp .eql 3 x y 3) (p q : Int) (hx : a.eval x = .int .i64 p) (hy : a.eval y = .int .i64 q) : (execOp a.eval o).run Ybaf.prog w = .ok (.value (.bool (decide (p = q)))) w := by
  have e : Ybaf.prog.eqGuardType Ybaf.prog.depth 3 = false := by kernel_rfl
  unfold execOp
  simp only [ho, hx, hy]
  simp [binOp, eqGuard, Result.andThen, go_sem, Ybaf.underlying3, e, Op.intCmp]
  exact Bool.eq_iff_iff.2 (by simp)

set_option maxRecDepth 100000 in
theorem adj22 {w : World} {p : Nat} {s h x : Int} {vi vt vr : Value} {ids refs : List Int} (gd : Good s ids refs) (hx : Sm x) (t : TS w p s h vi vt vr ids refs) :
    Calls Ybaf.prog 22 #[.pointer (some ⟨p, 0, none⟩), .agg (ic x).toArray] w fun e w' => e = .returned (.tuple #[.bool (cwB s ids x), .bool (ccB s ids x)]) ∧ w.grownBy w' none := by
  obtain ⟨ai, ci, evi, fi⟩ := own_form t.oi
  subst evi
  go_enter Ybaf.func22, Ybaf.ntmps22
  go_wp2_with (refine wpList_is (.box 25 (.tmp 1)) rfl ?_; refine wpList_box25 rfl (.tmp 1) rfl (cf x) rfl ?_)
  have g1 : w.grownBy (w.alloc (.cells (ic x).toArray 25)) none := World.grownBy_alloc _ _ none
  have x1 : (w.alloc (.cells (ic x).toArray 25)).heap[w.heap.size]? = some (.cells (ic x).toArray 25 (0, 0)) := heap_alloc_new w _
  refine (search18 gd hx (t.kept g1) (range_of_blk x1)).mono ?_
  rintro e u2 ⟨rfl, q2⟩
  have g2 : w.grownBy u2 none := grown_trans g1 q2
  have t2 := t.kept g2
  have hli := gd.li
  have hrl := rk_le s ids x
  by_cases hs : x = s
  · have hd : decide (x = s) = true := by simp [hs]
    have e1 : cwB s ids x = false := by simp [cwB, hs]
    have e2 : ccB s ids x = false := by simp [ccB, hs]
    rw [hd]
    clear hd hs
    go_wp2_with fail
    refine bodyPost_ret (by kernel_rfl) rfl ⟨by rw [e1, e2], g2⟩
  · have hd : decide (x = s) = false := by simp [hs]
    have e1 : cwB s ids x = decide (rk s ids x = 0) := by unfold cwB; rw [if_neg hs]
    obtain ⟨r, er⟩ : ∃ r, r = rk s ids x := ⟨_, rfl⟩
    rw [← er] at e1 hrl ⊢
    rw [hd]
    by_cases hm : x ∈ ids
    · have e2 : ccB s ids x = decide ((r : Int) = (ids.length : Int) - 1) := by unfold ccB; rw [if_neg hs, if_pos hm, er]
      have hd' : decide (x ∈ ids) = true := by simp [hm]
      have b1 : -9223372036854775808 ≤ (ids.length : Int) - 1 := by omega
      have b2 : (ids.length : Int) - 1 < 9223372036854775808 := by omega
      rw [hd']
      clear hd hd' hs hm er
      go_wp2_with (first
        | (refine wpList_is (.load 27 (.tmp 19)) rfl ?_; refine wpList_load_cell rfl 27 (.tmp 19) rfl p 24 rfl _ _ t2.blk _ Ybaf.underlying27 rfl _ rfl ?_)
        | (refine wpList_is (.binOp .sub 3 (.tmp 23) (.const (.int .i64 1)) 3) rfl ?_; refine wpList_exec rfl _ (exec_sub3 (.tmp 23) (.const (.int .i64 1)) rfl (ids.length : Int) 1 b1 b2 rfl rfl) ?_)
        | (refine wpList_is (.binOp .eql 3 (.tmp 25) (.const (.int .i64 0)) 3) rfl ?_; refine wpList_exec rfl _ (exec_eql3 (.tmp 25) (.const (.int .i64 0)) rfl (r : Int) 0 rfl rfl) ?_)
        | (refine wpList_is (.binOp .eql 3 (.tmp 27) (.tmp 28) 3) rfl ?_; refine wpList_exec rfl _ (exec_eql3 (.tmp 27) (.tmp 28) rfl (r : Int) ((ids.length : Int) - 1) rfl rfl) ?_))
      refine bodyPost_ret (by kernel_rfl) rfl ⟨by rw [e1, e2], g2⟩
    · have e2 : ccB s ids x = decide ((r : Int) = (ids.length : Int)) := by unfold ccB; rw [if_neg hs, if_neg hm, er]
      have hd' : decide (x ∈ ids) = false := by simp [hm]
      rw [hd']
      clear hd hd' hs hm er
      go_wp2_with (first
        | (refine wpList_is (.load 27 (.tmp 19)) rfl ?_; refine wpList_load_cell rfl 27 (.tmp 19) rfl p 24 rfl _ _ t2.blk _ Ybaf.underlying27 rfl _ rfl ?_)
        | (refine wpList_is (.binOp .eql 3 (.tmp 25) (.const (.int .i64 0)) 3) rfl ?_; refine wpList_exec rfl _ (exec_eql3 (.tmp 25) (.const (.int .i64 0)) rfl (r : Int) 0 rfl rfl) ?_)
        | (refine wpList_is (.binOp .eql 3 (.tmp 27) (.tmp 28) 3) rfl ?_; refine wpList_exec rfl _ (exec_eql3 (.tmp 27) (.tmp 28) rfl (r : Int) (ids.length : Int) rfl rfl) ?_))
      refine bodyPost_ret (by kernel_rfl) rfl ⟨by rw [e1, e2], g2⟩
end Go.Proofs.YbulkdspqFmt
