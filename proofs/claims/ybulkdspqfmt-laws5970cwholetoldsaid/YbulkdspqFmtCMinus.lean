/-
  LawS5970CWhole: the difference of two numbers of three words (25).
-/
import Derived.Test.YbulkdspqFmtCSub
namespace Go.Proofs.YbulkdspqFmt
open Go.RowKit
set_option linter.unusedSimpArgs false
set_option linter.unusedVariables false

theorem exec_sub64 {a : Act} {o : Oper} {w : World} (x y z : Operand) (ho : o.op = .call { callee := .value (.func 32), args := #[x, y, z], argTypes := #[32, 32, 32] }) (p q r : Int) (hp : 0 ≤ p) (hp' : p < 18446744073709551616) (hq : 0 ≤ q) (hq' : q < 18446744073709551616) (hr : r = 0 ∨ r = 1) (hx : a.eval x = .int .u64 p) (hy : a.eval y = .int .u64 q) (hz : a.eval z = .int .u64 r) :
    (execOp a.eval o).run Ybaf.prog w = .ok (.value (.tuple #[.int .u64 ((p - q - r) % 18446744073709551616), .int .u64 (if p < q + r then 1 else 0)])) w := by
  have h := Ybaf.sub64 p.toNat q.toNat r.toNat (by omega) w
  have e1 : ((p.toNat : Nat) : Int) = p := by omega
  have e2 : ((q.toNat : Nat) : Int) = q := by omega
  have e3 : ((r.toNat : Nat) : Int) = r := by omega
  have e4 : (((p.toNat + 18446744073709551616 - q.toNat - r.toNat) % 18446744073709551616 : Nat) : Int) = (p - q - r) % 18446744073709551616 := by omega
  have e5 : (((if p.toNat < q.toNat + r.toNat then 1 else 0 : Nat)) : Int) = if p < q + r then 1 else 0 := by
    by_cases hh : p < q + r
    · rw [if_pos hh, if_pos (by omega)]; rfl
    · rw [if_neg hh, if_neg (by omega)]; rfl
  rw [e1, e2, e3, e4, e5] at h
  have ev : a.eval (.func 32) = .func (.func 32) #[] #[] := rfl
  unfold execOp
  simp only [ho, List.map_toArray, List.map_cons, List.map_nil, hx, hy, hz, resolve, ev, Sem.run_bind, Sem.run_pure, Result.andThen_ok, invoke]
  simp [Deferred.ofValue, h, Result.andThen]
theorem box41 (h m l : Int) (w : World) : (Instr.box 41 (.agg (uc h m l).toArray)).run Ybaf.prog w = .ok (.pointer (some ⟨w.heap.size, 0, none⟩)) (w.alloc (.cells (uc h m l).toArray 41)) := by kernel_rfl
theorem wpList_box41 {ops : Array Oper} {rest : List Oper} {op : Oper} {a : Act} {w : World} {Q : Exit → Act → World → Prop} (hgd : op.guard = none) (x : Operand) (ho : op.op = .box 41 x) (h m l : Int) (hx : a.eval x = .agg (uc h m l).toArray)
    (hh : wpList Ybaf.prog ops Q rest (a.put op.dst (.pointer (some ⟨w.heap.size, 0, none⟩))) (w.alloc (.cells (uc h m l).toArray 41))) : wpList Ybaf.prog ops Q (op :: rest) a w := by
  refine wpList_plain hgd fun K hK => ?_
  unfold Oper.wp execOp
  simp only [ho, hx, Sem.run_bind, box41, Result.andThen_ok, Sem.run_pure]
  exact hK _ _ hh
theorem wrapu32 (z : Int) : IntKind.u32.wrap z = z % 4294967296 := by
  simp [IntKind.wrap, IntKind.signed, IntKind.bits]
theorem exec_sub39 {a : Act} {o : Oper} {w : World} (x y : Operand) (ho : o.op = .binOp .sub 39 x y 39) (p q : Int) (hx : a.eval x = .int .u32 p) (hy : a.eval y = .int .u32 q) : (execOp a.eval o).run Ybaf.prog w = .ok (.value (.int .u32 ((p - q) % 4294967296))) w := by
  unfold execOp
  simp only [ho, hx, hy]
  simp [binOp, eqGuard, Result.andThen, go_sem, Ybaf.underlying39, wrapu32]
theorem exec_conv3239 {a : Act} {o : Oper} {w : World} (x : Operand) (ho : o.op = .convert 32 39 x) (z : Int) (hz : 0 ≤ z) (hz' : z < 4294967296) (hx : a.eval x = .int .u64 z) : (execOp a.eval o).run Ybaf.prog w = .ok (.value (.int .u32 z)) w := by
  have hc : (convert 32 39 (.int .u64 z)).run Ybaf.prog w = .ok (.int .u32 (IntKind.u32.wrap z)) w := by kernel_rfl
  have hw : IntKind.u32.wrap z = z := by rw [wrapu32]; omega
  rw [hw] at hc
  unfold execOp
  simp only [ho, hx, Sem.run_bind, hc, Result.andThen_ok, Sem.run_pure]

/-- The borrows and the words of a difference. -/
def b1W (l1 l2 : Int) : Int := if l1 < l2 + 0 then 1 else 0
def b2W (m1 m2 b : Int) : Int := if m1 < m2 + b then 1 else 0
def lW (l1 l2 : Int) : Int := (l1 - l2 - 0) % 18446744073709551616
def mW (m1 m2 b : Int) : Int := (m1 - m2 - b) % 18446744073709551616
def hW (h1 h2 b : Int) : Int := ((h1 - h2) % 4294967296 - b) % 4294967296

set_option maxRecDepth 100000 in
set_option maxHeartbeats 2000000 in
theorem minus_any {h1 m1 l1 h2 m2 l2 : Int} (bm1 : 0 ≤ m1) (bm1' : m1 < 18446744073709551616) (bl1 : 0 ≤ l1) (bl1' : l1 < 18446744073709551616) (bm2 : 0 ≤ m2) (bm2' : m2 < 18446744073709551616) (bl2 : 0 ≤ l2) (bl2' : l2 < 18446744073709551616) (w : World) :
    Calls Ybaf.prog 25 #[.agg (uc h1 m1 l1).toArray, .agg (uc h2 m2 l2).toArray] w fun e w' => e = .returned (.agg (uc (hW h1 h2 (b2W m1 m2 (b1W l1 l2))) (mW m1 m2 (b1W l1 l2)) (lW l1 l2)).toArray) ∧ w.grownBy w' none := by
  have hb1 : b1W l1 l2 = 0 ∨ b1W l1 l2 = 1 := by unfold b1W; split <;> simp
  have hb2 : b2W m1 m2 (b1W l1 l2) = 0 ∨ b2W m1 m2 (b1W l1 l2) = 1 := by unfold b2W; split <;> simp
  have hb20 : 0 ≤ b2W m1 m2 (b1W l1 l2) := by omega
  have hb21 : b2W m1 m2 (b1W l1 l2) < 4294967296 := by omega
  go_enter Ybaf.func25, Ybaf.ntmps25
  go_upto_region 1 with (first
    | (refine wpList_is (.box 41 (.tmp 0)) rfl ?_; refine wpList_box41 rfl (.tmp 0) rfl h1 m1 l1 rfl ?_)
    | (refine wpList_is (.box 41 (.tmp 1)) rfl ?_; refine wpList_box41 rfl (.tmp 1) rfl h2 m2 l2 rfl ?_)
    | (refine wpList_is (.alloc 41) rfl ?_; refine wpList_alloc41 rfl rfl ?_))
  obtain ⟨u, hu⟩ : ∃ u, u = ((w.alloc (.cells (uc h1 m1 l1).toArray 41)).alloc (.cells (uc h2 m2 l2).toArray 41)).alloc (.cells (uc 0 0 0).toArray 41) := ⟨_, rfl⟩
  have x1 : u.heap[w.heap.size]? = some (.cells (uc h1 m1 l1).toArray 41 (0, 0)) := by rw [hu]; exact blk_alloc (blk_alloc (heap_alloc_new w _) _) _
  have x2 : u.heap[w.heap.size + 1]? = some (.cells (uc h2 m2 l2).toArray 41 (0, 0)) := by rw [hu]; exact blk_alloc (blk_new _ _ _ _ (by simp)) _
  have x3 : u.heap[w.heap.size + 2]? = some (.cells (uc 0 0 0).toArray 41 (0, 0)) := by rw [hu]; exact blk_new _ _ _ _ (by simp)
  have hg0 : w.grownBy u none := by rw [hu]; exact grown_trans (World.grownBy_alloc _ _ none) (grown_trans (World.grownBy_alloc _ _ none) (World.grownBy_alloc _ _ none))
  have sz1 : (w.alloc (.cells (uc h1 m1 l1).toArray 41)).heap.size = w.heap.size + 1 := by simp
  have sz2 : ((w.alloc (.cells (uc h1 m1 l1).toArray 41)).alloc (.cells (uc h2 m2 l2).toArray 41)).heap.size = w.heap.size + 2 := by simp
  rw [← hu]
  try simp only [sz1, sz2]
  clear hu sz1 sz2
  go_wp2_with (first
    | (refine wpList_is (.load 32 (.tmp 9)) rfl ?_; refine wpList_load_cell rfl 32 (.tmp 9) rfl w.heap.size 2 rfl _ _ x1 _ Ybaf.underlying32 rfl (.int .u64 l1) rfl ?_)
    | (refine wpList_is (.load 32 (.tmp 11)) rfl ?_; refine wpList_load_cell rfl 32 (.tmp 11) rfl (w.heap.size + 1) 2 rfl _ _ x2 _ Ybaf.underlying32 rfl (.int .u64 l2) rfl ?_)
    | (refine wpList_is (.call { callee := .value (.func 32), args := #[.tmp 10, .tmp 12, .const (.int .u64 0)], argTypes := #[32, 32, 32] }) rfl ?_; refine wpList_exec rfl (.tuple #[.int .u64 (lW l1 l2), .int .u64 (b1W l1 l2)]) (exec_sub64 (.tmp 10) (.tmp 12) (.const (.int .u64 0)) rfl l1 l2 0 bl1 bl1' bl2 bl2' (.inl rfl) rfl rfl rfl) ?_)
    | (refine wpList_is (.load 32 (.tmp 17)) rfl ?_; refine wpList_load_cell rfl 32 (.tmp 17) rfl w.heap.size 1 rfl _ _ x1 _ Ybaf.underlying32 rfl (.int .u64 m1) rfl ?_)
    | (refine wpList_is (.load 32 (.tmp 19)) rfl ?_; refine wpList_load_cell rfl 32 (.tmp 19) rfl (w.heap.size + 1) 1 rfl _ _ x2 _ Ybaf.underlying32 rfl (.int .u64 m2) rfl ?_)
    | (refine wpList_is (.call { callee := .value (.func 32), args := #[.tmp 18, .tmp 20, .tmp 21], argTypes := #[32, 32, 32] }) rfl ?_; refine wpList_exec rfl (.tuple #[.int .u64 (mW m1 m2 (b1W l1 l2)), .int .u64 (b2W m1 m2 (b1W l1 l2))]) (exec_sub64 (.tmp 18) (.tmp 20) (.tmp 21) rfl m1 m2 (b1W l1 l2) bm1 bm1' bm2 bm2' hb1 rfl rfl rfl) ?_)
    | (refine wpList_is (.load 39 (.tmp 25)) rfl ?_; refine wpList_load_cell rfl 39 (.tmp 25) rfl w.heap.size 0 rfl _ _ x1 _ Ybaf.underlying39 rfl (.int .u32 h1) rfl ?_)
    | (refine wpList_is (.load 39 (.tmp 27)) rfl ?_; refine wpList_load_cell rfl 39 (.tmp 27) rfl (w.heap.size + 1) 0 rfl _ _ x2 _ Ybaf.underlying39 rfl (.int .u32 h2) rfl ?_)
    | (refine wpList_is (.binOp .sub 39 (.tmp 26) (.tmp 28) 39) rfl ?_; refine wpList_exec rfl _ (exec_sub39 (.tmp 26) (.tmp 28) rfl h1 h2 rfl rfl) ?_)
    | (refine wpList_is (.convert 32 39 (.tmp 30)) rfl ?_; refine wpList_exec rfl _ (exec_conv3239 (.tmp 30) rfl (b2W m1 m2 (b1W l1 l2)) hb20 hb21 rfl) ?_)
    | (refine wpList_is (.binOp .sub 39 (.tmp 29) (.tmp 31) 39) rfl ?_; refine wpList_exec rfl (.int .u32 (hW h1 h2 (b2W m1 m2 (b1W l1 l2)))) (exec_sub39 (.tmp 29) (.tmp 31) rfl _ _ rfl rfl) ?_)
    | (refine wpList_is (.build 41 #[(0, .tmp 32), (1, .tmp 33), (2, .tmp 34)]) rfl ?_; refine wpList_exec rfl _ (exec_build41 (.tmp 32) (.tmp 33) (.tmp 34) rfl (hW h1 h2 (b2W m1 m2 (b1W l1 l2))) (mW m1 m2 (b1W l1 l2)) (lW l1 l2) rfl rfl rfl) ?_)
    | (refine wpList_is (.store 41 (.tmp 4) (.tmp 35)) rfl ?_; refine wpList_store_blk rfl 41 (.tmp 4) (.tmp 35) rfl (w.heap.size + 2) (uc (hW h1 h2 (b2W m1 m2 (b1W l1 l2))) (mW m1 m2 (b1W l1 l2)) (lW l1 l2)) rfl rfl _ _ x3 rfl (size41 _ _ _) (uc_one _ _ _) ?_; intro w3 hb4 hg3))
  refine bodyPost_ret (v := .agg (uc (hW h1 h2 (b2W m1 m2 (b1W l1 l2))) (mW m1 m2 (b1W l1 l2)) (lW l1 l2)).toArray) ?_ rfl ⟨rfl, ?_⟩
  · have hld := run_load_blk (P := Ybaf.prog) hb4 Ybaf.underlying41 rfl (size41 (hW h1 h2 (b2W m1 m2 (b1W l1 l2))) (mW m1 m2 (b1W l1 l2)) (lW l1 l2))
    simp only [results, Ybaf.results25]
    simp [asAddr, Result.andThen, Act.put, hld]
  · have s1 := hg0.size
    exact ⟨hg3.os.trans hg0.os, hg3.tape.trans hg0.tape, hg3.output.trans hg0.output, Nat.le_trans s1 hg3.size, fun q hq _ => (hg3.block q (by omega) (by simp; omega)).trans (hg0.block q hq (by simp))⟩

/-- The difference of three words, as a number. -/
theorem minus_num {h1 m1 l1 h2 m2 l2 : Int} (bm1 : 0 ≤ m1) (bm1' : m1 < 18446744073709551616) (bl1 : 0 ≤ l1) (bl1' : l1 < 18446744073709551616) (bm2 : 0 ≤ m2) (bm2' : m2 < 18446744073709551616) (bl2 : 0 ≤ l2) (bl2' : l2 < 18446744073709551616) :
    hW h1 h2 (b2W m1 m2 (b1W l1 l2)) * 340282366920938463463374607431768211456 + mW m1 m2 (b1W l1 l2) * 18446744073709551616 + lW l1 l2 = ((h1 * 340282366920938463463374607431768211456 + m1 * 18446744073709551616 + l1) - (h2 * 340282366920938463463374607431768211456 + m2 * 18446744073709551616 + l2)) % 1461501637330902918203684832716283019655932542976 := by
  unfold hW mW lW b2W b1W
  split <;> split <;> omega

end Go.Proofs.YbulkdspqFmt
