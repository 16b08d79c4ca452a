/-
  LawS5970CWhole: the distance of two identifiers (7).
-/
import Derived.Test.YbulkdspqFmtCCid
namespace Go.Proofs.YbulkdspqFmt
open Go.RowKit
set_option linter.unusedSimpArgs false
set_option linter.unusedVariables false

/-- The borrow behind the k lowest bytes. -/
def brw (a b : Nat → Int) : Nat → Int
  | 0 => 0
  | k + 1 => if a (19 - k) - b (19 - k) - brw a b k < 0 then 1 else 0
/-- A byte of the difference. -/
def dg (a b : Nat → Int) (i : Nat) : Int := if a i - b i - brw a b (19 - i) < 0 then a i - b i - brw a b (19 - i) + 256 else a i - b i - brw a b (19 - i)
theorem brw_bd (a b : Nat → Int) (k : Nat) : 0 ≤ brw a b k ∧ brw a b k ≤ 1 := by
  cases k with
  | zero => simp [brw]
  | succ k => unfold brw; split <;> omega
theorem dg_bd {a b : Nat → Int} (ha : Byt a) (hb : Byt b) {i : Nat} (hi : i < 20) : 0 ≤ dg a b i ∧ dg a b i < 256 := by
  have h1 := ha i hi
  have h2 := hb i hi
  have h3 := brw_bd a b (19 - i)
  unfold dg
  split <;> omega
/-- The k lowest bytes are there. -/
def dk (a b : Nat → Int) (k : Nat) : Nat → Int := fun i => if 20 - k ≤ i then dg a b i else 0

theorem exec_idx25 {a : Act} {o : Oper} {w : World} (x y : Operand) (ho : o.op = .indexAddr 25 x y) (g k : Nat) (hk : k < 20) (hx : a.eval x = .pointer (some ⟨g, 0, none⟩)) (hy : a.eval y = .int .i64 (k : Int)) : (execOp a.eval o).run Ybaf.prog w = .ok (.value (.pointer (some ⟨g, k, none⟩))) w := by
  obtain ⟨j, hj, _, hsz, _⟩ := info_parts (show (Ybaf.prog.info? 5).map (fun i => (i.zero, i.size, i.bytes)) = some (some (.int .u8 0), 1, 1) by kernel_rfl)
  have hlt : (k : Int) < 20 := by omega
  have hr : (Instr.indexAt 25 (.pointer (some ⟨g, 0, none⟩)) (.int .i64 (k : Int))).run Ybaf.prog w = .ok (.pointer (some ⟨g, k, none⟩)) w := by
    simp [Instr.indexAt, asIntOf, run_underlying Ybaf.underlying25, sizeOf, typeInfo, hj, hsz, hlt, hk, Addr.add_mid, Instr.sureAddr, Result.andThen]
  unfold execOp
  simp only [ho, hx, hy, Sem.run_bind, hr, Result.andThen_ok, Sem.run_pure]
theorem exec_conv53 {a : Act} {o : Oper} {w : World} (x : Operand) (ho : o.op = .convert 5 3 x) (z : Int) (h0 : 0 ≤ z) (h1 : z < 256) (hx : a.eval x = .int .u8 z) : (execOp a.eval o).run Ybaf.prog w = .ok (.value (.int .i64 z)) w := by
  have hc : (convert 5 3 (.int .u8 z)).run Ybaf.prog w = .ok (.int .i64 (IntKind.i64.wrap z)) w := by kernel_rfl
  have hw : IntKind.i64.wrap z = z := by rw [IntKind.wrap_i64]; omega
  rw [hw] at hc
  unfold execOp
  simp only [ho, hx, Sem.run_bind, hc, Result.andThen_ok, Sem.run_pure]
theorem exec_subI {a : Act} {o : Oper} {w : World} (x y : Operand) (ho : o.op = .binOp .sub 3 x y 3) (p q : Int) (h0 : -1000000 ≤ p - q) (h1 : p - q ≤ 1000000) (hx : a.eval x = .int .i64 p) (hy : a.eval y = .int .i64 q) : (execOp a.eval o).run Ybaf.prog w = .ok (.value (.int .i64 (p - q))) w := by
  have hw : IntKind.i64.wrap (p - q) = p - q := by rw [IntKind.wrap_i64]; omega
  unfold execOp
  simp only [ho, hx, hy]
  simp [binOp, eqGuard, Result.andThen, go_sem, Ybaf.underlying3, hw]
theorem brw_step (a b : Nat → Int) {i : Nat} (hi : i < 20) : brw a b (20 - i) = if a i - b i - brw a b (19 - i) < 0 then 1 else 0 := by
  have e : 20 - i = (19 - i) + 1 := by omega
  have e2 : 19 - (19 - i) = i := by omega
  rw [e, brw, e2]
theorem dk_set (a b : Nat → Int) {i : Nat} (hi : i < 20) : (ab (dk a b (19 - i))).set i (.int .u8 (dg a b i)) = ab (dk a b (20 - i)) := by
  rw [ab_set _ i hi]
  refine ab_congr (fun j hj => ?_)
  unfold dk
  by_cases e : j = i
  · subst e; rw [if_pos rfl, if_pos (by omega)]
  · rw [if_neg e]
    by_cases h : i < j
    · rw [if_pos (by omega), if_pos (by omega)]
    · rw [if_neg (by omega), if_neg (by omega)]
theorem exec_conv35 {a : Act} {o : Oper} {w : World} (x : Operand) (ho : o.op = .convert 3 5 x) (z : Int) (h0 : 0 ≤ z) (h1 : z < 256) (hx : a.eval x = .int .i64 z) : (execOp a.eval o).run Ybaf.prog w = .ok (.value (.int .u8 z)) w := by
  have hc : (convert 3 5 (.int .i64 z)).run Ybaf.prog w = .ok (.int .u8 (IntKind.u8.wrap z)) w := by kernel_rfl
  have hw : IntKind.u8.wrap z = z := by rw [wrapu8]; omega
  rw [hw] at hc
  unfold execOp
  simp only [ho, hx, Sem.run_bind, hc, Result.andThen_ok, Sem.run_pure]

set_option maxRecDepth 100000 in
set_option maxHeartbeats 2000000 in
theorem dist_any {a b : Nat → Int} (ha : Byt a) (hb : Byt b) (w : World) : Calls Ybaf.prog 7 #[.agg (ab a).toArray, .agg (ab b).toArray] w fun e w' => e = .returned (.agg (ab (dg a b)).toArray) ∧ w.grownBy w' none := by
  go_enter Ybaf.func7, Ybaf.ntmps7
  go_upto_region 2 with (first
    | (refine wpList_is (.box 25 (.tmp 0)) rfl ?_; refine wpList_box25 rfl (.tmp 0) rfl a rfl ?_)
    | (refine wpList_is (.box 25 (.tmp 1)) rfl ?_; refine wpList_box25 rfl (.tmp 1) rfl b rfl ?_)
    | (refine wpList_is (.alloc 25) rfl ?_; refine wpList_alloc25 rfl rfl ?_))
  obtain ⟨u, hu⟩ : ∃ u, u = (((w.alloc (.cells (ab a).toArray 25)).alloc (.cells (ab b).toArray 25)).alloc (.cells (ab fun _ => 0).toArray 25)).alloc (.cells (ab fun _ => 0).toArray 25) := ⟨_, rfl⟩
  have h2 : u.heap[w.heap.size]? = some (.cells (ab a).toArray 25 (0, 0)) := by rw [hu]; exact blk_alloc (blk_alloc (blk_alloc (heap_alloc_new w _) _) _) _
  have h3 : u.heap[w.heap.size + 1]? = some (.cells (ab b).toArray 25 (0, 0)) := by rw [hu]; exact blk_alloc (blk_alloc (blk_new _ _ _ _ (by simp)) _) _
  have h4 : u.heap[w.heap.size + 2]? = some (.cells (ab fun _ => 0).toArray 25 (0, 0)) := by rw [hu]; exact blk_alloc (blk_new _ _ _ _ (by simp)) _
  have h5 : u.heap[w.heap.size + 3]? = some (.cells (ab fun _ => 0).toArray 25 (0, 0)) := by rw [hu]; exact blk_new _ _ _ _ (by simp)
  have hg0 : w.grownBy u none := by rw [hu]; exact grown_trans (World.grownBy_alloc _ _ none) (grown_trans (World.grownBy_alloc _ _ none) (grown_trans (World.grownBy_alloc _ _ none) (World.grownBy_alloc _ _ none)))
  have hs0 : u.heap.size = w.heap.size + 4 := by rw [hu]; simp
  rw [← hu]
  clear hu
  have hz : ab (fun _ => 0) = ab (dk a b 0) := ab_congr (fun i hi => by unfold dk; rw [if_neg (by omega)])
  rw [hz] at h5
  clear hz
  go_wp2_with fail
  go_loopg [6, 7] 20 (fun g v6 v7 wr => ∃ j : Nat, j = g ∧ j ≤ 20 ∧ v7 = .int .i64 ((j : Int) - 1) ∧ v6 = .int .i64 (brw a b (20 - j)) ∧ wr.heap[w.heap.size + 3]? = some (.cells (ab (dk a b (20 - j))).toArray 25 (0, 0)) ∧ u.grownBy wr (some (w.heap.size + 3)))
  case atStart => exact ⟨20, rfl, Nat.le_refl _, by go_num, rfl, h5, World.grownBy.refl u _⟩
  case round =>
    clear h5
    obtain ⟨j, hj, hj20, rfl, rfl, hd, hg⟩ := hrel
    subst hj
    cases j with
    | zero =>
      have hd' : wr.heap[w.heap.size + 3]? = some (.cells (ab (dg a b)).toArray 25 (0, 0)) := by
        have e : ab (dk a b (20 - 0)) = ab (dg a b) := ab_congr (fun i hi => by unfold dk; rw [if_pos (by omega)])
        rw [e] at hd; exact hd
      have h4' := keep_blk hg h4 (by simp)
      clear hd
      go_wp2_with (first
        | (refine wpList_is (.load 25 (.tmp 5)) rfl ?_; refine wpList_load_blk rfl 25 (.tmp 5) rfl (w.heap.size + 3) rfl (ab (dg a b)) 25 hd' _ Ybaf.underlying25 rfl (size25 _) ?_)
        | (refine wpList_is (.store 25 (.tmp 4) (.tmp 32)) rfl ?_; refine wpList_store_blk rfl 25 (.tmp 4) (.tmp 32) rfl (w.heap.size + 2) (ab (dg a b)) rfl rfl _ _ h4' rfl (size25 _) (ab_one _) ?_; intro w3 hb4 hg3))
      refine bodyPost_ret (v := .agg (ab (dg a b)).toArray) ?_ rfl ⟨rfl, ?_⟩
      · have hld := run_load_blk (P := Ybaf.prog) hb4 Ybaf.underlying25 rfl (size25 (dg a b))
        simp only [results, Ybaf.results7]
        simp [asAddr, Result.andThen, Act.put, hld]
      · have s1 := hg.size
        have s2 := hg3.size
        refine ⟨hg3.os.trans (hg.os.trans hg0.os), hg3.tape.trans (hg.tape.trans hg0.tape), hg3.output.trans (hg.output.trans hg0.output), by omega, fun q hq _ => ?_⟩
        exact (hg3.block q (by omega) (by simp; omega)).trans ((hg.block q (by omega) (by simp; omega)).trans (hg0.block q hq (by simp)))
    | succ i =>
      have hi : i < 20 := by omega
      have ek : ((i + 1 : Nat) : Int) - 1 = (i : Int) := by omega
      have e19 : 20 - (i + 1) = 19 - i := by omega
      rw [e19] at hd
      simp only [ek, e19]
      have hi' : (i : Int) < 20 := by omega
      have bA := ha i hi
      have bB := hb i hi
      have bR := brw_bd a b (19 - i)
      have h2' := keep_blk hg h2 (by simp)
      have h3' := keep_blk hg h3 (by simp)
      have hst := brw_step a b hi
      have hdk := dk_set a b hi
      have hdg : dg a b i = if a i - b i - brw a b (19 - i) < 0 then a i - b i - brw a b (19 - i) + 256 else a i - b i - brw a b (19 - i) := rfl
      have HST : Hid (brw a b (20 - i) = if a i - b i - brw a b (19 - i) < 0 then 1 else 0) := hst
      have HDK : Hid ((ab (dk a b (19 - i))).set i (.int .u8 (dg a b i)) = ab (dk a b (20 - i))) := hdk
      have HDG : Hid (dg a b i = if a i - b i - brw a b (19 - i) < 0 then a i - b i - brw a b (19 - i) + 256 else a i - b i - brw a b (19 - i)) := hdg
      clear ek e19 hst hdk hdg
      go_upto_region 6 with fail
      refine wp_region_held (S := fun w' : World => w'.heap = wr.heap) (by kernel_rfl) ?_
      have hS : (fun w' : World => w'.heap = wr.heap) { wr with drawn := wr.drawn + 1 } := rfl
      refine any_take 0 (some 13) (.int .i64 i) rfl rfl (by kernel_rfl) (by kernel_rfl) (by kernel_rfl) (fun _ _ _ h => h) (.inl ⟨by kernel_rfl, fun _ _ => by kernel_rfl⟩) (by assumption) ?_
      simp only [Act.put, List.setIfInBounds_toArray, List.set_cons_zero, List.set_cons_succ]
      refine any_take 1 (some 14) (.pointer (some ⟨w.heap.size, i, none⟩)) rfl rfl (by kernel_rfl) (by kernel_rfl) (by kernel_rfl) (fun _ _ _ h => h) (.inl ⟨by kernel_rfl, fun w' _ => exec_idx25 (.tmp 2) (.tmp 13) rfl w.heap.size i hi (by kernel_rfl) (by kernel_rfl)⟩) (by assumption) ?_
      simp only [Act.put, List.setIfInBounds_toArray, List.set_cons_zero, List.set_cons_succ]
      refine any_take 2 (some 15) (.int .u8 (a i)) rfl rfl (by kernel_rfl) (by kernel_rfl) (by kernel_rfl) (fun _ _ _ h => h) (yld_cell (by kernel_rfl) 5 (.tmp 14) rfl w.heap.size i (by kernel_rfl) _ 25 (fun w' e => by rw [show w'.heap = wr.heap from e]; exact h2') _ Ybaf.underlying5 rfl _ (ab_get a i hi)) (by assumption) ?_
      simp only [Act.put, List.setIfInBounds_toArray, List.set_cons_zero, List.set_cons_succ]
      refine any_take 3 (some 16) (.int .i64 (a i)) rfl rfl (by kernel_rfl) (by kernel_rfl) (by kernel_rfl) (fun _ _ _ h => h) (.inl ⟨by kernel_rfl, fun w' _ => exec_conv53 (.tmp 15) rfl (a i) bA.1 bA.2 (by kernel_rfl)⟩) (by assumption) ?_
      simp only [Act.put, List.setIfInBounds_toArray, List.set_cons_zero, List.set_cons_succ]
      refine any_take 4 (some 17) (.int .i64 i) rfl rfl (by kernel_rfl) (by kernel_rfl) (by kernel_rfl) (fun _ _ _ h => h) (.inl ⟨by kernel_rfl, fun _ _ => by kernel_rfl⟩) (by assumption) ?_
      simp only [Act.put, List.setIfInBounds_toArray, List.set_cons_zero, List.set_cons_succ]
      refine any_take 5 (some 18) (.pointer (some ⟨w.heap.size + 1, i, none⟩)) rfl rfl (by kernel_rfl) (by kernel_rfl) (by kernel_rfl) (fun _ _ _ h => h) (.inl ⟨by kernel_rfl, fun w' _ => exec_idx25 (.tmp 3) (.tmp 17) rfl (w.heap.size + 1) i hi (by kernel_rfl) (by kernel_rfl)⟩) (by assumption) ?_
      simp only [Act.put, List.setIfInBounds_toArray, List.set_cons_zero, List.set_cons_succ]
      refine any_take 6 (some 19) (.int .u8 (b i)) rfl rfl (by kernel_rfl) (by kernel_rfl) (by kernel_rfl) (fun _ _ _ h => h) (yld_cell (by kernel_rfl) 5 (.tmp 18) rfl (w.heap.size + 1) i (by kernel_rfl) _ 25 (fun w' e => by rw [show w'.heap = wr.heap from e]; exact h3') _ Ybaf.underlying5 rfl _ (ab_get b i hi)) (by assumption) ?_
      simp only [Act.put, List.setIfInBounds_toArray, List.set_cons_zero, List.set_cons_succ]
      refine any_take 7 (some 20) (.int .i64 (b i)) rfl rfl (by kernel_rfl) (by kernel_rfl) (by kernel_rfl) (fun _ _ _ h => h) (.inl ⟨by kernel_rfl, fun w' _ => exec_conv53 (.tmp 19) rfl (b i) bB.1 bB.2 (by kernel_rfl)⟩) (by assumption) ?_
      simp only [Act.put, List.setIfInBounds_toArray, List.set_cons_zero, List.set_cons_succ]
      refine any_take 8 (some 21) (.int .i64 (a i - b i)) rfl rfl (by kernel_rfl) (by kernel_rfl) (by kernel_rfl) (fun _ _ _ h => h) (.inl ⟨by kernel_rfl, fun w' _ => exec_subI (.tmp 16) (.tmp 20) rfl (a i) (b i) (by omega) (by omega) (by kernel_rfl) (by kernel_rfl)⟩) (by assumption) ?_
      simp only [Act.put, List.setIfInBounds_toArray, List.set_cons_zero, List.set_cons_succ]
      refine any_take 9 (some 22) (.int .i64 (brw a b (19 - i))) rfl rfl (by kernel_rfl) (by kernel_rfl) (by kernel_rfl) (fun _ _ _ h => h) (.inl ⟨by kernel_rfl, fun _ _ => by kernel_rfl⟩) (by assumption) ?_
      simp only [Act.put, List.setIfInBounds_toArray, List.set_cons_zero, List.set_cons_succ]
      refine any_take 10 (some 23) (.int .i64 (a i - b i - brw a b (19 - i))) rfl rfl (by kernel_rfl) (by kernel_rfl) (by kernel_rfl) (fun _ _ _ h => h) (.inl ⟨by kernel_rfl, fun w' _ => exec_subI (.tmp 21) (.tmp 22) rfl (a i - b i) (brw a b (19 - i)) (by omega) (by omega) (by kernel_rfl) (by kernel_rfl)⟩) (by assumption) ?_
      simp only [Act.put, List.setIfInBounds_toArray, List.set_cons_zero, List.set_cons_succ]
      refine any_take 11 (some 8) (.int .i64 (a i - b i - brw a b (19 - i))) rfl rfl (by kernel_rfl) (by kernel_rfl) (by kernel_rfl) (fun _ _ _ h => h) (.inl ⟨by kernel_rfl, fun _ _ => by kernel_rfl⟩) (by assumption) ?_
      simp only [Act.put, List.setIfInBounds_toArray, List.set_cons_zero, List.set_cons_succ]
      refine wpAnyH_done (by kernel_rfl) ?_ _
      have hd1 : ({ wr with drawn := wr.drawn + 1 } : World).heap[w.heap.size + 3]? = some (.cells (ab (dk a b (19 - i))).toArray 25 (0, 0)) := hd
      have hg1 : u.grownBy { wr with drawn := wr.drawn + 1 } (some (w.heap.size + 3)) := grown_trans hg ⟨rfl, rfl, rfl, Nat.le_refl _, fun _ _ _ => rfl⟩
      clear hS hd hg h2' h3'
      generalize ({ wr with drawn := wr.drawn + 1 } : World) = v1 at *
      have hdg : dg a b i = if a i - b i - brw a b (19 - i) < 0 then a i - b i - brw a b (19 - i) + 256 else a i - b i - brw a b (19 - i) := HDG
      have hst : brw a b (20 - i) = if a i - b i - brw a b (19 - i) < 0 then 1 else 0 := HST
      have hlo : -256 ≤ a i - b i - brw a b (19 - i) := by omega
      have hhi : a i - b i - brw a b (19 - i) < 256 := by omega
      clear HDG HST
      generalize a i - b i - brw a b (19 - i) = v at *
      by_cases hneg : v < 0
      · have hz0 : 0 ≤ v + 256 := by omega
        have dgv : dg a b i = v + 256 := hdg.trans (if_pos hneg)
        have stv : brw a b (20 - i) = 1 := hst.trans (if_pos hneg)
        have hset : (ab (dk a b (19 - i))).set i (.int .u8 (v + 256)) = ab (dk a b (20 - i)) := by rw [← dgv]; exact HDK
        have H1 : Hid (brw a b (20 - i) = 1) := stv
        clear dgv stv hdg hst HDK
        go_wp2_with (first
          | (refine wpList_is (.convert 3 5 (.tmp 29)) rfl ?_; refine wpList_exec rfl _ (exec_conv35 (.tmp 29) rfl (v + 256) (by omega) (by omega) rfl) ?_)
          | (refine wpList_is (.indexAddr 25 (.tmp 5) (.tmp 28)) rfl ?_; refine wpList_exec rfl _ (exec_idx25 (.tmp 5) (.tmp 28) rfl (w.heap.size + 3) i hi rfl rfl) ?_)
          | (refine wpList_is (.store 5 (.tmp 31) (.tmp 30)) rfl ?_; refine wpList_store_cell rfl 5 (.tmp 31) (.tmp 30) rfl (w.heap.size + 3) i (.int .u8 (v + 256)) rfl rfl _ _ hd1 size5 (by rw [ab_len]; exact hi) rfl _ hset ?_; intro v2 hb2 k2))
        go_roundg i
        case measure => omega
        case rel => exact ⟨i, rfl, by omega, by go_num, by rw [show brw a b (20 - i) = 1 from H1], hb2, grown_trans hg1 k2⟩
      · have hz0 : 0 ≤ v := by omega
        have dgv : dg a b i = v := hdg.trans (if_neg hneg)
        have stv : brw a b (20 - i) = 0 := hst.trans (if_neg hneg)
        have hset : (ab (dk a b (19 - i))).set i (.int .u8 (v)) = ab (dk a b (20 - i)) := by rw [← dgv]; exact HDK
        have H1 : Hid (brw a b (20 - i) = 0) := stv
        clear dgv stv hdg hst HDK
        go_wp2_with (first
          | (refine wpList_is (.convert 3 5 (.tmp 29)) rfl ?_; refine wpList_exec rfl _ (exec_conv35 (.tmp 29) rfl (v) (by omega) (by omega) rfl) ?_)
          | (refine wpList_is (.indexAddr 25 (.tmp 5) (.tmp 28)) rfl ?_; refine wpList_exec rfl _ (exec_idx25 (.tmp 5) (.tmp 28) rfl (w.heap.size + 3) i hi rfl rfl) ?_)
          | (refine wpList_is (.store 5 (.tmp 31) (.tmp 30)) rfl ?_; refine wpList_store_cell rfl 5 (.tmp 31) (.tmp 30) rfl (w.heap.size + 3) i (.int .u8 (v)) rfl rfl _ _ hd1 size5 (by rw [ab_len]; exact hi) rfl _ hset ?_; intro v2 hb2 k2))
        go_roundg i
        case measure => omega
        case rel => exact ⟨i, rfl, by omega, by go_num, by rw [show brw a b (20 - i) = 0 from H1], hb2, grown_trans hg1 k2⟩

end Go.Proofs.YbulkdspqFmt
