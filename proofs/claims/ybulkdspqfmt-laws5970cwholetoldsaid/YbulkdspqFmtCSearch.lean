/-
  LawS5970CWhole: search (18).
-/
import Derived.Test.YbulkdspqFmtCTset
namespace Go.Proofs.YbulkdspqFmt
open Go.RowKit
set_option linter.unusedSimpArgs false
set_option linter.unusedVariables false

/-- The worlds that have grown out of this one. -/
def Gr (u : World) : World → Prop := fun w' => u.grownBy w' none
theorem Gr.refl (u : World) : Gr u u := World.grownBy.refl u none
theorem run_load_at {P : Program} {w : World} {b o : Nat} {ty : TypeId} {d : TypeDesc} {v : Value} (hc : w.cell? ⟨b, o, none⟩ = some v) (hu : P.underlying ty = some d) (hd : d.isRow = false) : (loadVar ty ⟨b, o, none⟩).run P w = .ok v w := by
  have hagg : (isAgg ty).run P w = .ok false w := by
    unfold isAgg
    rw [Sem.run_bind, run_underlying hu w]
    cases d <;> simp_all
  simp [loadVar, hagg, hc]
theorem yld_at {P : Program} {ops : Array Oper} {S : World → Prop} {op : Oper} {a : Act} (hw : Region.wanted op (yielded ops a.tmps) = true) (ty : TypeId) (x : Operand) (ho : op.op = .load ty x)
    (b o : Nat) (hx : a.eval x = .pointer (some ⟨b, o, none⟩)) (v : Value) (hb : ∀ w, S w → w.cell? ⟨b, o, none⟩ = some v) (d : TypeDesc) (hu : P.underlying ty = some d) (hd : d.isRow = false) : YieldsIf P ops S op v a :=
  .inl ⟨hw, fun w hS => by
    unfold execOp
    simp only [ho, hx, Instr.loadAt, Instr.sureAddr, Sem.run_bind, Sem.run_pure, Result.andThen_ok, run_load_at (hb w hS) hu hd]⟩
section
variable {a : Act} {o : Oper} {w : World}
theorem exec_lss32 (x y : Operand) (ho : o.op = .binOp .lss 32 x y 32) (p q : Int) (hx : a.eval x = .int .u64 p) (hy : a.eval y = .int .u64 q) : (execOp a.eval o).run Ybaf.prog w = .ok (.value (.bool (decide (p < q)))) w := by
  unfold execOp
  simp only [ho, hx, hy]
  simp [binOp, eqGuard, Result.andThen, go_sem, Ybaf.underlying32]
theorem exec_eql32 (x y : Operand) (ho : o.op = .binOp .eql 32 x y 32) (p q : Int) (hx : a.eval x = .int .u64 p) (hy : a.eval y = .int .u64 q) : (execOp a.eval o).run Ybaf.prog w = .ok (.value (.bool (decide (p = q)))) w := by
  have e : Ybaf.prog.eqGuardType Ybaf.prog.depth 32 = false := by kernel_rfl
  unfold execOp
  simp only [ho, hx, hy]
  simp [binOp, eqGuard, Result.andThen, go_sem, Ybaf.underlying32, e, Op.intCmp]
  exact Bool.eq_iff_iff.2 (by simp)
theorem exec_lss3 (x y : Operand) (ho : o.op = .binOp .lss 3 x y 3) (p q : Int) (hx : a.eval x = .int .i64 p) (hy : a.eval y = .int .i64 q) : (execOp a.eval o).run Ybaf.prog w = .ok (.value (.bool (decide (p < q)))) w := by
  unfold execOp
  simp only [ho, hx, hy]
  simp [binOp, eqGuard, Result.andThen, go_sem, Ybaf.underlying3]
theorem exec_add3 (x y : Operand) (ho : o.op = .binOp .add 3 x y 3) (p q : Int) (h1 : -9223372036854775808 ≤ p + q) (h2 : p + q < 9223372036854775808) (hx : a.eval x = .int .i64 p) (hy : a.eval y = .int .i64 q) : (execOp a.eval o).run Ybaf.prog w = .ok (.value (.int .i64 (p + q))) w := by
  unfold execOp
  simp only [ho, hx, hy]
  simp [binOp, eqGuard, Result.andThen, go_sem, Ybaf.underlying3, IntKind.wrap, IntKind.signed, IntKind.bits]
  omega
theorem exec_conv349 (x : Operand) (ho : o.op = .convert 3 49 x) (z : Int) (hz : 0 ≤ z) (hz' : z < 18446744073709551616) (hx : a.eval x = .int .i64 z) : (execOp a.eval o).run Ybaf.prog w = .ok (.value (.int .u64 z)) w := by
  have hc : (convert 3 49 (.int .i64 z)).run Ybaf.prog w = .ok (.int .u64 (IntKind.u64.wrap z)) w := by kernel_rfl
  have hw : IntKind.u64.wrap z = z := by simp [IntKind.wrap, IntKind.signed, IntKind.bits]; omega
  rw [hw] at hc
  unfold execOp
  simp only [ho, hx, Sem.run_bind, hc, Result.andThen_ok, Sem.run_pure]
theorem exec_conv493 (x : Operand) (ho : o.op = .convert 49 3 x) (z : Int) (hz : 0 ≤ z) (hz' : z < 9223372036854775808) (hx : a.eval x = .int .u64 z) : (execOp a.eval o).run Ybaf.prog w = .ok (.value (.int .i64 z)) w := by
  have hc : (convert 49 3 (.int .u64 z)).run Ybaf.prog w = .ok (.int .i64 (IntKind.i64.wrap z)) w := by kernel_rfl
  have hw : IntKind.i64.wrap z = z := by simp [IntKind.wrap, IntKind.signed, IntKind.bits]; omega
  rw [hw] at hc
  unfold execOp
  simp only [ho, hx, Sem.run_bind, hc, Result.andThen_ok, Sem.run_pure]
theorem shr1 (x : Int) (w : World) : (binOp .shr 49 (.int .u64 x) (.int .u64 1)).run Ybaf.prog w = .ok (.int .u64 (x / 2)) w := by
  simp [binOp, go_sem]
theorem exec_shr1 (x : Operand) (ho : o.op = .binOp .shr 49 x (.const (.int .u64 1)) 49) (z : Int) (hx : a.eval x = .int .u64 z) : (execOp a.eval o).run Ybaf.prog w = .ok (.value (.int .u64 (z / 2))) w := by
  have e : a.eval (.const (.int .u64 1)) = .int .u64 1 := rfl
  have hg : (eqGuard .shr 49 x (.const (.int .u64 1)) (.int .u64 z) (.int .u64 1)).run Ybaf.prog w = .ok () w := by simp [eqGuard]
  unfold execOp
  simp only [ho, hx, e, Sem.run_bind, hg, Result.andThen_ok, shr1 z w, Sem.run_pure]
end
theorem own_len {w : World} {e : TypeId} {sz : Nat} {a : Option Addr} {n c m : Nat} {xs : List Value} (h : w.ownsRow 0 e sz (.slice a n c) m xs) : n = m := by
  obtain ⟨a', c', e, _⟩ := own_form h
  injection e
theorem own_tp {w : World} {s : Int} {g n c m : Nat} {ids : List Int} (h : w.ownsRow 0 32 1 (.slice (some ⟨g, 0, none⟩) n c) m (ids.flatMap (tpc s))) {i : Nat} {y : Int} (hy : ids[i]? = some y) : w.cell? ⟨g, i * 1, none⟩ = some (.int .u64 (topN (D s y))) := by
  have e := own_len h
  subst e
  exact own_range h (fun _ => rfl) hy 0 _ rfl
theorem own_ti {w : World} {g n c m : Nat} {ids : List Int} (h : w.ownsRow 0 25 20 (.slice (some ⟨g, 0, none⟩) n c) m (ids.flatMap ic)) {i : Nat} {y : Int} (hy : ids[i]? = some y) : w.rangeAt g (i * 20) (ic y) := by
  have e := own_len h
  subst e
  exact own_range h ic_len hy
theorem info32 : (Ybaf.prog.info? 32).map (fun i => (i.zero, i.size, i.bytes)) = some (some (.int .u64 0), 1, 8) := by kernel_rfl

set_option maxRecDepth 100000 in
set_option maxHeartbeats 4000000 in
theorem search18 {w : World} {p b o : Nat} {s h x : Int} {vi vt vr : Value} {ids refs : List Int} (gd : Good s ids refs) (hx : Sm x) (t : TS w p s h vi vt vr ids refs) (hr : w.rangeAt b o (ic x)) :
    Calls Ybaf.prog 18 #[.pointer (some ⟨p, 0, none⟩), .pointer (some ⟨b, o, none⟩)] w fun e w' => e = .returned (.tuple #[.int .i64 (rk s ids x : Nat), .bool (decide (x ∈ ids)), .bool (decide (x = s))]) ∧ w.grownBy w' none := by
  obtain ⟨ti, hti, _, hts, _⟩ := info_parts info25
  obtain ⟨tt, htt, _, htz, _⟩ := info_parts info32
  obtain ⟨ai, ci, evi, fi⟩ := own_form t.oi
  obtain ⟨at', ct, evt, ft⟩ := own_form t.ot
  subst evi evt
  have hrk := rk_le s ids x
  have hli := gd.li
  have hget := @rk_get s x ids gd.ord
  have hmem := rk_mem gd.sm hx gd.ord (fun y hy => (gd.mi y hy).1)
  have hsub : ∀ i y, ids[i]? = some y → Sm y := fun i y hy => (gd.mi y (List.mem_of_getElem? hy)).1
  obtain ⟨gs, -, -, -, -, -⟩ := gd
  obtain ⟨r, er⟩ : ∃ r, r = rk s ids x := ⟨_, rfl⟩
  rw [← er] at hrk hget hmem ⊢
  obtain ⟨n, en⟩ : ∃ n, n = ids.length := ⟨_, rfl⟩
  rw [← en] at hrk hli fi ft
  have A : Aside ((∀ (i : Nat) (y : Int), ids[i]? = some y → (D s y < D s x ↔ i < r)) ∧ (x ∈ ids ↔ ids[r]? = some x) ∧ r ≤ n ∧ n ≤ 4096 ∧ n = ids.length) := ⟨hget, hmem, hrk, hli, en⟩
  clear hget hmem er hrk
  go_enter Ybaf.func18, Ybaf.ntmps18
  go_wp2_with fail
  refine (dist23 gs hx t.blk hr).mono ?_
  rintro e u1 ⟨rfl, q1⟩
  go_wp2_with (first
    | (refine wpList_is (.alloc 41) rfl ?_; refine wpList_alloc41 rfl rfl ?_)
    | (refine wpList_is (.store 41 (.tmp 7) (.tmp 14)) rfl ?_; refine wpList_store_blk rfl 41 (.tmp 7) (.tmp 14) rfl u1.heap.size (uN (D s x)) rfl rfl _ _ (heap_alloc_new u1 _) rfl (size41n _) (un_one _) ?_; intro u2 x2 q2; have k2 : u1.grownBy u2 none := grown_new q2; clear q2)
    | (refine wpList_is (.load 41 (.tmp 7)) rfl ?_; refine wpList_load_blk rfl 41 (.tmp 7) rfl u1.heap.size rfl (uN (D s x)) 41 x2 _ Ybaf.underlying41 rfl (size41n _) ?_))
  refine (top_un (D_bd s x) _).mono ?_
  rintro e u3 ⟨rfl, q3⟩
  have x3 := keep_blk q3 x2 (by simp)
  have g3 : w.grownBy u3 none := grown_trans q1 (grown_trans k2 q3)
  have t3 := t.kept g3
  have r3 := range_kept hr g3
  clear q1 q3 k2 x2
  go_upto_region 3 with fail
  refine wp_region_held (S := Gr { u3 with drawn := u3.drawn + 1 }) (by kernel_rfl) ?_
  have g4 : w.grownBy { u3 with drawn := u3.drawn + 1 } none := grown_trans g3 (grown_drew u3)
  have x4 := keep_blk (grown_drew u3) x3 (by simp)
  have t4 := t3.kept (grown_drew u3)
  have r4 := range_kept r3 (grown_drew u3)
  clear x3 t3 r3 g3
  generalize ({ u3 with drawn := u3.drawn + 1 } : World) = u4 at *
  obtain ⟨db, edb⟩ : ∃ db, db = u1.heap.size := ⟨_, rfl⟩
  rw [← edb] at x4 ⊢
  clear edb
  have hS := Gr.refl u4
  refine any_take 0 (some 17) (.pointer (some ⟨p, 0, none⟩)) rfl rfl (by kernel_rfl) (by kernel_rfl) (by kernel_rfl) (fun _ _ _ h => h) (.inl ⟨by kernel_rfl, fun _ _ => by kernel_rfl⟩) (by assumption) ?_
  simp only [Act.put, List.setIfInBounds_toArray, List.set_cons_zero, List.set_cons_succ]
  refine any_take 1 (some 18) (.pointer (some ⟨p, 0, none⟩)) rfl rfl (by kernel_rfl) (by kernel_rfl) (by kernel_rfl) (fun _ _ _ h => h) (.inl ⟨by kernel_rfl, fun _ _ => by kernel_rfl⟩) (by assumption) ?_
  simp only [Act.put, List.setIfInBounds_toArray, List.set_cons_zero, List.set_cons_succ]
  refine any_take 2 (some 19) (.pointer (some ⟨p, 25, none⟩)) rfl rfl (by kernel_rfl) (by kernel_rfl) (by kernel_rfl) (fun _ _ _ h => h) (.inl ⟨by kernel_rfl, fun _ _ => by kernel_rfl⟩) (by assumption) ?_
  simp only [Act.put, List.setIfInBounds_toArray, List.set_cons_zero, List.set_cons_succ]
  refine any_take 3 (some 20) (.slice at' ids.length ct) rfl rfl (by kernel_rfl) (by kernel_rfl) (by kernel_rfl) (fun _ _ _ h => h) (yld_cell (by kernel_rfl) 30 (.tmp 19) rfl p 25 (by kernel_rfl) _ _ (fun _ h => keep_blk h t4.blk (by simp)) _ Ybaf.underlying30 rfl _ rfl) (by assumption) ?_
  simp only [Act.put, List.setIfInBounds_toArray, List.set_cons_zero, List.set_cons_succ]
  refine any_take 4 (some 21) (.int .i64 ids.length) rfl rfl (by kernel_rfl) (by kernel_rfl) (by kernel_rfl) (fun _ _ _ h => h) (.inl ⟨by kernel_rfl, fun _ _ => by kernel_rfl⟩) (by assumption) ?_
  simp only [Act.put, List.setIfInBounds_toArray, List.set_cons_zero, List.set_cons_succ]
  refine any_take 5 (some 9) (.int .i64 0) rfl rfl (by kernel_rfl) (by kernel_rfl) (by kernel_rfl) (fun _ _ _ h => h) (.inl ⟨by kernel_rfl, fun _ _ => by kernel_rfl⟩) (by assumption) ?_
  simp only [Act.put, List.setIfInBounds_toArray, List.set_cons_zero, List.set_cons_succ]
  refine any_take 6 (some 10) (.int .i64 ids.length) rfl rfl (by kernel_rfl) (by kernel_rfl) (by kernel_rfl) (fun _ _ _ h => h) (.inl ⟨by kernel_rfl, fun _ _ => by kernel_rfl⟩) (by assumption) ?_
  simp only [Act.put, List.setIfInBounds_toArray, List.set_cons_zero, List.set_cons_succ]
  refine wpAnyH_done (by kernel_rfl) ?_ _
  clear hS
  rw [← en] at t4 ⊢
  clear en t
  go_wp2_with fail
  go_loopg [9, 10] n (fun g v9 v10 wr => ∃ lo hi : Nat, v9 = .int .i64 lo ∧ v10 = .int .i64 hi ∧ Aside (lo ≤ hi ∧ hi ≤ n ∧ lo ≤ r ∧ r ≤ hi ∧ hi - lo ≤ g) ∧ u4.grownBy wr none)
  case atStart => exact ⟨0, n, rfl, rfl, ⟨by omega, Nat.le_refl _, by omega, A.out.2.2.1, by omega⟩, World.grownBy.refl _ none⟩
  case round =>
    obtain ⟨lo, hi, rfl, rfl, B, g5⟩ := hrel
    have t5 := t4.kept g5
    have x5 := keep_blk g5 x4 (by simp)
    have r5 := range_kept r4 g5
    by_cases hin : lo < hi
    · obtain ⟨m, em⟩ : ∃ m, m = (lo + hi) / 2 := ⟨_, rfl⟩
      have hmn : m < n := by have := B.out; omega
      have hb2 : lo + hi < 10000 := by have := B.out; omega
      have em' : ((lo : Int) + (hi : Int)) / 2 = (m : Int) := by omega
      obtain ⟨y, hy⟩ : ∃ y, ids[m]? = some y := ⟨_, List.getElem?_eq_getElem (by have := A.out; omega)⟩
      obtain ⟨gt, rfl⟩ := ft (by omega)
      obtain ⟨gi, rfl⟩ := fi (by omega)
      have hyi := A.out.1 m y hy
      have hsy := hsub m y hy
      have hin' : (lo : Int) < (hi : Int) := by omega
      have b1 : -9223372036854775808 ≤ (lo : Int) + (hi : Int) := by omega
      have b2 : (lo : Int) + (hi : Int) < 9223372036854775808 := by omega
      have b3 : 0 ≤ (lo : Int) + (hi : Int) := by omega
      have b4 : (lo : Int) + (hi : Int) < 18446744073709551616 := by omega
      have b5 : 0 ≤ (m : Int) := by omega
      have b6 : (m : Int) < 9223372036854775808 := by omega
      clear x4 t4 r4 em hb2
      go_upto_region 6 with (first
        | (refine wpList_is (.binOp .add 3 (.tmp 25) (.tmp 26) 3) rfl ?_; refine wpList_exec rfl _ (exec_add3 (.tmp 25) (.tmp 26) rfl (lo : Int) (hi : Int) b1 b2 rfl rfl) ?_)
        | (refine wpList_is (.convert 3 49 (.tmp 27)) rfl ?_; refine wpList_exec rfl _ (exec_conv349 (.tmp 27) rfl ((lo : Int) + (hi : Int)) b3 b4 rfl) ?_)
        | (refine wpList_is (.binOp .shr 49 (.tmp 28) (.const (.int .u64 1)) 49) rfl ?_; refine wpList_exec rfl (.int .u64 (m : Int)) (em' ▸ exec_shr1 (.tmp 28) rfl ((lo : Int) + (hi : Int)) rfl) ?_)
        | (refine wpList_is (.convert 49 3 (.tmp 29)) rfl ?_; refine wpList_exec rfl _ (exec_conv493 (.tmp 29) rfl (m : Int) b5 b6 rfl) ?_))
      refine wp_region_held (S := Gr { wr with drawn := wr.drawn + 1 }) (by kernel_rfl) ?_
      have g6 : u4.grownBy { wr with drawn := wr.drawn + 1 } none := grown_trans g5 (grown_drew wr)
      have x6 := keep_blk (grown_drew wr) x5 (by simp)
      have t6 := t5.kept (grown_drew wr)
      have r6 := range_kept r5 (grown_drew wr)
      clear x5 t5 r5 g5
      generalize ({ wr with drawn := wr.drawn + 1 } : World) = u6 at *
      have hS := Gr.refl u6
      refine any_take 0 (some 31) (.pointer (some ⟨p, 0, none⟩)) rfl rfl (by kernel_rfl) (by kernel_rfl) (by kernel_rfl) (fun _ _ _ h => h) (.inl ⟨by kernel_rfl, fun _ _ => by kernel_rfl⟩) (by assumption) ?_
      simp only [Act.put, List.setIfInBounds_toArray, List.set_cons_zero, List.set_cons_succ]
      refine any_take 1 (some 32) (.pointer (some ⟨p, 0, none⟩)) rfl rfl (by kernel_rfl) (by kernel_rfl) (by kernel_rfl) (fun _ _ _ h => h) (.inl ⟨by kernel_rfl, fun _ _ => by kernel_rfl⟩) (by assumption) ?_
      simp only [Act.put, List.setIfInBounds_toArray, List.set_cons_zero, List.set_cons_succ]
      refine any_take 2 (some 33) (.pointer (some ⟨p, 25, none⟩)) rfl rfl (by kernel_rfl) (by kernel_rfl) (by kernel_rfl) (fun _ _ _ h => h) (.inl ⟨by kernel_rfl, fun _ _ => by kernel_rfl⟩) (by assumption) ?_
      simp only [Act.put, List.setIfInBounds_toArray, List.set_cons_zero, List.set_cons_succ]
      refine any_take 3 (some 34) (.slice (some ⟨gt, 0, none⟩) n ct) rfl rfl (by kernel_rfl) (by kernel_rfl) (by kernel_rfl) (fun _ _ _ h => h) (yld_cell (by kernel_rfl) 30 (.tmp 33) rfl p 25 (by kernel_rfl) _ _ (fun _ h => keep_blk h t6.blk (by simp)) _ Ybaf.underlying30 rfl _ rfl) (by assumption) ?_
      simp only [Act.put, List.setIfInBounds_toArray, List.set_cons_zero, List.set_cons_succ]
      refine any_take 4 (some 35) (.int .i64 (m : Nat)) rfl rfl (by kernel_rfl) (by kernel_rfl) (by kernel_rfl) (fun _ _ _ h => h) (.inl ⟨by kernel_rfl, fun _ _ => by kernel_rfl⟩) (by assumption) ?_
      simp only [Act.put, List.setIfInBounds_toArray, List.set_cons_zero, List.set_cons_succ]
      refine any_take 5 (some 36) (.pointer (some ⟨gt, m * 1, none⟩)) rfl rfl (by kernel_rfl) (by kernel_rfl) (by kernel_rfl) (fun _ _ _ h => h) (.inl ⟨by kernel_rfl, fun w' _ => exec_index (.tmp 34) (.tmp 35) rfl Ybaf.underlying30 htt htz gt n ct m hmn (by kernel_rfl) (by kernel_rfl)⟩) (by assumption) ?_
      simp only [Act.put, List.setIfInBounds_toArray, List.set_cons_zero, List.set_cons_succ]
      refine any_take 6 (some 37) (.int .u64 (topN (D s y))) rfl rfl (by kernel_rfl) (by kernel_rfl) (by kernel_rfl) (fun _ _ _ h => h) (yld_at (by kernel_rfl) 32 (.tmp 36) rfl gt (m * 1) (by kernel_rfl) _ (fun _ h => own_tp (t6.kept h).ot hy) _ Ybaf.underlying32 rfl) (by assumption) ?_
      simp only [Act.put, List.setIfInBounds_toArray, List.set_cons_zero, List.set_cons_succ]
      refine any_take 7 (some 38) (.int .u64 (topN (D s x))) rfl rfl (by kernel_rfl) (by kernel_rfl) (by kernel_rfl) (fun _ _ _ h => h) (.inl ⟨by kernel_rfl, fun _ _ => by kernel_rfl⟩) (by assumption) ?_
      simp only [Act.put, List.setIfInBounds_toArray, List.set_cons_zero, List.set_cons_succ]
      by_cases hlt : D s y < D s x
      · have hle := top_le (Int.le_of_lt hlt)
        by_cases htp : topN (D s y) < topN (D s x)
        · refine any_take 8 (some 39) (.bool true) rfl rfl (by kernel_rfl) (by kernel_rfl) (by kernel_rfl) (fun _ _ _ h => h) (.inl ⟨by kernel_rfl, fun w' _ => (exec_lss32 (.tmp 37) (.tmp 38) rfl (topN (D s y)) (topN (D s x)) (by kernel_rfl) (by kernel_rfl)).trans (by simp [htp])⟩) (by assumption) ?_
          simp only [Act.put, List.setIfInBounds_toArray, List.set_cons_zero, List.set_cons_succ]
          refine any_take 9 (some 40) (.bool true) rfl rfl (by kernel_rfl) (by kernel_rfl) (by kernel_rfl) (fun _ _ _ h => h) (.inl ⟨by kernel_rfl, fun _ _ => by kernel_rfl⟩) (by assumption) ?_
          simp only [Act.put, List.setIfInBounds_toArray, List.set_cons_zero, List.set_cons_succ]
          refine any_take 10 (some 41) undef rfl rfl (by kernel_rfl) (by kernel_rfl) (by kernel_rfl) (fun _ _ _ h => h) (.inr ⟨by kernel_rfl, rfl⟩) (by assumption) ?_
          simp only [Act.put, List.setIfInBounds_toArray, List.set_cons_zero, List.set_cons_succ]
          refine any_take 11 (some 42) undef rfl rfl (by kernel_rfl) (by kernel_rfl) (by kernel_rfl) (fun _ _ _ h => h) (.inr ⟨by kernel_rfl, rfl⟩) (by assumption) ?_
          simp only [Act.put, List.setIfInBounds_toArray, List.set_cons_zero, List.set_cons_succ]
          refine any_take 12 (some 43) undef rfl rfl (by kernel_rfl) (by kernel_rfl) (by kernel_rfl) (fun _ _ _ h => h) (.inr ⟨by kernel_rfl, rfl⟩) (by assumption) ?_
          simp only [Act.put, List.setIfInBounds_toArray, List.set_cons_zero, List.set_cons_succ]
          refine any_take 13 (some 44) undef rfl rfl (by kernel_rfl) (by kernel_rfl) (by kernel_rfl) (fun _ _ _ h => h) (.inr ⟨by kernel_rfl, rfl⟩) (by assumption) ?_
          simp only [Act.put, List.setIfInBounds_toArray, List.set_cons_zero, List.set_cons_succ]
          refine any_take 14 (some 45) undef rfl rfl (by kernel_rfl) (by kernel_rfl) (by kernel_rfl) (fun _ _ _ h => h) (.inr ⟨by kernel_rfl, rfl⟩) (by assumption) ?_
          simp only [Act.put, List.setIfInBounds_toArray, List.set_cons_zero, List.set_cons_succ]
          refine any_take 15 (some 46) undef rfl rfl (by kernel_rfl) (by kernel_rfl) (by kernel_rfl) (fun _ _ _ h => h) (.inr ⟨by kernel_rfl, rfl⟩) (by assumption) ?_
          simp only [Act.put, List.setIfInBounds_toArray, List.set_cons_zero, List.set_cons_succ]
          refine any_take 16 (some 47) undef rfl rfl (by kernel_rfl) (by kernel_rfl) (by kernel_rfl) (fun _ _ _ h => h) (.inr ⟨by kernel_rfl, rfl⟩) (by assumption) ?_
          simp only [Act.put, List.setIfInBounds_toArray, List.set_cons_zero, List.set_cons_succ]
          refine any_take 17 (some 48) undef rfl rfl (by kernel_rfl) (by kernel_rfl) (by kernel_rfl) (fun _ _ _ h => h) (.inr ⟨by kernel_rfl, rfl⟩) (by assumption) ?_
          simp only [Act.put, List.setIfInBounds_toArray, List.set_cons_zero, List.set_cons_succ]
          refine any_take 18 (some 49) undef rfl rfl (by kernel_rfl) (by kernel_rfl) (by kernel_rfl) (fun _ _ _ h => h) (.inr ⟨by kernel_rfl, rfl⟩) (by assumption) ?_
          simp only [Act.put, List.setIfInBounds_toArray, List.set_cons_zero, List.set_cons_succ]
          refine any_take 19 (some 50) undef rfl rfl (by kernel_rfl) (by kernel_rfl) (by kernel_rfl) (fun _ _ _ h => h) (.inr ⟨by kernel_rfl, rfl⟩) (by assumption) ?_
          simp only [Act.put, List.setIfInBounds_toArray, List.set_cons_zero, List.set_cons_succ]
          refine any_take 20 (some 51) undef rfl rfl (by kernel_rfl) (by kernel_rfl) (by kernel_rfl) (fun _ _ _ h => h) (.inr ⟨by kernel_rfl, rfl⟩) (by assumption) ?_
          simp only [Act.put, List.setIfInBounds_toArray, List.set_cons_zero, List.set_cons_succ]
          refine any_take 21 (some 52) undef rfl rfl (by kernel_rfl) (by kernel_rfl) (by kernel_rfl) (fun _ _ _ h => h) (.inr ⟨by kernel_rfl, rfl⟩) (by assumption) ?_
          simp only [Act.put, List.setIfInBounds_toArray, List.set_cons_zero, List.set_cons_succ]
          refine any_take 22 (some 53) undef rfl rfl (by kernel_rfl) (by kernel_rfl) (by kernel_rfl) (fun _ _ _ h => h) (.inr ⟨by kernel_rfl, rfl⟩) (by assumption) ?_
          simp only [Act.put, List.setIfInBounds_toArray, List.set_cons_zero, List.set_cons_succ]
          refine any_take 23 (some 54) undef rfl rfl (by kernel_rfl) (by kernel_rfl) (by kernel_rfl) (fun _ _ _ h => h) (.inr ⟨by kernel_rfl, rfl⟩) (by assumption) ?_
          simp only [Act.put, List.setIfInBounds_toArray, List.set_cons_zero, List.set_cons_succ]
          refine any_take 24 (some 55) undef rfl rfl (by kernel_rfl) (by kernel_rfl) (by kernel_rfl) (fun _ _ _ h => h) (.inr ⟨by kernel_rfl, rfl⟩) (by assumption) ?_
          simp only [Act.put, List.setIfInBounds_toArray, List.set_cons_zero, List.set_cons_succ]
          refine any_take 25 (some 56) undef rfl rfl (by kernel_rfl) (by kernel_rfl) (by kernel_rfl) (fun _ _ _ h => h) (.inr ⟨by kernel_rfl, rfl⟩) (by assumption) ?_
          simp only [Act.put, List.setIfInBounds_toArray, List.set_cons_zero, List.set_cons_succ]
          refine any_take 26 (some 57) undef rfl rfl (by kernel_rfl) (by kernel_rfl) (by kernel_rfl) (fun _ _ _ h => h) (.inr ⟨by kernel_rfl, rfl⟩) (by assumption) ?_
          simp only [Act.put, List.setIfInBounds_toArray, List.set_cons_zero, List.set_cons_succ]
          refine any_take 27 (some 58) undef rfl rfl (by kernel_rfl) (by kernel_rfl) (by kernel_rfl) (fun _ _ _ h => h) (.inr ⟨by kernel_rfl, rfl⟩) (by assumption) ?_
          simp only [Act.put, List.setIfInBounds_toArray, List.set_cons_zero, List.set_cons_succ]
          refine any_take 28 (some 59) undef rfl rfl (by kernel_rfl) (by kernel_rfl) (by kernel_rfl) (fun _ _ _ h => h) (.inr ⟨by kernel_rfl, rfl⟩) (by assumption) ?_
          simp only [Act.put, List.setIfInBounds_toArray, List.set_cons_zero, List.set_cons_succ]
          refine any_take 29 (some 60) undef rfl rfl (by kernel_rfl) (by kernel_rfl) (by kernel_rfl) (fun _ _ _ h => h) (.inr ⟨by kernel_rfl, rfl⟩) (by assumption) ?_
          simp only [Act.put, List.setIfInBounds_toArray, List.set_cons_zero, List.set_cons_succ]
          refine any_take 30 (some 61) undef rfl rfl (by kernel_rfl) (by kernel_rfl) (by kernel_rfl) (fun _ _ _ h => h) (.inr ⟨by kernel_rfl, rfl⟩) (by assumption) ?_
          simp only [Act.put, List.setIfInBounds_toArray, List.set_cons_zero, List.set_cons_succ]
          refine any_take 31 (some 62) undef rfl rfl (by kernel_rfl) (by kernel_rfl) (by kernel_rfl) (fun _ _ _ h => h) (.inr ⟨by kernel_rfl, rfl⟩) (by assumption) ?_
          simp only [Act.put, List.setIfInBounds_toArray, List.set_cons_zero, List.set_cons_succ]
          refine any_take 32 (some 63) (.bool true) rfl rfl (by kernel_rfl) (by kernel_rfl) (by kernel_rfl) (fun _ _ _ h => h) (.inl ⟨by kernel_rfl, fun _ _ => by kernel_rfl⟩) (by assumption) ?_
          simp only [Act.put, List.setIfInBounds_toArray, List.set_cons_zero, List.set_cons_succ]
          refine wpAnyH_done (by kernel_rfl) ?_ _
          clear hS t6 r6 x6
          go_wp2_with fail
          go_roundg (hi - (m + 1))
          case measure => have := B.out; omega
          case rel => exact ⟨m + 1, hi, by go_num, rfl, by have := B.out; have := hyi.1 hlt; exact ⟨by omega, by omega, by omega, by omega, by omega⟩, g6⟩
        · have heq : topN (D s y) = topN (D s x) := by omega
          refine any_take 8 (some 39) (.bool false) rfl rfl (by kernel_rfl) (by kernel_rfl) (by kernel_rfl) (fun _ _ _ h => h) (.inl ⟨by kernel_rfl, fun w' _ => (exec_lss32 (.tmp 37) (.tmp 38) rfl (topN (D s y)) (topN (D s x)) (by kernel_rfl) (by kernel_rfl)).trans (by simp [htp])⟩) (by assumption) ?_
          simp only [Act.put, List.setIfInBounds_toArray, List.set_cons_zero, List.set_cons_succ]
          refine any_take 9 (some 40) (.bool false) rfl rfl (by kernel_rfl) (by kernel_rfl) (by kernel_rfl) (fun _ _ _ h => h) (.inl ⟨by kernel_rfl, fun _ _ => by kernel_rfl⟩) (by assumption) ?_
          simp only [Act.put, List.setIfInBounds_toArray, List.set_cons_zero, List.set_cons_succ]
          refine any_take 10 (some 41) (.pointer (some ⟨p, 0, none⟩)) rfl rfl (by kernel_rfl) (by kernel_rfl) (by kernel_rfl) (fun _ _ _ h => h) (.inl ⟨by kernel_rfl, fun _ _ => by kernel_rfl⟩) (by assumption) ?_
          simp only [Act.put, List.setIfInBounds_toArray, List.set_cons_zero, List.set_cons_succ]
          refine any_take 11 (some 42) (.pointer (some ⟨p, 0, none⟩)) rfl rfl (by kernel_rfl) (by kernel_rfl) (by kernel_rfl) (fun _ _ _ h => h) (.inl ⟨by kernel_rfl, fun _ _ => by kernel_rfl⟩) (by assumption) ?_
          simp only [Act.put, List.setIfInBounds_toArray, List.set_cons_zero, List.set_cons_succ]
          refine any_take 12 (some 43) (.pointer (some ⟨p, 25, none⟩)) rfl rfl (by kernel_rfl) (by kernel_rfl) (by kernel_rfl) (fun _ _ _ h => h) (.inl ⟨by kernel_rfl, fun _ _ => by kernel_rfl⟩) (by assumption) ?_
          simp only [Act.put, List.setIfInBounds_toArray, List.set_cons_zero, List.set_cons_succ]
          refine any_take 13 (some 44) (.slice (some ⟨gt, 0, none⟩) n ct) rfl rfl (by kernel_rfl) (by kernel_rfl) (by kernel_rfl) (fun _ _ _ h => h) (yld_cell (by kernel_rfl) 30 (.tmp 43) rfl p 25 (by kernel_rfl) _ _ (fun _ h => keep_blk h t6.blk (by simp)) _ Ybaf.underlying30 rfl _ rfl) (by assumption) ?_
          simp only [Act.put, List.setIfInBounds_toArray, List.set_cons_zero, List.set_cons_succ]
          refine any_take 14 (some 45) (.int .i64 (m : Nat)) rfl rfl (by kernel_rfl) (by kernel_rfl) (by kernel_rfl) (fun _ _ _ h => h) (.inl ⟨by kernel_rfl, fun _ _ => by kernel_rfl⟩) (by assumption) ?_
          simp only [Act.put, List.setIfInBounds_toArray, List.set_cons_zero, List.set_cons_succ]
          refine any_take 15 (some 46) (.pointer (some ⟨gt, m * 1, none⟩)) rfl rfl (by kernel_rfl) (by kernel_rfl) (by kernel_rfl) (fun _ _ _ h => h) (.inl ⟨by kernel_rfl, fun w' _ => exec_index (.tmp 44) (.tmp 45) rfl Ybaf.underlying30 htt htz gt n ct m hmn (by kernel_rfl) (by kernel_rfl)⟩) (by assumption) ?_
          simp only [Act.put, List.setIfInBounds_toArray, List.set_cons_zero, List.set_cons_succ]
          refine any_take 16 (some 47) (.int .u64 (topN (D s y))) rfl rfl (by kernel_rfl) (by kernel_rfl) (by kernel_rfl) (fun _ _ _ h => h) (yld_at (by kernel_rfl) 32 (.tmp 46) rfl gt (m * 1) (by kernel_rfl) _ (fun _ h => own_tp (t6.kept h).ot hy) _ Ybaf.underlying32 rfl) (by assumption) ?_
          simp only [Act.put, List.setIfInBounds_toArray, List.set_cons_zero, List.set_cons_succ]
          refine any_take 17 (some 48) (.int .u64 (topN (D s x))) rfl rfl (by kernel_rfl) (by kernel_rfl) (by kernel_rfl) (fun _ _ _ h => h) (.inl ⟨by kernel_rfl, fun _ _ => by kernel_rfl⟩) (by assumption) ?_
          simp only [Act.put, List.setIfInBounds_toArray, List.set_cons_zero, List.set_cons_succ]
          refine any_take 18 (some 49) (.bool true) rfl rfl (by kernel_rfl) (by kernel_rfl) (by kernel_rfl) (fun _ _ _ h => h) (.inl ⟨by kernel_rfl, fun w' _ => (exec_eql32 (.tmp 47) (.tmp 48) rfl (topN (D s y)) (topN (D s x)) (by kernel_rfl) (by kernel_rfl)).trans (by simp [heq])⟩) (by assumption) ?_
          simp only [Act.put, List.setIfInBounds_toArray, List.set_cons_zero, List.set_cons_succ]
          refine any_take 19 (some 50) (.bool true) rfl rfl (by kernel_rfl) (by kernel_rfl) (by kernel_rfl) (fun _ _ _ h => h) (.inl ⟨by kernel_rfl, fun _ _ => by kernel_rfl⟩) (by assumption) ?_
          simp only [Act.put, List.setIfInBounds_toArray, List.set_cons_zero, List.set_cons_succ]
          refine any_take 20 (some 51) (.pointer (some ⟨p, 0, none⟩)) rfl rfl (by kernel_rfl) (by kernel_rfl) (by kernel_rfl) (fun _ _ _ h => h) (.inl ⟨by kernel_rfl, fun _ _ => by kernel_rfl⟩) (by assumption) ?_
          simp only [Act.put, List.setIfInBounds_toArray, List.set_cons_zero, List.set_cons_succ]
          refine any_take 21 (some 52) (.pointer (some ⟨p, 0, none⟩)) rfl rfl (by kernel_rfl) (by kernel_rfl) (by kernel_rfl) (fun _ _ _ h => h) (.inl ⟨by kernel_rfl, fun _ _ => by kernel_rfl⟩) (by assumption) ?_
          simp only [Act.put, List.setIfInBounds_toArray, List.set_cons_zero, List.set_cons_succ]
          refine any_take 22 (some 53) (.pointer (some ⟨p, 0, none⟩)) rfl rfl (by kernel_rfl) (by kernel_rfl) (by kernel_rfl) (fun _ _ _ h => h) (.inl ⟨by kernel_rfl, fun _ _ => by kernel_rfl⟩) (by assumption) ?_
          simp only [Act.put, List.setIfInBounds_toArray, List.set_cons_zero, List.set_cons_succ]
          refine any_take 23 (some 54) (.pointer (some ⟨p, 24, none⟩)) rfl rfl (by kernel_rfl) (by kernel_rfl) (by kernel_rfl) (fun _ _ _ h => h) (.inl ⟨by kernel_rfl, fun _ _ => by kernel_rfl⟩) (by assumption) ?_
          simp only [Act.put, List.setIfInBounds_toArray, List.set_cons_zero, List.set_cons_succ]
          refine any_take 24 (some 55) (.slice (some ⟨gi, 0, none⟩) n ci) rfl rfl (by kernel_rfl) (by kernel_rfl) (by kernel_rfl) (fun _ _ _ h => h) (yld_cell (by kernel_rfl) 27 (.tmp 54) rfl p 24 (by kernel_rfl) _ _ (fun _ h => keep_blk h t6.blk (by simp)) _ Ybaf.underlying27 rfl _ rfl) (by assumption) ?_
          simp only [Act.put, List.setIfInBounds_toArray, List.set_cons_zero, List.set_cons_succ]
          refine any_take 25 (some 56) (.int .i64 (m : Nat)) rfl rfl (by kernel_rfl) (by kernel_rfl) (by kernel_rfl) (fun _ _ _ h => h) (.inl ⟨by kernel_rfl, fun _ _ => by kernel_rfl⟩) (by assumption) ?_
          simp only [Act.put, List.setIfInBounds_toArray, List.set_cons_zero, List.set_cons_succ]
          refine any_take 26 (some 57) (.pointer (some ⟨gi, m * 20, none⟩)) rfl rfl (by kernel_rfl) (by kernel_rfl) (by kernel_rfl) (fun _ _ _ h => h) (.inl ⟨by kernel_rfl, fun w' _ => exec_index (.tmp 55) (.tmp 56) rfl Ybaf.underlying27 hti hts gi n ci m hmn (by kernel_rfl) (by kernel_rfl)⟩) (by assumption) ?_
          simp only [Act.put, List.setIfInBounds_toArray, List.set_cons_zero, List.set_cons_succ]
          refine any_take 28 (some 59) (.agg (uN (D s x)).toArray) rfl rfl (by kernel_rfl) (by kernel_rfl) (by kernel_rfl) (fun _ _ _ h => h) (yld_blk (by kernel_rfl) 41 (.tmp 7) rfl db (by kernel_rfl) (uN (D s x)) 41 (fun _ h => keep_blk h x6 (by simp)) _ Ybaf.underlying41 rfl (size41n _)) (by assumption) ?_
          simp only [Act.put, List.setIfInBounds_toArray, List.set_cons_zero, List.set_cons_succ]
          refine any_call 27 (some 58) 23 #[.pointer (some ⟨p, 0, none⟩), .pointer (some ⟨gi, m * 20, none⟩)] rfl rfl (by kernel_rfl) (by kernel_rfl) (by kernel_rfl) ?_
          refine (dist23 gs hsy t6.blk (own_ti t6.oi hy)).mono ?_
          rintro e u7 ⟨rfl, q7⟩
          have hS7 : Gr u6 u7 := q7
          refine ⟨_, rfl, hS7, ?_⟩
          simp only [Act.put, List.setIfInBounds_toArray, List.set_cons_zero, List.set_cons_succ]
          refine any_call 29 (some 60) 24 #[.agg (uN (D s y)).toArray, .agg (uN (D s x)).toArray] rfl rfl (by kernel_rfl) (by kernel_rfl) (by kernel_rfl) ?_
          refine (cmp_un _).mono ?_
          rintro e u8 ⟨rfl, q8⟩
          have hS8 : Gr u6 u8 := grown_trans q7 q8
          refine ⟨_, rfl, hS8, ?_⟩
          simp only [Act.put, List.setIfInBounds_toArray, List.set_cons_zero, List.set_cons_succ]
          refine any_take 30 (some 61) (.bool true) rfl rfl (by kernel_rfl) (by kernel_rfl) (by kernel_rfl) (fun _ _ _ h => h) (.inl ⟨by kernel_rfl, fun w' _ => (exec_lss (.tmp 60) rfl (D s y) (D s x) (by kernel_rfl)).trans (by simp [hlt])⟩) (by assumption) ?_
          simp only [Act.put, List.setIfInBounds_toArray, List.set_cons_zero, List.set_cons_succ]
          refine any_take 31 (some 62) (.bool true) rfl rfl (by kernel_rfl) (by kernel_rfl) (by kernel_rfl) (fun _ _ _ h => h) (.inl ⟨by kernel_rfl, fun _ _ => by kernel_rfl⟩) (by assumption) ?_
          simp only [Act.put, List.setIfInBounds_toArray, List.set_cons_zero, List.set_cons_succ]
          refine any_take 32 (some 63) (.bool true) rfl rfl (by kernel_rfl) (by kernel_rfl) (by kernel_rfl) (fun _ _ _ h => h) (.inl ⟨by kernel_rfl, fun _ _ => by kernel_rfl⟩) (by assumption) ?_
          simp only [Act.put, List.setIfInBounds_toArray, List.set_cons_zero, List.set_cons_succ]
          refine wpAnyH_done (by kernel_rfl) ?_ _
          have g8 : u4.grownBy u8 none := grown_trans g6 hS8
          clear hS7 hS8 q7 q8
          clear hS t6 r6 x6
          go_wp2_with fail
          go_roundg (hi - (m + 1))
          case measure => have := B.out; omega
          case rel => exact ⟨m + 1, hi, by go_num, rfl, by have := B.out; have := hyi.1 hlt; exact ⟨by omega, by omega, by omega, by omega, by omega⟩, g8⟩
      · have hle := top_le (Int.not_lt.1 hlt)
        have htp : ¬ topN (D s y) < topN (D s x) := by omega
        by_cases heq : topN (D s y) = topN (D s x)
        · refine any_take 8 (some 39) (.bool false) rfl rfl (by kernel_rfl) (by kernel_rfl) (by kernel_rfl) (fun _ _ _ h => h) (.inl ⟨by kernel_rfl, fun w' _ => (exec_lss32 (.tmp 37) (.tmp 38) rfl (topN (D s y)) (topN (D s x)) (by kernel_rfl) (by kernel_rfl)).trans (by simp [htp])⟩) (by assumption) ?_
          simp only [Act.put, List.setIfInBounds_toArray, List.set_cons_zero, List.set_cons_succ]
          refine any_take 9 (some 40) (.bool false) rfl rfl (by kernel_rfl) (by kernel_rfl) (by kernel_rfl) (fun _ _ _ h => h) (.inl ⟨by kernel_rfl, fun _ _ => by kernel_rfl⟩) (by assumption) ?_
          simp only [Act.put, List.setIfInBounds_toArray, List.set_cons_zero, List.set_cons_succ]
          refine any_take 10 (some 41) (.pointer (some ⟨p, 0, none⟩)) rfl rfl (by kernel_rfl) (by kernel_rfl) (by kernel_rfl) (fun _ _ _ h => h) (.inl ⟨by kernel_rfl, fun _ _ => by kernel_rfl⟩) (by assumption) ?_
          simp only [Act.put, List.setIfInBounds_toArray, List.set_cons_zero, List.set_cons_succ]
          refine any_take 11 (some 42) (.pointer (some ⟨p, 0, none⟩)) rfl rfl (by kernel_rfl) (by kernel_rfl) (by kernel_rfl) (fun _ _ _ h => h) (.inl ⟨by kernel_rfl, fun _ _ => by kernel_rfl⟩) (by assumption) ?_
          simp only [Act.put, List.setIfInBounds_toArray, List.set_cons_zero, List.set_cons_succ]
          refine any_take 12 (some 43) (.pointer (some ⟨p, 25, none⟩)) rfl rfl (by kernel_rfl) (by kernel_rfl) (by kernel_rfl) (fun _ _ _ h => h) (.inl ⟨by kernel_rfl, fun _ _ => by kernel_rfl⟩) (by assumption) ?_
          simp only [Act.put, List.setIfInBounds_toArray, List.set_cons_zero, List.set_cons_succ]
          refine any_take 13 (some 44) (.slice (some ⟨gt, 0, none⟩) n ct) rfl rfl (by kernel_rfl) (by kernel_rfl) (by kernel_rfl) (fun _ _ _ h => h) (yld_cell (by kernel_rfl) 30 (.tmp 43) rfl p 25 (by kernel_rfl) _ _ (fun _ h => keep_blk h t6.blk (by simp)) _ Ybaf.underlying30 rfl _ rfl) (by assumption) ?_
          simp only [Act.put, List.setIfInBounds_toArray, List.set_cons_zero, List.set_cons_succ]
          refine any_take 14 (some 45) (.int .i64 (m : Nat)) rfl rfl (by kernel_rfl) (by kernel_rfl) (by kernel_rfl) (fun _ _ _ h => h) (.inl ⟨by kernel_rfl, fun _ _ => by kernel_rfl⟩) (by assumption) ?_
          simp only [Act.put, List.setIfInBounds_toArray, List.set_cons_zero, List.set_cons_succ]
          refine any_take 15 (some 46) (.pointer (some ⟨gt, m * 1, none⟩)) rfl rfl (by kernel_rfl) (by kernel_rfl) (by kernel_rfl) (fun _ _ _ h => h) (.inl ⟨by kernel_rfl, fun w' _ => exec_index (.tmp 44) (.tmp 45) rfl Ybaf.underlying30 htt htz gt n ct m hmn (by kernel_rfl) (by kernel_rfl)⟩) (by assumption) ?_
          simp only [Act.put, List.setIfInBounds_toArray, List.set_cons_zero, List.set_cons_succ]
          refine any_take 16 (some 47) (.int .u64 (topN (D s y))) rfl rfl (by kernel_rfl) (by kernel_rfl) (by kernel_rfl) (fun _ _ _ h => h) (yld_at (by kernel_rfl) 32 (.tmp 46) rfl gt (m * 1) (by kernel_rfl) _ (fun _ h => own_tp (t6.kept h).ot hy) _ Ybaf.underlying32 rfl) (by assumption) ?_
          simp only [Act.put, List.setIfInBounds_toArray, List.set_cons_zero, List.set_cons_succ]
          refine any_take 17 (some 48) (.int .u64 (topN (D s x))) rfl rfl (by kernel_rfl) (by kernel_rfl) (by kernel_rfl) (fun _ _ _ h => h) (.inl ⟨by kernel_rfl, fun _ _ => by kernel_rfl⟩) (by assumption) ?_
          simp only [Act.put, List.setIfInBounds_toArray, List.set_cons_zero, List.set_cons_succ]
          refine any_take 18 (some 49) (.bool true) rfl rfl (by kernel_rfl) (by kernel_rfl) (by kernel_rfl) (fun _ _ _ h => h) (.inl ⟨by kernel_rfl, fun w' _ => (exec_eql32 (.tmp 47) (.tmp 48) rfl (topN (D s y)) (topN (D s x)) (by kernel_rfl) (by kernel_rfl)).trans (by simp [heq])⟩) (by assumption) ?_
          simp only [Act.put, List.setIfInBounds_toArray, List.set_cons_zero, List.set_cons_succ]
          refine any_take 19 (some 50) (.bool true) rfl rfl (by kernel_rfl) (by kernel_rfl) (by kernel_rfl) (fun _ _ _ h => h) (.inl ⟨by kernel_rfl, fun _ _ => by kernel_rfl⟩) (by assumption) ?_
          simp only [Act.put, List.setIfInBounds_toArray, List.set_cons_zero, List.set_cons_succ]
          refine any_take 20 (some 51) (.pointer (some ⟨p, 0, none⟩)) rfl rfl (by kernel_rfl) (by kernel_rfl) (by kernel_rfl) (fun _ _ _ h => h) (.inl ⟨by kernel_rfl, fun _ _ => by kernel_rfl⟩) (by assumption) ?_
          simp only [Act.put, List.setIfInBounds_toArray, List.set_cons_zero, List.set_cons_succ]
          refine any_take 21 (some 52) (.pointer (some ⟨p, 0, none⟩)) rfl rfl (by kernel_rfl) (by kernel_rfl) (by kernel_rfl) (fun _ _ _ h => h) (.inl ⟨by kernel_rfl, fun _ _ => by kernel_rfl⟩) (by assumption) ?_
          simp only [Act.put, List.setIfInBounds_toArray, List.set_cons_zero, List.set_cons_succ]
          refine any_take 22 (some 53) (.pointer (some ⟨p, 0, none⟩)) rfl rfl (by kernel_rfl) (by kernel_rfl) (by kernel_rfl) (fun _ _ _ h => h) (.inl ⟨by kernel_rfl, fun _ _ => by kernel_rfl⟩) (by assumption) ?_
          simp only [Act.put, List.setIfInBounds_toArray, List.set_cons_zero, List.set_cons_succ]
          refine any_take 23 (some 54) (.pointer (some ⟨p, 24, none⟩)) rfl rfl (by kernel_rfl) (by kernel_rfl) (by kernel_rfl) (fun _ _ _ h => h) (.inl ⟨by kernel_rfl, fun _ _ => by kernel_rfl⟩) (by assumption) ?_
          simp only [Act.put, List.setIfInBounds_toArray, List.set_cons_zero, List.set_cons_succ]
          refine any_take 24 (some 55) (.slice (some ⟨gi, 0, none⟩) n ci) rfl rfl (by kernel_rfl) (by kernel_rfl) (by kernel_rfl) (fun _ _ _ h => h) (yld_cell (by kernel_rfl) 27 (.tmp 54) rfl p 24 (by kernel_rfl) _ _ (fun _ h => keep_blk h t6.blk (by simp)) _ Ybaf.underlying27 rfl _ rfl) (by assumption) ?_
          simp only [Act.put, List.setIfInBounds_toArray, List.set_cons_zero, List.set_cons_succ]
          refine any_take 25 (some 56) (.int .i64 (m : Nat)) rfl rfl (by kernel_rfl) (by kernel_rfl) (by kernel_rfl) (fun _ _ _ h => h) (.inl ⟨by kernel_rfl, fun _ _ => by kernel_rfl⟩) (by assumption) ?_
          simp only [Act.put, List.setIfInBounds_toArray, List.set_cons_zero, List.set_cons_succ]
          refine any_take 26 (some 57) (.pointer (some ⟨gi, m * 20, none⟩)) rfl rfl (by kernel_rfl) (by kernel_rfl) (by kernel_rfl) (fun _ _ _ h => h) (.inl ⟨by kernel_rfl, fun w' _ => exec_index (.tmp 55) (.tmp 56) rfl Ybaf.underlying27 hti hts gi n ci m hmn (by kernel_rfl) (by kernel_rfl)⟩) (by assumption) ?_
          simp only [Act.put, List.setIfInBounds_toArray, List.set_cons_zero, List.set_cons_succ]
          refine any_take 28 (some 59) (.agg (uN (D s x)).toArray) rfl rfl (by kernel_rfl) (by kernel_rfl) (by kernel_rfl) (fun _ _ _ h => h) (yld_blk (by kernel_rfl) 41 (.tmp 7) rfl db (by kernel_rfl) (uN (D s x)) 41 (fun _ h => keep_blk h x6 (by simp)) _ Ybaf.underlying41 rfl (size41n _)) (by assumption) ?_
          simp only [Act.put, List.setIfInBounds_toArray, List.set_cons_zero, List.set_cons_succ]
          refine any_call 27 (some 58) 23 #[.pointer (some ⟨p, 0, none⟩), .pointer (some ⟨gi, m * 20, none⟩)] rfl rfl (by kernel_rfl) (by kernel_rfl) (by kernel_rfl) ?_
          refine (dist23 gs hsy t6.blk (own_ti t6.oi hy)).mono ?_
          rintro e u7 ⟨rfl, q7⟩
          have hS7 : Gr u6 u7 := q7
          refine ⟨_, rfl, hS7, ?_⟩
          simp only [Act.put, List.setIfInBounds_toArray, List.set_cons_zero, List.set_cons_succ]
          refine any_call 29 (some 60) 24 #[.agg (uN (D s y)).toArray, .agg (uN (D s x)).toArray] rfl rfl (by kernel_rfl) (by kernel_rfl) (by kernel_rfl) ?_
          refine (cmp_un _).mono ?_
          rintro e u8 ⟨rfl, q8⟩
          have hS8 : Gr u6 u8 := grown_trans q7 q8
          refine ⟨_, rfl, hS8, ?_⟩
          simp only [Act.put, List.setIfInBounds_toArray, List.set_cons_zero, List.set_cons_succ]
          refine any_take 30 (some 61) (.bool false) rfl rfl (by kernel_rfl) (by kernel_rfl) (by kernel_rfl) (fun _ _ _ h => h) (.inl ⟨by kernel_rfl, fun w' _ => (exec_lss (.tmp 60) rfl (D s y) (D s x) (by kernel_rfl)).trans (by simp [hlt])⟩) (by assumption) ?_
          simp only [Act.put, List.setIfInBounds_toArray, List.set_cons_zero, List.set_cons_succ]
          refine any_take 31 (some 62) (.bool false) rfl rfl (by kernel_rfl) (by kernel_rfl) (by kernel_rfl) (fun _ _ _ h => h) (.inl ⟨by kernel_rfl, fun _ _ => by kernel_rfl⟩) (by assumption) ?_
          simp only [Act.put, List.setIfInBounds_toArray, List.set_cons_zero, List.set_cons_succ]
          refine any_take 32 (some 63) (.bool false) rfl rfl (by kernel_rfl) (by kernel_rfl) (by kernel_rfl) (fun _ _ _ h => h) (.inl ⟨by kernel_rfl, fun _ _ => by kernel_rfl⟩) (by assumption) ?_
          simp only [Act.put, List.setIfInBounds_toArray, List.set_cons_zero, List.set_cons_succ]
          refine wpAnyH_done (by kernel_rfl) ?_ _
          have g8 : u4.grownBy u8 none := grown_trans g6 hS8
          clear hS7 hS8 q7 q8
          clear hS t6 r6 x6
          go_wp2_with fail
          go_roundg (m - lo)
          case measure => have := B.out; omega
          case rel => exact ⟨lo, m, rfl, rfl, by have := B.out; have hmr : ¬ m < r := (fun h => by have := hyi.2 h; omega); exact ⟨by omega, by omega, by omega, by omega, by omega⟩, g8⟩
        · refine any_take 8 (some 39) (.bool false) rfl rfl (by kernel_rfl) (by kernel_rfl) (by kernel_rfl) (fun _ _ _ h => h) (.inl ⟨by kernel_rfl, fun w' _ => (exec_lss32 (.tmp 37) (.tmp 38) rfl (topN (D s y)) (topN (D s x)) (by kernel_rfl) (by kernel_rfl)).trans (by simp [htp])⟩) (by assumption) ?_
          simp only [Act.put, List.setIfInBounds_toArray, List.set_cons_zero, List.set_cons_succ]
          refine any_take 9 (some 40) (.bool false) rfl rfl (by kernel_rfl) (by kernel_rfl) (by kernel_rfl) (fun _ _ _ h => h) (.inl ⟨by kernel_rfl, fun _ _ => by kernel_rfl⟩) (by assumption) ?_
          simp only [Act.put, List.setIfInBounds_toArray, List.set_cons_zero, List.set_cons_succ]
          refine any_take 10 (some 41) (.pointer (some ⟨p, 0, none⟩)) rfl rfl (by kernel_rfl) (by kernel_rfl) (by kernel_rfl) (fun _ _ _ h => h) (.inl ⟨by kernel_rfl, fun _ _ => by kernel_rfl⟩) (by assumption) ?_
          simp only [Act.put, List.setIfInBounds_toArray, List.set_cons_zero, List.set_cons_succ]
          refine any_take 11 (some 42) (.pointer (some ⟨p, 0, none⟩)) rfl rfl (by kernel_rfl) (by kernel_rfl) (by kernel_rfl) (fun _ _ _ h => h) (.inl ⟨by kernel_rfl, fun _ _ => by kernel_rfl⟩) (by assumption) ?_
          simp only [Act.put, List.setIfInBounds_toArray, List.set_cons_zero, List.set_cons_succ]
          refine any_take 12 (some 43) (.pointer (some ⟨p, 25, none⟩)) rfl rfl (by kernel_rfl) (by kernel_rfl) (by kernel_rfl) (fun _ _ _ h => h) (.inl ⟨by kernel_rfl, fun _ _ => by kernel_rfl⟩) (by assumption) ?_
          simp only [Act.put, List.setIfInBounds_toArray, List.set_cons_zero, List.set_cons_succ]
          refine any_take 13 (some 44) (.slice (some ⟨gt, 0, none⟩) n ct) rfl rfl (by kernel_rfl) (by kernel_rfl) (by kernel_rfl) (fun _ _ _ h => h) (yld_cell (by kernel_rfl) 30 (.tmp 43) rfl p 25 (by kernel_rfl) _ _ (fun _ h => keep_blk h t6.blk (by simp)) _ Ybaf.underlying30 rfl _ rfl) (by assumption) ?_
          simp only [Act.put, List.setIfInBounds_toArray, List.set_cons_zero, List.set_cons_succ]
          refine any_take 14 (some 45) (.int .i64 (m : Nat)) rfl rfl (by kernel_rfl) (by kernel_rfl) (by kernel_rfl) (fun _ _ _ h => h) (.inl ⟨by kernel_rfl, fun _ _ => by kernel_rfl⟩) (by assumption) ?_
          simp only [Act.put, List.setIfInBounds_toArray, List.set_cons_zero, List.set_cons_succ]
          refine any_take 15 (some 46) (.pointer (some ⟨gt, m * 1, none⟩)) rfl rfl (by kernel_rfl) (by kernel_rfl) (by kernel_rfl) (fun _ _ _ h => h) (.inl ⟨by kernel_rfl, fun w' _ => exec_index (.tmp 44) (.tmp 45) rfl Ybaf.underlying30 htt htz gt n ct m hmn (by kernel_rfl) (by kernel_rfl)⟩) (by assumption) ?_
          simp only [Act.put, List.setIfInBounds_toArray, List.set_cons_zero, List.set_cons_succ]
          refine any_take 16 (some 47) (.int .u64 (topN (D s y))) rfl rfl (by kernel_rfl) (by kernel_rfl) (by kernel_rfl) (fun _ _ _ h => h) (yld_at (by kernel_rfl) 32 (.tmp 46) rfl gt (m * 1) (by kernel_rfl) _ (fun _ h => own_tp (t6.kept h).ot hy) _ Ybaf.underlying32 rfl) (by assumption) ?_
          simp only [Act.put, List.setIfInBounds_toArray, List.set_cons_zero, List.set_cons_succ]
          refine any_take 17 (some 48) (.int .u64 (topN (D s x))) rfl rfl (by kernel_rfl) (by kernel_rfl) (by kernel_rfl) (fun _ _ _ h => h) (.inl ⟨by kernel_rfl, fun _ _ => by kernel_rfl⟩) (by assumption) ?_
          simp only [Act.put, List.setIfInBounds_toArray, List.set_cons_zero, List.set_cons_succ]
          refine any_take 18 (some 49) (.bool false) rfl rfl (by kernel_rfl) (by kernel_rfl) (by kernel_rfl) (fun _ _ _ h => h) (.inl ⟨by kernel_rfl, fun w' _ => (exec_eql32 (.tmp 47) (.tmp 48) rfl (topN (D s y)) (topN (D s x)) (by kernel_rfl) (by kernel_rfl)).trans (by simp [heq])⟩) (by assumption) ?_
          simp only [Act.put, List.setIfInBounds_toArray, List.set_cons_zero, List.set_cons_succ]
          refine any_take 19 (some 50) (.bool false) rfl rfl (by kernel_rfl) (by kernel_rfl) (by kernel_rfl) (fun _ _ _ h => h) (.inl ⟨by kernel_rfl, fun _ _ => by kernel_rfl⟩) (by assumption) ?_
          simp only [Act.put, List.setIfInBounds_toArray, List.set_cons_zero, List.set_cons_succ]
          refine any_take 20 (some 51) undef rfl rfl (by kernel_rfl) (by kernel_rfl) (by kernel_rfl) (fun _ _ _ h => h) (.inr ⟨by kernel_rfl, rfl⟩) (by assumption) ?_
          simp only [Act.put, List.setIfInBounds_toArray, List.set_cons_zero, List.set_cons_succ]
          refine any_take 21 (some 52) undef rfl rfl (by kernel_rfl) (by kernel_rfl) (by kernel_rfl) (fun _ _ _ h => h) (.inr ⟨by kernel_rfl, rfl⟩) (by assumption) ?_
          simp only [Act.put, List.setIfInBounds_toArray, List.set_cons_zero, List.set_cons_succ]
          refine any_take 22 (some 53) undef rfl rfl (by kernel_rfl) (by kernel_rfl) (by kernel_rfl) (fun _ _ _ h => h) (.inr ⟨by kernel_rfl, rfl⟩) (by assumption) ?_
          simp only [Act.put, List.setIfInBounds_toArray, List.set_cons_zero, List.set_cons_succ]
          refine any_take 23 (some 54) undef rfl rfl (by kernel_rfl) (by kernel_rfl) (by kernel_rfl) (fun _ _ _ h => h) (.inr ⟨by kernel_rfl, rfl⟩) (by assumption) ?_
          simp only [Act.put, List.setIfInBounds_toArray, List.set_cons_zero, List.set_cons_succ]
          refine any_take 24 (some 55) undef rfl rfl (by kernel_rfl) (by kernel_rfl) (by kernel_rfl) (fun _ _ _ h => h) (.inr ⟨by kernel_rfl, rfl⟩) (by assumption) ?_
          simp only [Act.put, List.setIfInBounds_toArray, List.set_cons_zero, List.set_cons_succ]
          refine any_take 25 (some 56) undef rfl rfl (by kernel_rfl) (by kernel_rfl) (by kernel_rfl) (fun _ _ _ h => h) (.inr ⟨by kernel_rfl, rfl⟩) (by assumption) ?_
          simp only [Act.put, List.setIfInBounds_toArray, List.set_cons_zero, List.set_cons_succ]
          refine any_take 26 (some 57) undef rfl rfl (by kernel_rfl) (by kernel_rfl) (by kernel_rfl) (fun _ _ _ h => h) (.inr ⟨by kernel_rfl, rfl⟩) (by assumption) ?_
          simp only [Act.put, List.setIfInBounds_toArray, List.set_cons_zero, List.set_cons_succ]
          refine any_take 27 (some 58) undef rfl rfl (by kernel_rfl) (by kernel_rfl) (by kernel_rfl) (fun _ _ _ h => h) (.inr ⟨by kernel_rfl, rfl⟩) (by assumption) ?_
          simp only [Act.put, List.setIfInBounds_toArray, List.set_cons_zero, List.set_cons_succ]
          refine any_take 28 (some 59) undef rfl rfl (by kernel_rfl) (by kernel_rfl) (by kernel_rfl) (fun _ _ _ h => h) (.inr ⟨by kernel_rfl, rfl⟩) (by assumption) ?_
          simp only [Act.put, List.setIfInBounds_toArray, List.set_cons_zero, List.set_cons_succ]
          refine any_take 29 (some 60) undef rfl rfl (by kernel_rfl) (by kernel_rfl) (by kernel_rfl) (fun _ _ _ h => h) (.inr ⟨by kernel_rfl, rfl⟩) (by assumption) ?_
          simp only [Act.put, List.setIfInBounds_toArray, List.set_cons_zero, List.set_cons_succ]
          refine any_take 30 (some 61) undef rfl rfl (by kernel_rfl) (by kernel_rfl) (by kernel_rfl) (fun _ _ _ h => h) (.inr ⟨by kernel_rfl, rfl⟩) (by assumption) ?_
          simp only [Act.put, List.setIfInBounds_toArray, List.set_cons_zero, List.set_cons_succ]
          refine any_take 31 (some 62) (.bool false) rfl rfl (by kernel_rfl) (by kernel_rfl) (by kernel_rfl) (fun _ _ _ h => h) (.inl ⟨by kernel_rfl, fun _ _ => by kernel_rfl⟩) (by assumption) ?_
          simp only [Act.put, List.setIfInBounds_toArray, List.set_cons_zero, List.set_cons_succ]
          refine any_take 32 (some 63) (.bool false) rfl rfl (by kernel_rfl) (by kernel_rfl) (by kernel_rfl) (fun _ _ _ h => h) (.inl ⟨by kernel_rfl, fun _ _ => by kernel_rfl⟩) (by assumption) ?_
          simp only [Act.put, List.setIfInBounds_toArray, List.set_cons_zero, List.set_cons_succ]
          refine wpAnyH_done (by kernel_rfl) ?_ _
          clear hS t6 r6 x6
          go_wp2_with fail
          go_roundg (m - lo)
          case measure => have := B.out; omega
          case rel => exact ⟨lo, m, rfl, rfl, by have := B.out; have hmr : ¬ m < r := (fun h => by have := hyi.2 h; omega); exact ⟨by omega, by omega, by omega, by omega, by omega⟩, g6⟩
    · have hlo : lo = r := by have := B.out; omega
      have hin' : ¬ (lo : Int) < (hi : Int) := by omega
      subst hlo
      clear x4 t4 r4
      go_upto_region 9 with fail
      refine wp_region_held (S := Gr { wr with drawn := wr.drawn + 1 }) (by kernel_rfl) ?_
      have g6 : w.grownBy { wr with drawn := wr.drawn + 1 } none := grown_trans g4 (grown_trans g5 (grown_drew wr))
      have x6 := keep_blk (grown_drew wr) x5 (by simp)
      have t6 := t5.kept (grown_drew wr)
      have r6 := range_kept r5 (grown_drew wr)
      clear x5 t5 r5 g5
      generalize ({ wr with drawn := wr.drawn + 1 } : World) = u6 at *
      have hS := Gr.refl u6
      refine any_take 0 (some 67) (.int .i64 (lo : Nat)) rfl rfl (by kernel_rfl) (by kernel_rfl) (by kernel_rfl) (fun _ _ _ h => h) (.inl ⟨by kernel_rfl, fun _ _ => by kernel_rfl⟩) (by assumption) ?_
      simp only [Act.put, List.setIfInBounds_toArray, List.set_cons_zero, List.set_cons_succ]
      refine any_take 1 (some 68) (.pointer (some ⟨p, 0, none⟩)) rfl rfl (by kernel_rfl) (by kernel_rfl) (by kernel_rfl) (fun _ _ _ h => h) (.inl ⟨by kernel_rfl, fun _ _ => by kernel_rfl⟩) (by assumption) ?_
      simp only [Act.put, List.setIfInBounds_toArray, List.set_cons_zero, List.set_cons_succ]
      refine any_take 2 (some 69) (.pointer (some ⟨p, 0, none⟩)) rfl rfl (by kernel_rfl) (by kernel_rfl) (by kernel_rfl) (fun _ _ _ h => h) (.inl ⟨by kernel_rfl, fun _ _ => by kernel_rfl⟩) (by assumption) ?_
      simp only [Act.put, List.setIfInBounds_toArray, List.set_cons_zero, List.set_cons_succ]
      refine any_take 3 (some 70) (.pointer (some ⟨p, 24, none⟩)) rfl rfl (by kernel_rfl) (by kernel_rfl) (by kernel_rfl) (fun _ _ _ h => h) (.inl ⟨by kernel_rfl, fun _ _ => by kernel_rfl⟩) (by assumption) ?_
      simp only [Act.put, List.setIfInBounds_toArray, List.set_cons_zero, List.set_cons_succ]
      refine any_take 4 (some 71) (.slice ai n ci) rfl rfl (by kernel_rfl) (by kernel_rfl) (by kernel_rfl) (fun _ _ _ h => h) (yld_cell (by kernel_rfl) 27 (.tmp 70) rfl p 24 (by kernel_rfl) _ _ (fun _ h => keep_blk h t6.blk (by simp)) _ Ybaf.underlying27 rfl _ rfl) (by assumption) ?_
      simp only [Act.put, List.setIfInBounds_toArray, List.set_cons_zero, List.set_cons_succ]
      refine any_take 5 (some 72) (.int .i64 n) rfl rfl (by kernel_rfl) (by kernel_rfl) (by kernel_rfl) (fun _ _ _ h => h) (.inl ⟨by kernel_rfl, fun _ _ => by kernel_rfl⟩) (by assumption) ?_
      simp only [Act.put, List.setIfInBounds_toArray, List.set_cons_zero, List.set_cons_succ]
      by_cases hln : lo < n
      · have hln' : (lo : Int) < (n : Int) := by omega
        obtain ⟨y, hy⟩ : ∃ y, ids[lo]? = some y := ⟨_, List.getElem?_eq_getElem (by have := A.out; omega)⟩
        have hsy := hsub lo y hy
        obtain ⟨gt, rfl⟩ := ft (by omega)
        obtain ⟨gi, rfl⟩ := fi (by omega)
        refine any_take 6 (some 73) (.bool true) rfl rfl (by kernel_rfl) (by kernel_rfl) (by kernel_rfl) (fun _ _ _ h => h) (.inl ⟨by kernel_rfl, fun w' _ => (exec_lss3 (.tmp 67) (.tmp 72) rfl (lo : Int) (n : Int) (by kernel_rfl) (by kernel_rfl)).trans (by simp [hln'])⟩) (by assumption) ?_
        simp only [Act.put, List.setIfInBounds_toArray, List.set_cons_zero, List.set_cons_succ]
        refine any_take 7 (some 74) (.bool true) rfl rfl (by kernel_rfl) (by kernel_rfl) (by kernel_rfl) (fun _ _ _ h => h) (.inl ⟨by kernel_rfl, fun _ _ => by kernel_rfl⟩) (by assumption) ?_
        simp only [Act.put, List.setIfInBounds_toArray, List.set_cons_zero, List.set_cons_succ]
        refine any_take 8 (some 75) (.pointer (some ⟨p, 0, none⟩)) rfl rfl (by kernel_rfl) (by kernel_rfl) (by kernel_rfl) (fun _ _ _ h => h) (.inl ⟨by kernel_rfl, fun _ _ => by kernel_rfl⟩) (by assumption) ?_
        simp only [Act.put, List.setIfInBounds_toArray, List.set_cons_zero, List.set_cons_succ]
        refine any_take 9 (some 76) (.pointer (some ⟨p, 0, none⟩)) rfl rfl (by kernel_rfl) (by kernel_rfl) (by kernel_rfl) (fun _ _ _ h => h) (.inl ⟨by kernel_rfl, fun _ _ => by kernel_rfl⟩) (by assumption) ?_
        simp only [Act.put, List.setIfInBounds_toArray, List.set_cons_zero, List.set_cons_succ]
        refine any_take 10 (some 77) (.pointer (some ⟨p, 25, none⟩)) rfl rfl (by kernel_rfl) (by kernel_rfl) (by kernel_rfl) (fun _ _ _ h => h) (.inl ⟨by kernel_rfl, fun _ _ => by kernel_rfl⟩) (by assumption) ?_
        simp only [Act.put, List.setIfInBounds_toArray, List.set_cons_zero, List.set_cons_succ]
        refine any_take 11 (some 78) (.slice (some ⟨gt, 0, none⟩) n ct) rfl rfl (by kernel_rfl) (by kernel_rfl) (by kernel_rfl) (fun _ _ _ h => h) (yld_cell (by kernel_rfl) 30 (.tmp 77) rfl p 25 (by kernel_rfl) _ _ (fun _ h => keep_blk h t6.blk (by simp)) _ Ybaf.underlying30 rfl _ rfl) (by assumption) ?_
        simp only [Act.put, List.setIfInBounds_toArray, List.set_cons_zero, List.set_cons_succ]
        refine any_take 12 (some 79) (.int .i64 (lo : Nat)) rfl rfl (by kernel_rfl) (by kernel_rfl) (by kernel_rfl) (fun _ _ _ h => h) (.inl ⟨by kernel_rfl, fun _ _ => by kernel_rfl⟩) (by assumption) ?_
        simp only [Act.put, List.setIfInBounds_toArray, List.set_cons_zero, List.set_cons_succ]
        refine any_take 13 (some 80) (.pointer (some ⟨gt, lo * 1, none⟩)) rfl rfl (by kernel_rfl) (by kernel_rfl) (by kernel_rfl) (fun _ _ _ h => h) (.inl ⟨by kernel_rfl, fun w' _ => exec_index (.tmp 78) (.tmp 79) rfl Ybaf.underlying30 htt htz gt n ct lo hln (by kernel_rfl) (by kernel_rfl)⟩) (by assumption) ?_
        simp only [Act.put, List.setIfInBounds_toArray, List.set_cons_zero, List.set_cons_succ]
        refine any_take 14 (some 81) (.int .u64 (topN (D s y))) rfl rfl (by kernel_rfl) (by kernel_rfl) (by kernel_rfl) (fun _ _ _ h => h) (yld_at (by kernel_rfl) 32 (.tmp 80) rfl gt (lo * 1) (by kernel_rfl) _ (fun _ h => own_tp (t6.kept h).ot hy) _ Ybaf.underlying32 rfl) (by assumption) ?_
        simp only [Act.put, List.setIfInBounds_toArray, List.set_cons_zero, List.set_cons_succ]
        refine any_take 15 (some 82) (.int .u64 (topN (D s x))) rfl rfl (by kernel_rfl) (by kernel_rfl) (by kernel_rfl) (fun _ _ _ h => h) (.inl ⟨by kernel_rfl, fun _ _ => by kernel_rfl⟩) (by assumption) ?_
        simp only [Act.put, List.setIfInBounds_toArray, List.set_cons_zero, List.set_cons_succ]
        by_cases heq : topN (D s y) = topN (D s x)
        · refine any_take 16 (some 83) (.bool true) rfl rfl (by kernel_rfl) (by kernel_rfl) (by kernel_rfl) (fun _ _ _ h => h) (.inl ⟨by kernel_rfl, fun w' _ => (exec_eql32 (.tmp 81) (.tmp 82) rfl (topN (D s y)) (topN (D s x)) (by kernel_rfl) (by kernel_rfl)).trans (by simp [heq])⟩) (by assumption) ?_
          simp only [Act.put, List.setIfInBounds_toArray, List.set_cons_zero, List.set_cons_succ]
          refine any_take 17 (some 84) (.bool true) rfl rfl (by kernel_rfl) (by kernel_rfl) (by kernel_rfl) (fun _ _ _ h => h) (.inl ⟨by kernel_rfl, fun _ _ => by kernel_rfl⟩) (by assumption) ?_
          simp only [Act.put, List.setIfInBounds_toArray, List.set_cons_zero, List.set_cons_succ]
          refine any_take 18 (some 85) (.bool true) rfl rfl (by kernel_rfl) (by kernel_rfl) (by kernel_rfl) (fun _ _ _ h => h) (.inl ⟨by kernel_rfl, fun _ _ => by kernel_rfl⟩) (by assumption) ?_
          simp only [Act.put, List.setIfInBounds_toArray, List.set_cons_zero, List.set_cons_succ]
          refine any_take 19 (some 86) (.pointer (some ⟨p, 0, none⟩)) rfl rfl (by kernel_rfl) (by kernel_rfl) (by kernel_rfl) (fun _ _ _ h => h) (.inl ⟨by kernel_rfl, fun _ _ => by kernel_rfl⟩) (by assumption) ?_
          simp only [Act.put, List.setIfInBounds_toArray, List.set_cons_zero, List.set_cons_succ]
          refine any_take 20 (some 87) (.pointer (some ⟨p, 0, none⟩)) rfl rfl (by kernel_rfl) (by kernel_rfl) (by kernel_rfl) (fun _ _ _ h => h) (.inl ⟨by kernel_rfl, fun _ _ => by kernel_rfl⟩) (by assumption) ?_
          simp only [Act.put, List.setIfInBounds_toArray, List.set_cons_zero, List.set_cons_succ]
          refine any_take 21 (some 88) (.pointer (some ⟨p, 24, none⟩)) rfl rfl (by kernel_rfl) (by kernel_rfl) (by kernel_rfl) (fun _ _ _ h => h) (.inl ⟨by kernel_rfl, fun _ _ => by kernel_rfl⟩) (by assumption) ?_
          simp only [Act.put, List.setIfInBounds_toArray, List.set_cons_zero, List.set_cons_succ]
          refine any_take 22 (some 89) (.slice (some ⟨gi, 0, none⟩) n ci) rfl rfl (by kernel_rfl) (by kernel_rfl) (by kernel_rfl) (fun _ _ _ h => h) (yld_cell (by kernel_rfl) 27 (.tmp 88) rfl p 24 (by kernel_rfl) _ _ (fun _ h => keep_blk h t6.blk (by simp)) _ Ybaf.underlying27 rfl _ rfl) (by assumption) ?_
          simp only [Act.put, List.setIfInBounds_toArray, List.set_cons_zero, List.set_cons_succ]
          refine any_take 23 (some 90) (.int .i64 (lo : Nat)) rfl rfl (by kernel_rfl) (by kernel_rfl) (by kernel_rfl) (fun _ _ _ h => h) (.inl ⟨by kernel_rfl, fun _ _ => by kernel_rfl⟩) (by assumption) ?_
          simp only [Act.put, List.setIfInBounds_toArray, List.set_cons_zero, List.set_cons_succ]
          refine any_take 24 (some 91) (.pointer (some ⟨gi, lo * 20, none⟩)) rfl rfl (by kernel_rfl) (by kernel_rfl) (by kernel_rfl) (fun _ _ _ h => h) (.inl ⟨by kernel_rfl, fun w' _ => exec_index (.tmp 89) (.tmp 90) rfl Ybaf.underlying27 hti hts gi n ci lo hln (by kernel_rfl) (by kernel_rfl)⟩) (by assumption) ?_
          simp only [Act.put, List.setIfInBounds_toArray, List.set_cons_zero, List.set_cons_succ]
          refine any_take 25 (some 92) (.agg (ic y).toArray) rfl rfl (by kernel_rfl) (by kernel_rfl) (by kernel_rfl) (fun _ _ _ h => h) (yieldsIf_load_mid (by kernel_rfl) 25 (.tmp 91) rfl gi (lo * 20) (by kernel_rfl) (ic y) _ (fun _ h => own_ti (t6.kept h).oi hy) Ybaf.underlying25 rfl (size25 _)) (by assumption) ?_
          simp only [Act.put, List.setIfInBounds_toArray, List.set_cons_zero, List.set_cons_succ]
          refine any_take 26 (some 93) (.pointer (some ⟨b, o, none⟩)) rfl rfl (by kernel_rfl) (by kernel_rfl) (by kernel_rfl) (fun _ _ _ h => h) (.inl ⟨by kernel_rfl, fun _ _ => by kernel_rfl⟩) (by assumption) ?_
          simp only [Act.put, List.setIfInBounds_toArray, List.set_cons_zero, List.set_cons_succ]
          refine any_take 27 (some 94) (.pointer (some ⟨b, o, none⟩)) rfl rfl (by kernel_rfl) (by kernel_rfl) (by kernel_rfl) (fun _ _ _ h => h) (.inl ⟨by kernel_rfl, fun _ _ => by kernel_rfl⟩) (by assumption) ?_
          simp only [Act.put, List.setIfInBounds_toArray, List.set_cons_zero, List.set_cons_succ]
          refine any_take 28 (some 95) (.agg (ic x).toArray) rfl rfl (by kernel_rfl) (by kernel_rfl) (by kernel_rfl) (fun _ _ _ h => h) (yieldsIf_load_mid (by kernel_rfl) 25 (.tmp 94) rfl b o (by kernel_rfl) (ic x) _ (fun _ h => range_kept r6 h) Ybaf.underlying25 rfl (size25 _)) (by assumption) ?_
          simp only [Act.put, List.setIfInBounds_toArray, List.set_cons_zero, List.set_cons_succ]
          have hm : decide (nm (cf y) = nm (cf x)) = decide (x ∈ ids) := by
            apply decide_eq_decide.2
            rw [nm_cf hsy hx, A.out.2.1, hy]
            simp
          refine any_take 29 (some 96) (.bool (decide (x ∈ ids))) rfl rfl (by kernel_rfl) (by kernel_rfl) (by kernel_rfl) (fun _ _ _ h => h) (.inl ⟨by kernel_rfl, fun w' _ => (exec_eql25 (.tmp 92) (.tmp 95) rfl (p := cf y) (q := cf x) (byt_cf hsy) (byt_cf hx) (by kernel_rfl) (by kernel_rfl)).trans (by rw [hm])⟩) (by assumption) ?_
          simp only [Act.put, List.setIfInBounds_toArray, List.set_cons_zero, List.set_cons_succ]
          refine any_take 30 (some 97) (.bool (decide (x ∈ ids))) rfl rfl (by kernel_rfl) (by kernel_rfl) (by kernel_rfl) (fun _ _ _ h => h) (.inl ⟨by kernel_rfl, fun _ _ => by kernel_rfl⟩) (by assumption) ?_
          simp only [Act.put, List.setIfInBounds_toArray, List.set_cons_zero, List.set_cons_succ]
          refine any_take 31 (some 5) (.bool (decide (x ∈ ids))) rfl rfl (by kernel_rfl) (by kernel_rfl) (by kernel_rfl) (fun _ _ _ h => h) (.inl ⟨by kernel_rfl, fun _ _ => by kernel_rfl⟩) (by assumption) ?_
          simp only [Act.put, List.setIfInBounds_toArray, List.set_cons_zero, List.set_cons_succ]
          refine wpAnyH_done (by kernel_rfl) ?_ _
          clear hS t6 r6
          go_wp2_with (refine wpList_is (.load 41 (.tmp 7)) rfl ?_; refine wpList_load_blk rfl 41 (.tmp 7) rfl db rfl (uN (D s x)) 41 x6 _ Ybaf.underlying41 rfl (size41n _) ?_)
          refine (zero_un (D_bd s x) _).mono ?_
          rintro e u9 ⟨rfl, q9⟩
          have hz : decide (D s x = 0) = decide (x = s) := decide_eq_decide.2 (D_zero gs hx)
          rw [hz]
          go_wp2_with fail
          refine bodyPost_ret (by kernel_rfl) rfl ⟨rfl, grown_trans g6 q9⟩
        · have hm : decide (x ∈ ids) = false := by
            apply decide_eq_false
            rw [A.out.2.1, hy]
            intro e
            rw [Option.some.inj e] at heq
            exact heq rfl
          refine any_take 16 (some 83) (.bool false) rfl rfl (by kernel_rfl) (by kernel_rfl) (by kernel_rfl) (fun _ _ _ h => h) (.inl ⟨by kernel_rfl, fun w' _ => (exec_eql32 (.tmp 81) (.tmp 82) rfl (topN (D s y)) (topN (D s x)) (by kernel_rfl) (by kernel_rfl)).trans (by simp [heq])⟩) (by assumption) ?_
          simp only [Act.put, List.setIfInBounds_toArray, List.set_cons_zero, List.set_cons_succ]
          refine any_take 17 (some 84) (.bool false) rfl rfl (by kernel_rfl) (by kernel_rfl) (by kernel_rfl) (fun _ _ _ h => h) (.inl ⟨by kernel_rfl, fun _ _ => by kernel_rfl⟩) (by assumption) ?_
          simp only [Act.put, List.setIfInBounds_toArray, List.set_cons_zero, List.set_cons_succ]
          refine any_take 18 (some 85) (.bool false) rfl rfl (by kernel_rfl) (by kernel_rfl) (by kernel_rfl) (fun _ _ _ h => h) (.inl ⟨by kernel_rfl, fun _ _ => by kernel_rfl⟩) (by assumption) ?_
          simp only [Act.put, List.setIfInBounds_toArray, List.set_cons_zero, List.set_cons_succ]
          refine any_take 19 (some 86) undef rfl rfl (by kernel_rfl) (by kernel_rfl) (by kernel_rfl) (fun _ _ _ h => h) (.inr ⟨by kernel_rfl, rfl⟩) (by assumption) ?_
          simp only [Act.put, List.setIfInBounds_toArray, List.set_cons_zero, List.set_cons_succ]
          refine any_take 20 (some 87) undef rfl rfl (by kernel_rfl) (by kernel_rfl) (by kernel_rfl) (fun _ _ _ h => h) (.inr ⟨by kernel_rfl, rfl⟩) (by assumption) ?_
          simp only [Act.put, List.setIfInBounds_toArray, List.set_cons_zero, List.set_cons_succ]
          refine any_take 21 (some 88) undef rfl rfl (by kernel_rfl) (by kernel_rfl) (by kernel_rfl) (fun _ _ _ h => h) (.inr ⟨by kernel_rfl, rfl⟩) (by assumption) ?_
          simp only [Act.put, List.setIfInBounds_toArray, List.set_cons_zero, List.set_cons_succ]
          refine any_take 22 (some 89) undef rfl rfl (by kernel_rfl) (by kernel_rfl) (by kernel_rfl) (fun _ _ _ h => h) (.inr ⟨by kernel_rfl, rfl⟩) (by assumption) ?_
          simp only [Act.put, List.setIfInBounds_toArray, List.set_cons_zero, List.set_cons_succ]
          refine any_take 23 (some 90) undef rfl rfl (by kernel_rfl) (by kernel_rfl) (by kernel_rfl) (fun _ _ _ h => h) (.inr ⟨by kernel_rfl, rfl⟩) (by assumption) ?_
          simp only [Act.put, List.setIfInBounds_toArray, List.set_cons_zero, List.set_cons_succ]
          refine any_take 24 (some 91) undef rfl rfl (by kernel_rfl) (by kernel_rfl) (by kernel_rfl) (fun _ _ _ h => h) (.inr ⟨by kernel_rfl, rfl⟩) (by assumption) ?_
          simp only [Act.put, List.setIfInBounds_toArray, List.set_cons_zero, List.set_cons_succ]
          refine any_take 25 (some 92) undef rfl rfl (by kernel_rfl) (by kernel_rfl) (by kernel_rfl) (fun _ _ _ h => h) (.inr ⟨by kernel_rfl, rfl⟩) (by assumption) ?_
          simp only [Act.put, List.setIfInBounds_toArray, List.set_cons_zero, List.set_cons_succ]
          refine any_take 26 (some 93) undef rfl rfl (by kernel_rfl) (by kernel_rfl) (by kernel_rfl) (fun _ _ _ h => h) (.inr ⟨by kernel_rfl, rfl⟩) (by assumption) ?_
          simp only [Act.put, List.setIfInBounds_toArray, List.set_cons_zero, List.set_cons_succ]
          refine any_take 27 (some 94) undef rfl rfl (by kernel_rfl) (by kernel_rfl) (by kernel_rfl) (fun _ _ _ h => h) (.inr ⟨by kernel_rfl, rfl⟩) (by assumption) ?_
          simp only [Act.put, List.setIfInBounds_toArray, List.set_cons_zero, List.set_cons_succ]
          refine any_take 28 (some 95) undef rfl rfl (by kernel_rfl) (by kernel_rfl) (by kernel_rfl) (fun _ _ _ h => h) (.inr ⟨by kernel_rfl, rfl⟩) (by assumption) ?_
          simp only [Act.put, List.setIfInBounds_toArray, List.set_cons_zero, List.set_cons_succ]
          refine any_take 29 (some 96) undef rfl rfl (by kernel_rfl) (by kernel_rfl) (by kernel_rfl) (fun _ _ _ h => h) (.inr ⟨by kernel_rfl, rfl⟩) (by assumption) ?_
          simp only [Act.put, List.setIfInBounds_toArray, List.set_cons_zero, List.set_cons_succ]
          refine any_take 30 (some 97) (.bool false) rfl rfl (by kernel_rfl) (by kernel_rfl) (by kernel_rfl) (fun _ _ _ h => h) (.inl ⟨by kernel_rfl, fun _ _ => by kernel_rfl⟩) (by assumption) ?_
          simp only [Act.put, List.setIfInBounds_toArray, List.set_cons_zero, List.set_cons_succ]
          refine any_take 31 (some 5) (.bool false) rfl rfl (by kernel_rfl) (by kernel_rfl) (by kernel_rfl) (fun _ _ _ h => h) (.inl ⟨by kernel_rfl, fun _ _ => by kernel_rfl⟩) (by assumption) ?_
          simp only [Act.put, List.setIfInBounds_toArray, List.set_cons_zero, List.set_cons_succ]
          refine wpAnyH_done (by kernel_rfl) ?_ _
          clear hS t6 r6
          go_wp2_with (refine wpList_is (.load 41 (.tmp 7)) rfl ?_; refine wpList_load_blk rfl 41 (.tmp 7) rfl db rfl (uN (D s x)) 41 x6 _ Ybaf.underlying41 rfl (size41n _) ?_)
          refine (zero_un (D_bd s x) _).mono ?_
          rintro e u9 ⟨rfl, q9⟩
          have hz : decide (D s x = 0) = decide (x = s) := decide_eq_decide.2 (D_zero gs hx)
          rw [hz]
          go_wp2_with fail
          refine bodyPost_ret (by kernel_rfl) rfl ⟨by rw [hm], grown_trans g6 q9⟩
      · have hln' : ¬ (lo : Int) < (n : Int) := by omega
        have hm : decide (x ∈ ids) = false := by
          apply decide_eq_false
          rw [A.out.2.1, List.getElem?_eq_none (by have := A.out; omega)]
          simp
        refine any_take 6 (some 73) (.bool false) rfl rfl (by kernel_rfl) (by kernel_rfl) (by kernel_rfl) (fun _ _ _ h => h) (.inl ⟨by kernel_rfl, fun w' _ => (exec_lss3 (.tmp 67) (.tmp 72) rfl (lo : Int) (n : Int) (by kernel_rfl) (by kernel_rfl)).trans (by simp [hln'])⟩) (by assumption) ?_
        simp only [Act.put, List.setIfInBounds_toArray, List.set_cons_zero, List.set_cons_succ]
        refine any_take 7 (some 74) (.bool false) rfl rfl (by kernel_rfl) (by kernel_rfl) (by kernel_rfl) (fun _ _ _ h => h) (.inl ⟨by kernel_rfl, fun _ _ => by kernel_rfl⟩) (by assumption) ?_
        simp only [Act.put, List.setIfInBounds_toArray, List.set_cons_zero, List.set_cons_succ]
        refine any_take 8 (some 75) undef rfl rfl (by kernel_rfl) (by kernel_rfl) (by kernel_rfl) (fun _ _ _ h => h) (.inr ⟨by kernel_rfl, rfl⟩) (by assumption) ?_
        simp only [Act.put, List.setIfInBounds_toArray, List.set_cons_zero, List.set_cons_succ]
        refine any_take 9 (some 76) undef rfl rfl (by kernel_rfl) (by kernel_rfl) (by kernel_rfl) (fun _ _ _ h => h) (.inr ⟨by kernel_rfl, rfl⟩) (by assumption) ?_
        simp only [Act.put, List.setIfInBounds_toArray, List.set_cons_zero, List.set_cons_succ]
        refine any_take 10 (some 77) undef rfl rfl (by kernel_rfl) (by kernel_rfl) (by kernel_rfl) (fun _ _ _ h => h) (.inr ⟨by kernel_rfl, rfl⟩) (by assumption) ?_
        simp only [Act.put, List.setIfInBounds_toArray, List.set_cons_zero, List.set_cons_succ]
        refine any_take 11 (some 78) undef rfl rfl (by kernel_rfl) (by kernel_rfl) (by kernel_rfl) (fun _ _ _ h => h) (.inr ⟨by kernel_rfl, rfl⟩) (by assumption) ?_
        simp only [Act.put, List.setIfInBounds_toArray, List.set_cons_zero, List.set_cons_succ]
        refine any_take 12 (some 79) undef rfl rfl (by kernel_rfl) (by kernel_rfl) (by kernel_rfl) (fun _ _ _ h => h) (.inr ⟨by kernel_rfl, rfl⟩) (by assumption) ?_
        simp only [Act.put, List.setIfInBounds_toArray, List.set_cons_zero, List.set_cons_succ]
        refine any_take 13 (some 80) undef rfl rfl (by kernel_rfl) (by kernel_rfl) (by kernel_rfl) (fun _ _ _ h => h) (.inr ⟨by kernel_rfl, rfl⟩) (by assumption) ?_
        simp only [Act.put, List.setIfInBounds_toArray, List.set_cons_zero, List.set_cons_succ]
        refine any_take 14 (some 81) undef rfl rfl (by kernel_rfl) (by kernel_rfl) (by kernel_rfl) (fun _ _ _ h => h) (.inr ⟨by kernel_rfl, rfl⟩) (by assumption) ?_
        simp only [Act.put, List.setIfInBounds_toArray, List.set_cons_zero, List.set_cons_succ]
        refine any_take 15 (some 82) undef rfl rfl (by kernel_rfl) (by kernel_rfl) (by kernel_rfl) (fun _ _ _ h => h) (.inr ⟨by kernel_rfl, rfl⟩) (by assumption) ?_
        simp only [Act.put, List.setIfInBounds_toArray, List.set_cons_zero, List.set_cons_succ]
        refine any_take 16 (some 83) undef rfl rfl (by kernel_rfl) (by kernel_rfl) (by kernel_rfl) (fun _ _ _ h => h) (.inr ⟨by kernel_rfl, rfl⟩) (by assumption) ?_
        simp only [Act.put, List.setIfInBounds_toArray, List.set_cons_zero, List.set_cons_succ]
        refine any_take 17 (some 84) (.bool false) rfl rfl (by kernel_rfl) (by kernel_rfl) (by kernel_rfl) (fun _ _ _ h => h) (.inl ⟨by kernel_rfl, fun _ _ => by kernel_rfl⟩) (by assumption) ?_
        simp only [Act.put, List.setIfInBounds_toArray, List.set_cons_zero, List.set_cons_succ]
        refine any_take 18 (some 85) (.bool false) rfl rfl (by kernel_rfl) (by kernel_rfl) (by kernel_rfl) (fun _ _ _ h => h) (.inl ⟨by kernel_rfl, fun _ _ => by kernel_rfl⟩) (by assumption) ?_
        simp only [Act.put, List.setIfInBounds_toArray, List.set_cons_zero, List.set_cons_succ]
        refine any_take 19 (some 86) undef rfl rfl (by kernel_rfl) (by kernel_rfl) (by kernel_rfl) (fun _ _ _ h => h) (.inr ⟨by kernel_rfl, rfl⟩) (by assumption) ?_
        simp only [Act.put, List.setIfInBounds_toArray, List.set_cons_zero, List.set_cons_succ]
        refine any_take 20 (some 87) undef rfl rfl (by kernel_rfl) (by kernel_rfl) (by kernel_rfl) (fun _ _ _ h => h) (.inr ⟨by kernel_rfl, rfl⟩) (by assumption) ?_
        simp only [Act.put, List.setIfInBounds_toArray, List.set_cons_zero, List.set_cons_succ]
        refine any_take 21 (some 88) undef rfl rfl (by kernel_rfl) (by kernel_rfl) (by kernel_rfl) (fun _ _ _ h => h) (.inr ⟨by kernel_rfl, rfl⟩) (by assumption) ?_
        simp only [Act.put, List.setIfInBounds_toArray, List.set_cons_zero, List.set_cons_succ]
        refine any_take 22 (some 89) undef rfl rfl (by kernel_rfl) (by kernel_rfl) (by kernel_rfl) (fun _ _ _ h => h) (.inr ⟨by kernel_rfl, rfl⟩) (by assumption) ?_
        simp only [Act.put, List.setIfInBounds_toArray, List.set_cons_zero, List.set_cons_succ]
        refine any_take 23 (some 90) undef rfl rfl (by kernel_rfl) (by kernel_rfl) (by kernel_rfl) (fun _ _ _ h => h) (.inr ⟨by kernel_rfl, rfl⟩) (by assumption) ?_
        simp only [Act.put, List.setIfInBounds_toArray, List.set_cons_zero, List.set_cons_succ]
        refine any_take 24 (some 91) undef rfl rfl (by kernel_rfl) (by kernel_rfl) (by kernel_rfl) (fun _ _ _ h => h) (.inr ⟨by kernel_rfl, rfl⟩) (by assumption) ?_
        simp only [Act.put, List.setIfInBounds_toArray, List.set_cons_zero, List.set_cons_succ]
        refine any_take 25 (some 92) undef rfl rfl (by kernel_rfl) (by kernel_rfl) (by kernel_rfl) (fun _ _ _ h => h) (.inr ⟨by kernel_rfl, rfl⟩) (by assumption) ?_
        simp only [Act.put, List.setIfInBounds_toArray, List.set_cons_zero, List.set_cons_succ]
        refine any_take 26 (some 93) undef rfl rfl (by kernel_rfl) (by kernel_rfl) (by kernel_rfl) (fun _ _ _ h => h) (.inr ⟨by kernel_rfl, rfl⟩) (by assumption) ?_
        simp only [Act.put, List.setIfInBounds_toArray, List.set_cons_zero, List.set_cons_succ]
        refine any_take 27 (some 94) undef rfl rfl (by kernel_rfl) (by kernel_rfl) (by kernel_rfl) (fun _ _ _ h => h) (.inr ⟨by kernel_rfl, rfl⟩) (by assumption) ?_
        simp only [Act.put, List.setIfInBounds_toArray, List.set_cons_zero, List.set_cons_succ]
        refine any_take 28 (some 95) undef rfl rfl (by kernel_rfl) (by kernel_rfl) (by kernel_rfl) (fun _ _ _ h => h) (.inr ⟨by kernel_rfl, rfl⟩) (by assumption) ?_
        simp only [Act.put, List.setIfInBounds_toArray, List.set_cons_zero, List.set_cons_succ]
        refine any_take 29 (some 96) undef rfl rfl (by kernel_rfl) (by kernel_rfl) (by kernel_rfl) (fun _ _ _ h => h) (.inr ⟨by kernel_rfl, rfl⟩) (by assumption) ?_
        simp only [Act.put, List.setIfInBounds_toArray, List.set_cons_zero, List.set_cons_succ]
        refine any_take 30 (some 97) (.bool false) rfl rfl (by kernel_rfl) (by kernel_rfl) (by kernel_rfl) (fun _ _ _ h => h) (.inl ⟨by kernel_rfl, fun _ _ => by kernel_rfl⟩) (by assumption) ?_
        simp only [Act.put, List.setIfInBounds_toArray, List.set_cons_zero, List.set_cons_succ]
        refine any_take 31 (some 5) (.bool false) rfl rfl (by kernel_rfl) (by kernel_rfl) (by kernel_rfl) (fun _ _ _ h => h) (.inl ⟨by kernel_rfl, fun _ _ => by kernel_rfl⟩) (by assumption) ?_
        simp only [Act.put, List.setIfInBounds_toArray, List.set_cons_zero, List.set_cons_succ]
        refine wpAnyH_done (by kernel_rfl) ?_ _
        clear hS t6 r6
        go_wp2_with (refine wpList_is (.load 41 (.tmp 7)) rfl ?_; refine wpList_load_blk rfl 41 (.tmp 7) rfl db rfl (uN (D s x)) 41 x6 _ Ybaf.underlying41 rfl (size41n _) ?_)
        refine (zero_un (D_bd s x) _).mono ?_
        rintro e u9 ⟨rfl, q9⟩
        have hz : decide (D s x = 0) = decide (x = s) := decide_eq_decide.2 (D_zero gs hx)
        rw [hz]
        go_wp2_with fail
        refine bodyPost_ret (by kernel_rfl) rfl ⟨by rw [hm], grown_trans g6 q9⟩
end Go.Proofs.YbulkdspqFmt
