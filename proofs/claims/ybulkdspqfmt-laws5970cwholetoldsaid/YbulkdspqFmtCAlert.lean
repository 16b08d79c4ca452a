/-
  LawS5970CWhole: AlertGoesOn (10).
-/
import Derived.Test.YbulkdspqFmtCNear
namespace Go.Proofs.YbulkdspqFmt
open Go.RowKit
set_option linter.unusedSimpArgs false
set_option linter.unusedVariables false

theorem exec_mul3 {a : Act} {o : Oper} {w : World} (x y : Operand) (ho : o.op = .binOp .mul 3 x y 3) (p q : Int) (h1 : -9223372036854775808 ≤ p * q) (h2 : p * q < 9223372036854775808) (hx : a.eval x = .int .i64 p) (hy : a.eval y = .int .i64 q) : (execOp a.eval o).run Ybaf.prog w = .ok (.value (.int .i64 (p * q))) w := by
  unfold execOp
  simp only [ho, hx, hy]
  simp [binOp, eqGuard, Result.andThen, go_sem, Ybaf.underlying3, IntKind.wrap, IntKind.signed, IntKind.bits]
  omega
/-- How many members lie nearer counter-clockwise. -/
def ncc (s : Int) (ids : List Int) (x : Int) : Int := (ids.length : Int) - (rk s ids x : Int) - (if x ∈ ids then 1 else 0)
def onCw (k n h : Int) : Bool := decide (k < h) || decide (n < h - 1)
def onCc (k n h : Int) : Bool := decide (n < h) || decide (k < h - 1)
/-- AlertGoesOn's answers. -/
def alert (s h : Int) (ids refs : List Int) (x al : Int) : Bool × Bool :=
  if nearOk ids refs = false then (false, false)
  else if (ids.length : Int) < 2 * h then (!decide (nearC s ids refs = al), false)
  else if x = s then (true, true)
  else (onCw (rk s ids x) (ncc s ids x) h, onCc (rk s ids x) (ncc s ids x) h)
theorem fold_sm {s : Int} {ids : List Int} : ∀ (l : List Int) (st : Bool × Int), (∀ x ∈ l, Sm x) → Sm st.2 → Sm (l.foldl (nx s ids) st).2
  | [], st, _, h => h
  | y :: l, st, hl, h => by
    rw [List.foldl_cons]
    refine fold_sm l _ (fun x hx => hl x (List.mem_cons_of_mem _ hx)) ?_
    unfold nx
    split
    · exact hl y (List.mem_cons_self ..)
    · exact h
theorem near_sm {s : Int} {ids refs : List Int} (gd : Good s ids refs) : Sm (nearC s ids refs) := by
  unfold nearC
  split
  · cases ids with
    | nil => exact sm0
    | cons a b => exact (gd.mi a (List.mem_cons_self ..)).1
  · refine fold_sm _ _ (fun x hx => ?_) sm0
    rcases List.mem_append.1 hx with h | h
    · exact (gd.mi x h).1
    · exact gd.mr x h

set_option maxRecDepth 100000 in
set_option maxHeartbeats 8000000 in
theorem alert10 {w : World} {p : Nat} {s h x al : Int} {vi vt vr : Value} {ids refs : List Int} (gd : Good s ids refs) (hx : Sm x) (hal : Sm al) (hh : 1 ≤ h) (hh4 : h ≤ 4) (t : TS w p s h vi vt vr ids refs) :
    Calls Ybaf.prog 10 #[.pointer (some ⟨p, 0, none⟩), .agg (ic x).toArray, .agg (ic al).toArray] w fun e w' => e = .returned (.tuple #[.bool (alert s h ids refs x al).1, .bool (alert s h ids refs x al).2]) ∧ w.grownBy w' none := by
  obtain ⟨ai, ci, evi, fi⟩ := own_form t.oi
  subst evi
  have hli := gd.li
  have hs0 := gd.sm
  have hcs := near_sm gd
  obtain ⟨c, ec⟩ : ∃ c, c = nearC s ids refs := ⟨_, rfl⟩
  obtain ⟨A, eA⟩ : ∃ A, A = alert s h ids refs x al := ⟨_, rfl⟩
  rw [← ec] at hcs
  rw [← eA]
  have EA : Aside (A = alert s h ids refs x al) := eA
  have EC : Aside (c = nearC s ids refs) := ec
  clear eA
  go_enter Ybaf.func10, Ybaf.ntmps10
  go_upto_region 1 with (first
    | (refine wpList_is (.box 25 (.tmp 1)) rfl ?_; refine wpList_box25 rfl (.tmp 1) rfl (cf x) rfl ?_)
    | (refine wpList_is (.box 25 (.tmp 2)) rfl ?_; refine wpList_box25 rfl (.tmp 2) rfl (cf al) rfl ?_))
  obtain ⟨u, hu⟩ : ∃ u, u = (w.alloc (.cells (ic x).toArray 25)).alloc (.cells (ic al).toArray 25) := ⟨_, rfl⟩
  have x4 : u.heap[w.heap.size]? = some (.cells (ic x).toArray 25 (0, 0)) := by rw [hu]; exact blk_alloc (heap_alloc_new w _) _
  have x5 : u.heap[w.heap.size + 1]? = some (.cells (ic al).toArray 25 (0, 0)) := by rw [hu]; exact blk_new _ _ _ _ (by simp)
  have g0 : w.grownBy u none := by rw [hu]; exact grown_trans (World.grownBy_alloc _ _ none) (World.grownBy_alloc _ _ none)
  have sz1 : (w.alloc (.cells (ic x).toArray 25)).heap.size = w.heap.size + 1 := by simp
  rw [← hu]
  try simp only [sz1]
  clear hu sz1
  go_wp2_with fail
  refine (near17 gd (t.kept g0)).mono ?_
  rintro e u1 ⟨cc, hcc, rfl, q1⟩
  rw [← ec]
  clear ec
  go_upto_region 2 with (first
    | (refine wpList_is (.alloc 25) rfl ?_; refine wpList_alloc25 rfl rfl ?_)
    | (refine wpList_is (.store 25 (.tmp 8) (.tmp 20)) rfl ?_; refine wpList_store_blk rfl 25 (.tmp 8) (.tmp 20) rfl u1.heap.size (ic c) rfl rfl _ _ (blk_alloc (heap_alloc_new u1 _) _) rfl (size25 _) (ic_one _) ?_; intro u2 x8 q2)
    | (refine wpList_is (.store 25 (.tmp 9) (.tmp 21)) rfl ?_; refine wpList_store_blk rfl 25 (.tmp 9) (.tmp 21) rfl (u1.alloc (.cells (ab fun _ => 0).toArray 25)).heap.size (ic cc) rfl rfl _ _ (keep_blk q2 (heap_alloc_new _ _) (by simp)) rfl (size25 _) (ic_one _) ?_; intro u3 x9 q3))
  have k3 : u1.grownBy u3 none := by
    have a1 := World.grownBy_alloc u1 (.cells (ab fun _ => 0).toArray 25) none
    have a2 := World.grownBy_alloc (u1.alloc (.cells (ab fun _ => 0).toArray 25)) (.cells (ab fun _ => 0).toArray 25) none
    have a := grown_trans a1 a2
    have s1 := a.size
    have s2 := a1.size
    have s3 := q2.size
    exact ⟨q3.os.trans (q2.os.trans a.os), q3.tape.trans (q2.tape.trans a.tape), q3.output.trans (q2.output.trans a.output), by have := q3.size; omega, fun q hq _ => (q3.block q (by omega) (by simp; omega)).trans ((q2.block q (by omega) (by simp; omega)).trans (a.block q hq (by simp)))⟩
  have x8' := keep_blk q3 x8 (by simp)
  have gu3 : w.grownBy u3 none := grown_trans g0 (grown_trans q1 k3)
  have x4' := keep_blk (grown_trans q1 k3) x4 (by simp)
  have x5' := keep_blk (grown_trans q1 k3) x5 (by simp)
  clear x8 x9 q2 q3 q1 k3 x4 x5 g0
  obtain ⟨cb, ecb⟩ : ∃ b, b = u1.heap.size := ⟨_, rfl⟩
  rw [← ecb] at x8' ⊢
  clear ecb
  cases hok : nearOk ids refs with
  | false =>
    have e1 : A = (false, false) := by rw [EA.out]; simp [alert, hok]
    clear hok
    go_wp2_with fail
    refine bodyPost_ret (by kernel_rfl) rfl ⟨by rw [e1], gu3⟩
  | true =>
    have OK : Aside (nearOk ids refs = true) := hok
    clear hok
    go_upto_region 4 with fail
    refine wp_region_held (S := Gr { u3 with drawn := u3.drawn + 1 }) (by kernel_rfl) ?_
    have gu4 : w.grownBy { u3 with drawn := u3.drawn + 1 } none := grown_trans gu3 (grown_drew u3)
    have y4 := keep_blk (grown_drew u3) x4' (by simp)
    have y5 := keep_blk (grown_drew u3) x5' (by simp)
    have y8 := keep_blk (grown_drew u3) x8' (by simp)
    generalize ({ u3 with drawn := u3.drawn + 1 } : World) = u4 at *
    have hS := Gr.refl u4
    have t4 := t.kept gu4
    clear gu3 x4' x5' x8'
    by_cases hlt : (ids.length : Int) < 2 * h
    · refine any_take 0 (some 27) (.pointer (some ⟨p, 0, none⟩)) rfl rfl (by kernel_rfl) (by kernel_rfl) (by kernel_rfl) (fun _ _ _ h => h) (.inl ⟨by kernel_rfl, fun _ _ => by kernel_rfl⟩) (by assumption) ?_
      simp only [Act.put, List.setIfInBounds_toArray, List.set_cons_zero, List.set_cons_succ]
      refine any_take 1 (some 28) (.pointer (some ⟨p, 0, none⟩)) rfl rfl (by kernel_rfl) (by kernel_rfl) (by kernel_rfl) (fun _ _ _ h => h) (.inl ⟨by kernel_rfl, fun _ _ => by kernel_rfl⟩) (by assumption) ?_
      simp only [Act.put, List.setIfInBounds_toArray, List.set_cons_zero, List.set_cons_succ]
      refine any_take 2 (some 29) (.pointer (some ⟨p, 24, none⟩)) rfl rfl (by kernel_rfl) (by kernel_rfl) (by kernel_rfl) (fun _ _ _ h => h) (.inl ⟨by kernel_rfl, fun _ _ => by kernel_rfl⟩) (by assumption) ?_
      simp only [Act.put, List.setIfInBounds_toArray, List.set_cons_zero, List.set_cons_succ]
      refine any_take 3 (some 30) (.slice ai ids.length ci) rfl rfl (by kernel_rfl) (by kernel_rfl) (by kernel_rfl) (fun _ _ _ h => h) (yld_cell (by kernel_rfl) 27 (.tmp 29) rfl p 24 (by kernel_rfl) _ _ (fun _ h => keep_blk h t4.blk (by simp)) _ Ybaf.underlying27 rfl _ rfl) (by assumption) ?_
      simp only [Act.put, List.setIfInBounds_toArray, List.set_cons_zero, List.set_cons_succ]
      refine any_take 4 (some 31) (.int .i64 ids.length) rfl rfl (by kernel_rfl) (by kernel_rfl) (by kernel_rfl) (fun _ _ _ h => h) (.inl ⟨by kernel_rfl, fun _ _ => by kernel_rfl⟩) (by assumption) ?_
      simp only [Act.put, List.setIfInBounds_toArray, List.set_cons_zero, List.set_cons_succ]
      refine any_take 5 (some 32) (.pointer (some ⟨p, 0, none⟩)) rfl rfl (by kernel_rfl) (by kernel_rfl) (by kernel_rfl) (fun _ _ _ h => h) (.inl ⟨by kernel_rfl, fun _ _ => by kernel_rfl⟩) (by assumption) ?_
      simp only [Act.put, List.setIfInBounds_toArray, List.set_cons_zero, List.set_cons_succ]
      refine any_take 6 (some 33) (.pointer (some ⟨p, 0, none⟩)) rfl rfl (by kernel_rfl) (by kernel_rfl) (by kernel_rfl) (fun _ _ _ h => h) (.inl ⟨by kernel_rfl, fun _ _ => by kernel_rfl⟩) (by assumption) ?_
      simp only [Act.put, List.setIfInBounds_toArray, List.set_cons_zero, List.set_cons_succ]
      refine any_take 7 (some 34) (.pointer (some ⟨p, 23, none⟩)) rfl rfl (by kernel_rfl) (by kernel_rfl) (by kernel_rfl) (fun _ _ _ h => h) (.inl ⟨by kernel_rfl, fun _ _ => by kernel_rfl⟩) (by assumption) ?_
      simp only [Act.put, List.setIfInBounds_toArray, List.set_cons_zero, List.set_cons_succ]
      refine any_take 8 (some 35) (.int .i64 h) rfl rfl (by kernel_rfl) (by kernel_rfl) (by kernel_rfl) (fun _ _ _ h => h) (yld_cell (by kernel_rfl) 3 (.tmp 34) rfl p 23 (by kernel_rfl) _ _ (fun _ h => keep_blk h t4.blk (by simp)) _ Ybaf.underlying3 rfl _ rfl) (by assumption) ?_
      simp only [Act.put, List.setIfInBounds_toArray, List.set_cons_zero, List.set_cons_succ]
      refine any_take 9 (some 36) (.int .i64 (2 * h)) rfl rfl (by kernel_rfl) (by kernel_rfl) (by kernel_rfl) (fun _ _ _ h => h) (.inl ⟨by kernel_rfl, fun w' _ => exec_mul3 (.const (.int .i64 2)) (.tmp 35) rfl 2 h (by omega) (by omega) (by kernel_rfl) (by kernel_rfl)⟩) (by assumption) ?_
      simp only [Act.put, List.setIfInBounds_toArray, List.set_cons_zero, List.set_cons_succ]
      refine any_take 10 (some 37) (.bool true) rfl rfl (by kernel_rfl) (by kernel_rfl) (by kernel_rfl) (fun _ _ _ h => h) (.inl ⟨by kernel_rfl, fun w' _ => (exec_lss3 (.tmp 31) (.tmp 36) rfl (ids.length : Int) (2 * h) (by kernel_rfl) (by kernel_rfl)).trans (by simp [hlt])⟩) (by assumption) ?_
      simp only [Act.put, List.setIfInBounds_toArray, List.set_cons_zero, List.set_cons_succ]
      refine any_take 11 (some 26) (.bool true) rfl rfl (by kernel_rfl) (by kernel_rfl) (by kernel_rfl) (fun _ _ _ h => h) (.inl ⟨by kernel_rfl, fun _ _ => by kernel_rfl⟩) (by assumption) ?_
      simp only [Act.put, List.setIfInBounds_toArray, List.set_cons_zero, List.set_cons_succ]
      refine wpAnyH_done (by kernel_rfl) ?_ _
      have e1 : A = (!decide (nm (cf c) = nm (cf al)), false) := by
        rw [EA.out]
        unfold alert
        rw [if_neg (by rw [OK.out]; simp), if_pos hlt, ← EC.out, decide_eq_decide.2 (nm_cf hcs hal)]
      clear hS
      go_wp2_with (first
        | (refine wpList_is (.load 25 (.tmp 8)) rfl ?_; refine wpList_load_blk rfl 25 (.tmp 8) rfl cb rfl (ic c) 25 y8 _ Ybaf.underlying25 rfl (size25 _) ?_)
        | (refine wpList_is (.load 25 (.tmp 5)) rfl ?_; refine wpList_load_blk rfl 25 (.tmp 5) rfl (w.heap.size + 1) rfl (ic al) 25 y5 _ Ybaf.underlying25 rfl (size25 _) ?_)
        | (refine wpList_is (.binOp .neq 25 (.tmp 38) (.tmp 39) 25) rfl ?_; refine wpList_exec rfl _ (exec_neq25 (.tmp 38) (.tmp 39) rfl (byt_cf hcs) (byt_cf hal) rfl rfl) ?_))
      refine bodyPost_ret (v := .tuple #[.bool (!decide (nm (cf c) = nm (cf al))), .bool false]) (by kernel_rfl) rfl ⟨by rw [e1], gu4⟩
    · refine any_take 0 (some 27) (.pointer (some ⟨p, 0, none⟩)) rfl rfl (by kernel_rfl) (by kernel_rfl) (by kernel_rfl) (fun _ _ _ h => h) (.inl ⟨by kernel_rfl, fun _ _ => by kernel_rfl⟩) (by assumption) ?_
      simp only [Act.put, List.setIfInBounds_toArray, List.set_cons_zero, List.set_cons_succ]
      refine any_take 1 (some 28) (.pointer (some ⟨p, 0, none⟩)) rfl rfl (by kernel_rfl) (by kernel_rfl) (by kernel_rfl) (fun _ _ _ h => h) (.inl ⟨by kernel_rfl, fun _ _ => by kernel_rfl⟩) (by assumption) ?_
      simp only [Act.put, List.setIfInBounds_toArray, List.set_cons_zero, List.set_cons_succ]
      refine any_take 2 (some 29) (.pointer (some ⟨p, 24, none⟩)) rfl rfl (by kernel_rfl) (by kernel_rfl) (by kernel_rfl) (fun _ _ _ h => h) (.inl ⟨by kernel_rfl, fun _ _ => by kernel_rfl⟩) (by assumption) ?_
      simp only [Act.put, List.setIfInBounds_toArray, List.set_cons_zero, List.set_cons_succ]
      refine any_take 3 (some 30) (.slice ai ids.length ci) rfl rfl (by kernel_rfl) (by kernel_rfl) (by kernel_rfl) (fun _ _ _ h => h) (yld_cell (by kernel_rfl) 27 (.tmp 29) rfl p 24 (by kernel_rfl) _ _ (fun _ h => keep_blk h t4.blk (by simp)) _ Ybaf.underlying27 rfl _ rfl) (by assumption) ?_
      simp only [Act.put, List.setIfInBounds_toArray, List.set_cons_zero, List.set_cons_succ]
      refine any_take 4 (some 31) (.int .i64 ids.length) rfl rfl (by kernel_rfl) (by kernel_rfl) (by kernel_rfl) (fun _ _ _ h => h) (.inl ⟨by kernel_rfl, fun _ _ => by kernel_rfl⟩) (by assumption) ?_
      simp only [Act.put, List.setIfInBounds_toArray, List.set_cons_zero, List.set_cons_succ]
      refine any_take 5 (some 32) (.pointer (some ⟨p, 0, none⟩)) rfl rfl (by kernel_rfl) (by kernel_rfl) (by kernel_rfl) (fun _ _ _ h => h) (.inl ⟨by kernel_rfl, fun _ _ => by kernel_rfl⟩) (by assumption) ?_
      simp only [Act.put, List.setIfInBounds_toArray, List.set_cons_zero, List.set_cons_succ]
      refine any_take 6 (some 33) (.pointer (some ⟨p, 0, none⟩)) rfl rfl (by kernel_rfl) (by kernel_rfl) (by kernel_rfl) (fun _ _ _ h => h) (.inl ⟨by kernel_rfl, fun _ _ => by kernel_rfl⟩) (by assumption) ?_
      simp only [Act.put, List.setIfInBounds_toArray, List.set_cons_zero, List.set_cons_succ]
      refine any_take 7 (some 34) (.pointer (some ⟨p, 23, none⟩)) rfl rfl (by kernel_rfl) (by kernel_rfl) (by kernel_rfl) (fun _ _ _ h => h) (.inl ⟨by kernel_rfl, fun _ _ => by kernel_rfl⟩) (by assumption) ?_
      simp only [Act.put, List.setIfInBounds_toArray, List.set_cons_zero, List.set_cons_succ]
      refine any_take 8 (some 35) (.int .i64 h) rfl rfl (by kernel_rfl) (by kernel_rfl) (by kernel_rfl) (fun _ _ _ h => h) (yld_cell (by kernel_rfl) 3 (.tmp 34) rfl p 23 (by kernel_rfl) _ _ (fun _ h => keep_blk h t4.blk (by simp)) _ Ybaf.underlying3 rfl _ rfl) (by assumption) ?_
      simp only [Act.put, List.setIfInBounds_toArray, List.set_cons_zero, List.set_cons_succ]
      refine any_take 9 (some 36) (.int .i64 (2 * h)) rfl rfl (by kernel_rfl) (by kernel_rfl) (by kernel_rfl) (fun _ _ _ h => h) (.inl ⟨by kernel_rfl, fun w' _ => exec_mul3 (.const (.int .i64 2)) (.tmp 35) rfl 2 h (by omega) (by omega) (by kernel_rfl) (by kernel_rfl)⟩) (by assumption) ?_
      simp only [Act.put, List.setIfInBounds_toArray, List.set_cons_zero, List.set_cons_succ]
      refine any_take 10 (some 37) (.bool false) rfl rfl (by kernel_rfl) (by kernel_rfl) (by kernel_rfl) (fun _ _ _ h => h) (.inl ⟨by kernel_rfl, fun w' _ => (exec_lss3 (.tmp 31) (.tmp 36) rfl (ids.length : Int) (2 * h) (by kernel_rfl) (by kernel_rfl)).trans (by simp [hlt])⟩) (by assumption) ?_
      simp only [Act.put, List.setIfInBounds_toArray, List.set_cons_zero, List.set_cons_succ]
      refine any_take 11 (some 26) (.bool false) rfl rfl (by kernel_rfl) (by kernel_rfl) (by kernel_rfl) (fun _ _ _ h => h) (.inl ⟨by kernel_rfl, fun _ _ => by kernel_rfl⟩) (by assumption) ?_
      simp only [Act.put, List.setIfInBounds_toArray, List.set_cons_zero, List.set_cons_succ]
      refine wpAnyH_done (by kernel_rfl) ?_ _
      clear hS
      go_upto_region 6 with fail
      refine wp_region_held (S := Gr { u4 with drawn := u4.drawn + 1 }) (by kernel_rfl) ?_
      have gu5 : w.grownBy { u4 with drawn := u4.drawn + 1 } none := grown_trans gu4 (grown_drew u4)
      have z4 := keep_blk (grown_drew u4) y4 (by simp)
      generalize ({ u4 with drawn := u4.drawn + 1 } : World) = u5 at *
      have hS := Gr.refl u5
      have t5 := t.kept gu5
      clear t4 y4 y5 y8 gu4
      by_cases hxs : x = s
      · have e1 : A = (true, true) := by
          rw [EA.out]
          unfold alert
          rw [if_neg (by rw [OK.out]; simp), if_neg hlt, if_pos hxs]
        refine any_take 0 (some 42) (.agg (ic x).toArray) rfl rfl (by kernel_rfl) (by kernel_rfl) (by kernel_rfl) (fun _ _ _ h => h) (yld_blk (by kernel_rfl) 25 (.tmp 4) rfl w.heap.size (by kernel_rfl) (ic x) 25 (fun _ h => keep_blk h z4 (by simp)) _ Ybaf.underlying25 rfl (size25 _)) (by assumption) ?_
        simp only [Act.put, List.setIfInBounds_toArray, List.set_cons_zero, List.set_cons_succ]
        refine any_take 1 (some 43) (.pointer (some ⟨p, 0, none⟩)) rfl rfl (by kernel_rfl) (by kernel_rfl) (by kernel_rfl) (fun _ _ _ h => h) (.inl ⟨by kernel_rfl, fun _ _ => by kernel_rfl⟩) (by assumption) ?_
        simp only [Act.put, List.setIfInBounds_toArray, List.set_cons_zero, List.set_cons_succ]
        refine any_take 2 (some 44) (.pointer (some ⟨p, 0, none⟩)) rfl rfl (by kernel_rfl) (by kernel_rfl) (by kernel_rfl) (fun _ _ _ h => h) (.inl ⟨by kernel_rfl, fun _ _ => by kernel_rfl⟩) (by assumption) ?_
        simp only [Act.put, List.setIfInBounds_toArray, List.set_cons_zero, List.set_cons_succ]
        refine any_take 3 (some 45) (.pointer (some ⟨p, 0, none⟩)) rfl rfl (by kernel_rfl) (by kernel_rfl) (by kernel_rfl) (fun _ _ _ h => h) (.inl ⟨by kernel_rfl, fun _ _ => by kernel_rfl⟩) (by assumption) ?_
        simp only [Act.put, List.setIfInBounds_toArray, List.set_cons_zero, List.set_cons_succ]
        refine any_take 4 (some 46) (.agg (ic s).toArray) rfl rfl (by kernel_rfl) (by kernel_rfl) (by kernel_rfl) (fun _ _ _ h => h) (yieldsIf_load_mid (by kernel_rfl) 25 (.tmp 45) rfl p 0 (by kernel_rfl) (ic s) _ (fun _ h => tsc_self (t5.kept h).blk) Ybaf.underlying25 rfl (size25 _)) (by assumption) ?_
        simp only [Act.put, List.setIfInBounds_toArray, List.set_cons_zero, List.set_cons_succ]
        refine any_take 5 (some 47) (.bool true) rfl rfl (by kernel_rfl) (by kernel_rfl) (by kernel_rfl) (fun _ _ _ h => h) (.inl ⟨by kernel_rfl, fun w' _ => (exec_eql25 (.tmp 42) (.tmp 46) rfl (p := cf x) (q := cf s) (byt_cf hx) (byt_cf hs0) (by kernel_rfl) (by kernel_rfl)).trans (by simp [nm_cf hx hs0, hxs])⟩) (by assumption) ?_
        simp only [Act.put, List.setIfInBounds_toArray, List.set_cons_zero, List.set_cons_succ]
        refine any_take 6 (some 41) (.bool true) rfl rfl (by kernel_rfl) (by kernel_rfl) (by kernel_rfl) (fun _ _ _ h => h) (.inl ⟨by kernel_rfl, fun _ _ => by kernel_rfl⟩) (by assumption) ?_
        simp only [Act.put, List.setIfInBounds_toArray, List.set_cons_zero, List.set_cons_succ]
        refine wpAnyH_done (by kernel_rfl) ?_ _
        clear hS hxs
        have E1 : Aside (A = (true, true)) := e1
        clear e1
        go_wp2_with fail
        refine bodyPost_ret (v := .tuple #[.bool true, .bool true]) (by kernel_rfl) rfl ⟨by rw [E1.out], gu5⟩
      · have EA2 : Aside (A = (onCw (rk s ids x) (ncc s ids x) h, onCc (rk s ids x) (ncc s ids x) h)) := by
          unfold Aside
          rw [EA.out]
          unfold alert
          rw [if_neg (by rw [OK.out]; simp), if_neg hlt, if_neg hxs]
        refine any_take 0 (some 42) (.agg (ic x).toArray) rfl rfl (by kernel_rfl) (by kernel_rfl) (by kernel_rfl) (fun _ _ _ h => h) (yld_blk (by kernel_rfl) 25 (.tmp 4) rfl w.heap.size (by kernel_rfl) (ic x) 25 (fun _ h => keep_blk h z4 (by simp)) _ Ybaf.underlying25 rfl (size25 _)) (by assumption) ?_
        simp only [Act.put, List.setIfInBounds_toArray, List.set_cons_zero, List.set_cons_succ]
        refine any_take 1 (some 43) (.pointer (some ⟨p, 0, none⟩)) rfl rfl (by kernel_rfl) (by kernel_rfl) (by kernel_rfl) (fun _ _ _ h => h) (.inl ⟨by kernel_rfl, fun _ _ => by kernel_rfl⟩) (by assumption) ?_
        simp only [Act.put, List.setIfInBounds_toArray, List.set_cons_zero, List.set_cons_succ]
        refine any_take 2 (some 44) (.pointer (some ⟨p, 0, none⟩)) rfl rfl (by kernel_rfl) (by kernel_rfl) (by kernel_rfl) (fun _ _ _ h => h) (.inl ⟨by kernel_rfl, fun _ _ => by kernel_rfl⟩) (by assumption) ?_
        simp only [Act.put, List.setIfInBounds_toArray, List.set_cons_zero, List.set_cons_succ]
        refine any_take 3 (some 45) (.pointer (some ⟨p, 0, none⟩)) rfl rfl (by kernel_rfl) (by kernel_rfl) (by kernel_rfl) (fun _ _ _ h => h) (.inl ⟨by kernel_rfl, fun _ _ => by kernel_rfl⟩) (by assumption) ?_
        simp only [Act.put, List.setIfInBounds_toArray, List.set_cons_zero, List.set_cons_succ]
        refine any_take 4 (some 46) (.agg (ic s).toArray) rfl rfl (by kernel_rfl) (by kernel_rfl) (by kernel_rfl) (fun _ _ _ h => h) (yieldsIf_load_mid (by kernel_rfl) 25 (.tmp 45) rfl p 0 (by kernel_rfl) (ic s) _ (fun _ h => tsc_self (t5.kept h).blk) Ybaf.underlying25 rfl (size25 _)) (by assumption) ?_
        simp only [Act.put, List.setIfInBounds_toArray, List.set_cons_zero, List.set_cons_succ]
        refine any_take 5 (some 47) (.bool false) rfl rfl (by kernel_rfl) (by kernel_rfl) (by kernel_rfl) (fun _ _ _ h => h) (.inl ⟨by kernel_rfl, fun w' _ => (exec_eql25 (.tmp 42) (.tmp 46) rfl (p := cf x) (q := cf s) (byt_cf hx) (byt_cf hs0) (by kernel_rfl) (by kernel_rfl)).trans (by simp [nm_cf hx hs0, hxs])⟩) (by assumption) ?_
        simp only [Act.put, List.setIfInBounds_toArray, List.set_cons_zero, List.set_cons_succ]
        refine any_take 6 (some 41) (.bool false) rfl rfl (by kernel_rfl) (by kernel_rfl) (by kernel_rfl) (fun _ _ _ h => h) (.inl ⟨by kernel_rfl, fun _ _ => by kernel_rfl⟩) (by assumption) ?_
        simp only [Act.put, List.setIfInBounds_toArray, List.set_cons_zero, List.set_cons_succ]
        refine wpAnyH_done (by kernel_rfl) ?_ _
        have hrl := rk_le s ids x
        have hnc : ncc s ids x = (ids.length : Int) - (rk s ids x : Int) - (if x ∈ ids then 1 else 0) := rfl
        clear hS hxs hlt
        go_wp2_with fail
        refine (search18 gd hx t5 (range_of_blk z4)).mono ?_
        rintro e u6 ⟨rfl, q6⟩
        have gu6 : w.grownBy u6 none := grown_trans gu5 q6
        have t6 := t.kept gu6
        clear t5 z4 gu5 q6
        obtain ⟨r, er⟩ : ∃ r, r = rk s ids x := ⟨_, rfl⟩
        rw [← er] at EA2 hrl hnc ⊢
        obtain ⟨n, en⟩ : ∃ n, n = ncc s ids x := ⟨_, rfl⟩
        rw [← en] at EA2 hnc
        clear er en EA
        by_cases hm : x ∈ ids
        · have hd : decide (x ∈ ids) = true := by simp [hm]
          rw [if_pos hm] at hnc
          have hnb : (ids.length : Int) - (r : Int) - 1 = n := hnc.symm
          have b1 : -9223372036854775808 ≤ (ids.length : Int) - (r : Int) := by omega
          have b2 : (ids.length : Int) - (r : Int) < 9223372036854775808 := by omega
          have b3 : -9223372036854775808 ≤ (ids.length : Int) - (r : Int) - 1 := by omega
          have b4 : (ids.length : Int) - (r : Int) - 1 < 9223372036854775808 := by omega
          have HN : Aside ((ids.length : Int) - (r : Int) - 1 = n) := hnb
          rw [hd]
          clear hd hm hnc hnb
          go_upto_region 12 with (first
            | (refine wpList_is (.load 27 (.tmp 56)) rfl ?_; refine wpList_load_cell rfl 27 (.tmp 56) rfl p 24 rfl _ _ t6.blk _ Ybaf.underlying27 rfl _ rfl ?_)
            | (refine wpList_is (.binOp .sub 3 (.tmp 58) (.tmp 59) 3) rfl ?_; refine wpList_exec rfl _ (exec_sub3 (.tmp 58) (.tmp 59) rfl (ids.length : Int) (r : Int) b1 b2 rfl rfl) ?_)
            | (refine wpList_is (.binOp .sub 3 (.tmp 62) (.const (.int .i64 1)) 3) rfl ?_; refine wpList_exec rfl (.int .i64 n) (HN.out ▸ exec_sub3 (.tmp 62) (.const (.int .i64 1)) rfl ((ids.length : Int) - (r : Int)) 1 b3 b4 rfl rfl) ?_))
          clear b1 b2 b3 b4 HN
          go_upto_region 12 with fail
          refine wp_region_held (S := Gr { u6 with drawn := u6.drawn + 1 }) (by kernel_rfl) ?_
          have gu7 : w.grownBy { u6 with drawn := u6.drawn + 1 } none := grown_trans gu6 (grown_drew u6)
          generalize ({ u6 with drawn := u6.drawn + 1 } : World) = u7 at *
          have hS := Gr.refl u7
          have t7 := t.kept gu7
          clear t6
          by_cases hA : (r : Int) < h
          · by_cases hB : n < h
            · refine any_take 0 (some 64) (.int .i64 (r : Nat)) rfl rfl (by kernel_rfl) (by kernel_rfl) (by kernel_rfl) (fun _ _ _ h => h) (.inl ⟨by kernel_rfl, fun _ _ => by kernel_rfl⟩) (by assumption) ?_
              simp only [Act.put, List.setIfInBounds_toArray, List.set_cons_zero, List.set_cons_succ]
              refine any_take 1 (some 65) (.pointer (some ⟨p, 0, none⟩)) rfl rfl (by kernel_rfl) (by kernel_rfl) (by kernel_rfl) (fun _ _ _ h => h) (.inl ⟨by kernel_rfl, fun _ _ => by kernel_rfl⟩) (by assumption) ?_
              simp only [Act.put, List.setIfInBounds_toArray, List.set_cons_zero, List.set_cons_succ]
              refine any_take 2 (some 66) (.pointer (some ⟨p, 0, none⟩)) rfl rfl (by kernel_rfl) (by kernel_rfl) (by kernel_rfl) (fun _ _ _ h => h) (.inl ⟨by kernel_rfl, fun _ _ => by kernel_rfl⟩) (by assumption) ?_
              simp only [Act.put, List.setIfInBounds_toArray, List.set_cons_zero, List.set_cons_succ]
              refine any_take 3 (some 67) (.pointer (some ⟨p, 23, none⟩)) rfl rfl (by kernel_rfl) (by kernel_rfl) (by kernel_rfl) (fun _ _ _ h => h) (.inl ⟨by kernel_rfl, fun _ _ => by kernel_rfl⟩) (by assumption) ?_
              simp only [Act.put, List.setIfInBounds_toArray, List.set_cons_zero, List.set_cons_succ]
              refine any_take 4 (some 68) (.int .i64 h) rfl rfl (by kernel_rfl) (by kernel_rfl) (by kernel_rfl) (fun _ _ _ h => h) (yld_cell (by kernel_rfl) 3 (.tmp 67) rfl p 23 (by kernel_rfl) _ _ (fun _ h => keep_blk h t7.blk (by simp)) _ Ybaf.underlying3 rfl _ rfl) (by assumption) ?_
              simp only [Act.put, List.setIfInBounds_toArray, List.set_cons_zero, List.set_cons_succ]
              refine any_take 5 (some 69) (.bool true) rfl rfl (by kernel_rfl) (by kernel_rfl) (by kernel_rfl) (fun _ _ _ h => h) (.inl ⟨by kernel_rfl, fun w' _ => (exec_lss3 (.tmp 64) (.tmp 68) rfl (r : Int) h (by kernel_rfl) (by kernel_rfl)).trans (by simp [hA])⟩) (by assumption) ?_
              simp only [Act.put, List.setIfInBounds_toArray, List.set_cons_zero, List.set_cons_succ]
              refine any_take 6 (some 70) (.int .i64 n) rfl rfl (by kernel_rfl) (by kernel_rfl) (by kernel_rfl) (fun _ _ _ h => h) (.inl ⟨by kernel_rfl, fun _ _ => by kernel_rfl⟩) (by assumption) ?_
              simp only [Act.put, List.setIfInBounds_toArray, List.set_cons_zero, List.set_cons_succ]
              refine any_take 7 (some 71) (.pointer (some ⟨p, 0, none⟩)) rfl rfl (by kernel_rfl) (by kernel_rfl) (by kernel_rfl) (fun _ _ _ h => h) (.inl ⟨by kernel_rfl, fun _ _ => by kernel_rfl⟩) (by assumption) ?_
              simp only [Act.put, List.setIfInBounds_toArray, List.set_cons_zero, List.set_cons_succ]
              refine any_take 8 (some 72) (.pointer (some ⟨p, 0, none⟩)) rfl rfl (by kernel_rfl) (by kernel_rfl) (by kernel_rfl) (fun _ _ _ h => h) (.inl ⟨by kernel_rfl, fun _ _ => by kernel_rfl⟩) (by assumption) ?_
              simp only [Act.put, List.setIfInBounds_toArray, List.set_cons_zero, List.set_cons_succ]
              refine any_take 9 (some 73) (.pointer (some ⟨p, 23, none⟩)) rfl rfl (by kernel_rfl) (by kernel_rfl) (by kernel_rfl) (fun _ _ _ h => h) (.inl ⟨by kernel_rfl, fun _ _ => by kernel_rfl⟩) (by assumption) ?_
              simp only [Act.put, List.setIfInBounds_toArray, List.set_cons_zero, List.set_cons_succ]
              refine any_take 10 (some 74) (.int .i64 h) rfl rfl (by kernel_rfl) (by kernel_rfl) (by kernel_rfl) (fun _ _ _ h => h) (yld_cell (by kernel_rfl) 3 (.tmp 73) rfl p 23 (by kernel_rfl) _ _ (fun _ h => keep_blk h t7.blk (by simp)) _ Ybaf.underlying3 rfl _ rfl) (by assumption) ?_
              simp only [Act.put, List.setIfInBounds_toArray, List.set_cons_zero, List.set_cons_succ]
              refine any_take 11 (some 75) (.bool true) rfl rfl (by kernel_rfl) (by kernel_rfl) (by kernel_rfl) (fun _ _ _ h => h) (.inl ⟨by kernel_rfl, fun w' _ => (exec_lss3 (.tmp 70) (.tmp 74) rfl n h (by kernel_rfl) (by kernel_rfl)).trans (by simp [hB])⟩) (by assumption) ?_
              simp only [Act.put, List.setIfInBounds_toArray, List.set_cons_zero, List.set_cons_succ]
              refine any_take 12 (some 15) (.bool true) rfl rfl (by kernel_rfl) (by kernel_rfl) (by kernel_rfl) (fun _ _ _ h => h) (.inl ⟨by kernel_rfl, fun _ _ => by kernel_rfl⟩) (by assumption) ?_
              simp only [Act.put, List.setIfInBounds_toArray, List.set_cons_zero, List.set_cons_succ]
              refine any_take 13 (some 16) (.bool true) rfl rfl (by kernel_rfl) (by kernel_rfl) (by kernel_rfl) (fun _ _ _ h => h) (.inl ⟨by kernel_rfl, fun _ _ => by kernel_rfl⟩) (by assumption) ?_
              simp only [Act.put, List.setIfInBounds_toArray, List.set_cons_zero, List.set_cons_succ]
              refine wpAnyH_done (by kernel_rfl) ?_ _
              clear hS
              go_upto_region 13 with fail
              refine wp_region_held (S := Gr { u7 with drawn := u7.drawn + 1 }) (by kernel_rfl) ?_
              have gu8 : w.grownBy { u7 with drawn := u7.drawn + 1 } none := grown_trans gu7 (grown_drew u7)
              generalize ({ u7 with drawn := u7.drawn + 1 } : World) = u8 at *
              have hS := Gr.refl u8
              have t8 := t.kept gu8
              clear t7
              refine any_take 0 (some 76) (.bool true) rfl rfl (by kernel_rfl) (by kernel_rfl) (by kernel_rfl) (fun _ _ _ h => h) (.inl ⟨by kernel_rfl, fun _ _ => by kernel_rfl⟩) (by assumption) ?_
              simp only [Act.put, List.setIfInBounds_toArray, List.set_cons_zero, List.set_cons_succ]
              refine any_take 1 (some 77) (.bool true) rfl rfl (by kernel_rfl) (by kernel_rfl) (by kernel_rfl) (fun _ _ _ h => h) (.inl ⟨by kernel_rfl, fun _ _ => by kernel_rfl⟩) (by assumption) ?_
              simp only [Act.put, List.setIfInBounds_toArray, List.set_cons_zero, List.set_cons_succ]
              refine any_take 2 (some 78) undef rfl rfl (by kernel_rfl) (by kernel_rfl) (by kernel_rfl) (fun _ _ _ h => h) (.inr ⟨by kernel_rfl, rfl⟩) (by assumption) ?_
              simp only [Act.put, List.setIfInBounds_toArray, List.set_cons_zero, List.set_cons_succ]
              refine any_take 3 (some 79) undef rfl rfl (by kernel_rfl) (by kernel_rfl) (by kernel_rfl) (fun _ _ _ h => h) (.inr ⟨by kernel_rfl, rfl⟩) (by assumption) ?_
              simp only [Act.put, List.setIfInBounds_toArray, List.set_cons_zero, List.set_cons_succ]
              refine any_take 4 (some 80) undef rfl rfl (by kernel_rfl) (by kernel_rfl) (by kernel_rfl) (fun _ _ _ h => h) (.inr ⟨by kernel_rfl, rfl⟩) (by assumption) ?_
              simp only [Act.put, List.setIfInBounds_toArray, List.set_cons_zero, List.set_cons_succ]
              refine any_take 5 (some 81) undef rfl rfl (by kernel_rfl) (by kernel_rfl) (by kernel_rfl) (fun _ _ _ h => h) (.inr ⟨by kernel_rfl, rfl⟩) (by assumption) ?_
              simp only [Act.put, List.setIfInBounds_toArray, List.set_cons_zero, List.set_cons_succ]
              refine any_take 6 (some 82) undef rfl rfl (by kernel_rfl) (by kernel_rfl) (by kernel_rfl) (fun _ _ _ h => h) (.inr ⟨by kernel_rfl, rfl⟩) (by assumption) ?_
              simp only [Act.put, List.setIfInBounds_toArray, List.set_cons_zero, List.set_cons_succ]
              refine any_take 7 (some 83) undef rfl rfl (by kernel_rfl) (by kernel_rfl) (by kernel_rfl) (fun _ _ _ h => h) (.inr ⟨by kernel_rfl, rfl⟩) (by assumption) ?_
              simp only [Act.put, List.setIfInBounds_toArray, List.set_cons_zero, List.set_cons_succ]
              refine any_take 8 (some 84) undef rfl rfl (by kernel_rfl) (by kernel_rfl) (by kernel_rfl) (fun _ _ _ h => h) (.inr ⟨by kernel_rfl, rfl⟩) (by assumption) ?_
              simp only [Act.put, List.setIfInBounds_toArray, List.set_cons_zero, List.set_cons_succ]
              refine any_take 9 (some 85) (.bool true) rfl rfl (by kernel_rfl) (by kernel_rfl) (by kernel_rfl) (fun _ _ _ h => h) (.inl ⟨by kernel_rfl, fun _ _ => by kernel_rfl⟩) (by assumption) ?_
              simp only [Act.put, List.setIfInBounds_toArray, List.set_cons_zero, List.set_cons_succ]
              refine any_take 10 (some 86) (.bool true) rfl rfl (by kernel_rfl) (by kernel_rfl) (by kernel_rfl) (fun _ _ _ h => h) (.inl ⟨by kernel_rfl, fun _ _ => by kernel_rfl⟩) (by assumption) ?_
              simp only [Act.put, List.setIfInBounds_toArray, List.set_cons_zero, List.set_cons_succ]
              refine any_take 11 (some 87) (.bool true) rfl rfl (by kernel_rfl) (by kernel_rfl) (by kernel_rfl) (fun _ _ _ h => h) (.inl ⟨by kernel_rfl, fun _ _ => by kernel_rfl⟩) (by assumption) ?_
              simp only [Act.put, List.setIfInBounds_toArray, List.set_cons_zero, List.set_cons_succ]
              refine any_take 12 (some 88) undef rfl rfl (by kernel_rfl) (by kernel_rfl) (by kernel_rfl) (fun _ _ _ h => h) (.inr ⟨by kernel_rfl, rfl⟩) (by assumption) ?_
              simp only [Act.put, List.setIfInBounds_toArray, List.set_cons_zero, List.set_cons_succ]
              refine any_take 13 (some 89) undef rfl rfl (by kernel_rfl) (by kernel_rfl) (by kernel_rfl) (fun _ _ _ h => h) (.inr ⟨by kernel_rfl, rfl⟩) (by assumption) ?_
              simp only [Act.put, List.setIfInBounds_toArray, List.set_cons_zero, List.set_cons_succ]
              refine any_take 14 (some 90) undef rfl rfl (by kernel_rfl) (by kernel_rfl) (by kernel_rfl) (fun _ _ _ h => h) (.inr ⟨by kernel_rfl, rfl⟩) (by assumption) ?_
              simp only [Act.put, List.setIfInBounds_toArray, List.set_cons_zero, List.set_cons_succ]
              refine any_take 15 (some 91) undef rfl rfl (by kernel_rfl) (by kernel_rfl) (by kernel_rfl) (fun _ _ _ h => h) (.inr ⟨by kernel_rfl, rfl⟩) (by assumption) ?_
              simp only [Act.put, List.setIfInBounds_toArray, List.set_cons_zero, List.set_cons_succ]
              refine any_take 16 (some 92) undef rfl rfl (by kernel_rfl) (by kernel_rfl) (by kernel_rfl) (fun _ _ _ h => h) (.inr ⟨by kernel_rfl, rfl⟩) (by assumption) ?_
              simp only [Act.put, List.setIfInBounds_toArray, List.set_cons_zero, List.set_cons_succ]
              refine any_take 17 (some 93) undef rfl rfl (by kernel_rfl) (by kernel_rfl) (by kernel_rfl) (fun _ _ _ h => h) (.inr ⟨by kernel_rfl, rfl⟩) (by assumption) ?_
              simp only [Act.put, List.setIfInBounds_toArray, List.set_cons_zero, List.set_cons_succ]
              refine any_take 18 (some 94) undef rfl rfl (by kernel_rfl) (by kernel_rfl) (by kernel_rfl) (fun _ _ _ h => h) (.inr ⟨by kernel_rfl, rfl⟩) (by assumption) ?_
              simp only [Act.put, List.setIfInBounds_toArray, List.set_cons_zero, List.set_cons_succ]
              refine any_take 19 (some 95) (.bool true) rfl rfl (by kernel_rfl) (by kernel_rfl) (by kernel_rfl) (fun _ _ _ h => h) (.inl ⟨by kernel_rfl, fun _ _ => by kernel_rfl⟩) (by assumption) ?_
              simp only [Act.put, List.setIfInBounds_toArray, List.set_cons_zero, List.set_cons_succ]
              refine any_take 20 (some 6) (.bool true) rfl rfl (by kernel_rfl) (by kernel_rfl) (by kernel_rfl) (fun _ _ _ h => h) (.inl ⟨by kernel_rfl, fun _ _ => by kernel_rfl⟩) (by assumption) ?_
              simp only [Act.put, List.setIfInBounds_toArray, List.set_cons_zero, List.set_cons_succ]
              refine any_take 21 (some 7) (.bool true) rfl rfl (by kernel_rfl) (by kernel_rfl) (by kernel_rfl) (fun _ _ _ h => h) (.inl ⟨by kernel_rfl, fun _ _ => by kernel_rfl⟩) (by assumption) ?_
              simp only [Act.put, List.setIfInBounds_toArray, List.set_cons_zero, List.set_cons_succ]
              refine wpAnyH_done (by kernel_rfl) ?_ _
              clear hS
              have e1 : A = (true, true) := by rw [EA2.out]; simp [onCw, onCc, hA, hB]
              clear hA hB
              go_wp2_with fail
              refine bodyPost_ret (v := .tuple #[.bool true, .bool true]) (by kernel_rfl) rfl ⟨by rw [e1], gu8⟩
            · refine any_take 0 (some 64) (.int .i64 (r : Nat)) rfl rfl (by kernel_rfl) (by kernel_rfl) (by kernel_rfl) (fun _ _ _ h => h) (.inl ⟨by kernel_rfl, fun _ _ => by kernel_rfl⟩) (by assumption) ?_
              simp only [Act.put, List.setIfInBounds_toArray, List.set_cons_zero, List.set_cons_succ]
              refine any_take 1 (some 65) (.pointer (some ⟨p, 0, none⟩)) rfl rfl (by kernel_rfl) (by kernel_rfl) (by kernel_rfl) (fun _ _ _ h => h) (.inl ⟨by kernel_rfl, fun _ _ => by kernel_rfl⟩) (by assumption) ?_
              simp only [Act.put, List.setIfInBounds_toArray, List.set_cons_zero, List.set_cons_succ]
              refine any_take 2 (some 66) (.pointer (some ⟨p, 0, none⟩)) rfl rfl (by kernel_rfl) (by kernel_rfl) (by kernel_rfl) (fun _ _ _ h => h) (.inl ⟨by kernel_rfl, fun _ _ => by kernel_rfl⟩) (by assumption) ?_
              simp only [Act.put, List.setIfInBounds_toArray, List.set_cons_zero, List.set_cons_succ]
              refine any_take 3 (some 67) (.pointer (some ⟨p, 23, none⟩)) rfl rfl (by kernel_rfl) (by kernel_rfl) (by kernel_rfl) (fun _ _ _ h => h) (.inl ⟨by kernel_rfl, fun _ _ => by kernel_rfl⟩) (by assumption) ?_
              simp only [Act.put, List.setIfInBounds_toArray, List.set_cons_zero, List.set_cons_succ]
              refine any_take 4 (some 68) (.int .i64 h) rfl rfl (by kernel_rfl) (by kernel_rfl) (by kernel_rfl) (fun _ _ _ h => h) (yld_cell (by kernel_rfl) 3 (.tmp 67) rfl p 23 (by kernel_rfl) _ _ (fun _ h => keep_blk h t7.blk (by simp)) _ Ybaf.underlying3 rfl _ rfl) (by assumption) ?_
              simp only [Act.put, List.setIfInBounds_toArray, List.set_cons_zero, List.set_cons_succ]
              refine any_take 5 (some 69) (.bool true) rfl rfl (by kernel_rfl) (by kernel_rfl) (by kernel_rfl) (fun _ _ _ h => h) (.inl ⟨by kernel_rfl, fun w' _ => (exec_lss3 (.tmp 64) (.tmp 68) rfl (r : Int) h (by kernel_rfl) (by kernel_rfl)).trans (by simp [hA])⟩) (by assumption) ?_
              simp only [Act.put, List.setIfInBounds_toArray, List.set_cons_zero, List.set_cons_succ]
              refine any_take 6 (some 70) (.int .i64 n) rfl rfl (by kernel_rfl) (by kernel_rfl) (by kernel_rfl) (fun _ _ _ h => h) (.inl ⟨by kernel_rfl, fun _ _ => by kernel_rfl⟩) (by assumption) ?_
              simp only [Act.put, List.setIfInBounds_toArray, List.set_cons_zero, List.set_cons_succ]
              refine any_take 7 (some 71) (.pointer (some ⟨p, 0, none⟩)) rfl rfl (by kernel_rfl) (by kernel_rfl) (by kernel_rfl) (fun _ _ _ h => h) (.inl ⟨by kernel_rfl, fun _ _ => by kernel_rfl⟩) (by assumption) ?_
              simp only [Act.put, List.setIfInBounds_toArray, List.set_cons_zero, List.set_cons_succ]
              refine any_take 8 (some 72) (.pointer (some ⟨p, 0, none⟩)) rfl rfl (by kernel_rfl) (by kernel_rfl) (by kernel_rfl) (fun _ _ _ h => h) (.inl ⟨by kernel_rfl, fun _ _ => by kernel_rfl⟩) (by assumption) ?_
              simp only [Act.put, List.setIfInBounds_toArray, List.set_cons_zero, List.set_cons_succ]
              refine any_take 9 (some 73) (.pointer (some ⟨p, 23, none⟩)) rfl rfl (by kernel_rfl) (by kernel_rfl) (by kernel_rfl) (fun _ _ _ h => h) (.inl ⟨by kernel_rfl, fun _ _ => by kernel_rfl⟩) (by assumption) ?_
              simp only [Act.put, List.setIfInBounds_toArray, List.set_cons_zero, List.set_cons_succ]
              refine any_take 10 (some 74) (.int .i64 h) rfl rfl (by kernel_rfl) (by kernel_rfl) (by kernel_rfl) (fun _ _ _ h => h) (yld_cell (by kernel_rfl) 3 (.tmp 73) rfl p 23 (by kernel_rfl) _ _ (fun _ h => keep_blk h t7.blk (by simp)) _ Ybaf.underlying3 rfl _ rfl) (by assumption) ?_
              simp only [Act.put, List.setIfInBounds_toArray, List.set_cons_zero, List.set_cons_succ]
              refine any_take 11 (some 75) (.bool false) rfl rfl (by kernel_rfl) (by kernel_rfl) (by kernel_rfl) (fun _ _ _ h => h) (.inl ⟨by kernel_rfl, fun w' _ => (exec_lss3 (.tmp 70) (.tmp 74) rfl n h (by kernel_rfl) (by kernel_rfl)).trans (by simp [hB])⟩) (by assumption) ?_
              simp only [Act.put, List.setIfInBounds_toArray, List.set_cons_zero, List.set_cons_succ]
              refine any_take 12 (some 15) (.bool true) rfl rfl (by kernel_rfl) (by kernel_rfl) (by kernel_rfl) (fun _ _ _ h => h) (.inl ⟨by kernel_rfl, fun _ _ => by kernel_rfl⟩) (by assumption) ?_
              simp only [Act.put, List.setIfInBounds_toArray, List.set_cons_zero, List.set_cons_succ]
              refine any_take 13 (some 16) (.bool false) rfl rfl (by kernel_rfl) (by kernel_rfl) (by kernel_rfl) (fun _ _ _ h => h) (.inl ⟨by kernel_rfl, fun _ _ => by kernel_rfl⟩) (by assumption) ?_
              simp only [Act.put, List.setIfInBounds_toArray, List.set_cons_zero, List.set_cons_succ]
              refine wpAnyH_done (by kernel_rfl) ?_ _
              clear hS
              go_upto_region 13 with fail
              refine wp_region_held (S := Gr { u7 with drawn := u7.drawn + 1 }) (by kernel_rfl) ?_
              have gu8 : w.grownBy { u7 with drawn := u7.drawn + 1 } none := grown_trans gu7 (grown_drew u7)
              generalize ({ u7 with drawn := u7.drawn + 1 } : World) = u8 at *
              have hS := Gr.refl u8
              have t8 := t.kept gu8
              clear t7
              refine any_take 0 (some 76) (.bool true) rfl rfl (by kernel_rfl) (by kernel_rfl) (by kernel_rfl) (fun _ _ _ h => h) (.inl ⟨by kernel_rfl, fun _ _ => by kernel_rfl⟩) (by assumption) ?_
              simp only [Act.put, List.setIfInBounds_toArray, List.set_cons_zero, List.set_cons_succ]
              refine any_take 1 (some 77) (.bool true) rfl rfl (by kernel_rfl) (by kernel_rfl) (by kernel_rfl) (fun _ _ _ h => h) (.inl ⟨by kernel_rfl, fun _ _ => by kernel_rfl⟩) (by assumption) ?_
              simp only [Act.put, List.setIfInBounds_toArray, List.set_cons_zero, List.set_cons_succ]
              refine any_take 2 (some 78) undef rfl rfl (by kernel_rfl) (by kernel_rfl) (by kernel_rfl) (fun _ _ _ h => h) (.inr ⟨by kernel_rfl, rfl⟩) (by assumption) ?_
              simp only [Act.put, List.setIfInBounds_toArray, List.set_cons_zero, List.set_cons_succ]
              refine any_take 3 (some 79) undef rfl rfl (by kernel_rfl) (by kernel_rfl) (by kernel_rfl) (fun _ _ _ h => h) (.inr ⟨by kernel_rfl, rfl⟩) (by assumption) ?_
              simp only [Act.put, List.setIfInBounds_toArray, List.set_cons_zero, List.set_cons_succ]
              refine any_take 4 (some 80) undef rfl rfl (by kernel_rfl) (by kernel_rfl) (by kernel_rfl) (fun _ _ _ h => h) (.inr ⟨by kernel_rfl, rfl⟩) (by assumption) ?_
              simp only [Act.put, List.setIfInBounds_toArray, List.set_cons_zero, List.set_cons_succ]
              refine any_take 5 (some 81) undef rfl rfl (by kernel_rfl) (by kernel_rfl) (by kernel_rfl) (fun _ _ _ h => h) (.inr ⟨by kernel_rfl, rfl⟩) (by assumption) ?_
              simp only [Act.put, List.setIfInBounds_toArray, List.set_cons_zero, List.set_cons_succ]
              refine any_take 6 (some 82) undef rfl rfl (by kernel_rfl) (by kernel_rfl) (by kernel_rfl) (fun _ _ _ h => h) (.inr ⟨by kernel_rfl, rfl⟩) (by assumption) ?_
              simp only [Act.put, List.setIfInBounds_toArray, List.set_cons_zero, List.set_cons_succ]
              refine any_take 7 (some 83) undef rfl rfl (by kernel_rfl) (by kernel_rfl) (by kernel_rfl) (fun _ _ _ h => h) (.inr ⟨by kernel_rfl, rfl⟩) (by assumption) ?_
              simp only [Act.put, List.setIfInBounds_toArray, List.set_cons_zero, List.set_cons_succ]
              refine any_take 8 (some 84) undef rfl rfl (by kernel_rfl) (by kernel_rfl) (by kernel_rfl) (fun _ _ _ h => h) (.inr ⟨by kernel_rfl, rfl⟩) (by assumption) ?_
              simp only [Act.put, List.setIfInBounds_toArray, List.set_cons_zero, List.set_cons_succ]
              refine any_take 9 (some 85) (.bool true) rfl rfl (by kernel_rfl) (by kernel_rfl) (by kernel_rfl) (fun _ _ _ h => h) (.inl ⟨by kernel_rfl, fun _ _ => by kernel_rfl⟩) (by assumption) ?_
              simp only [Act.put, List.setIfInBounds_toArray, List.set_cons_zero, List.set_cons_succ]
              refine any_take 10 (some 86) (.bool false) rfl rfl (by kernel_rfl) (by kernel_rfl) (by kernel_rfl) (fun _ _ _ h => h) (.inl ⟨by kernel_rfl, fun _ _ => by kernel_rfl⟩) (by assumption) ?_
              simp only [Act.put, List.setIfInBounds_toArray, List.set_cons_zero, List.set_cons_succ]
              refine any_take 11 (some 87) (.bool false) rfl rfl (by kernel_rfl) (by kernel_rfl) (by kernel_rfl) (fun _ _ _ h => h) (.inl ⟨by kernel_rfl, fun _ _ => by kernel_rfl⟩) (by assumption) ?_
              simp only [Act.put, List.setIfInBounds_toArray, List.set_cons_zero, List.set_cons_succ]
              refine any_take 12 (some 88) (.int .i64 (r : Nat)) rfl rfl (by kernel_rfl) (by kernel_rfl) (by kernel_rfl) (fun _ _ _ h => h) (.inl ⟨by kernel_rfl, fun _ _ => by kernel_rfl⟩) (by assumption) ?_
              simp only [Act.put, List.setIfInBounds_toArray, List.set_cons_zero, List.set_cons_succ]
              refine any_take 13 (some 89) (.pointer (some ⟨p, 0, none⟩)) rfl rfl (by kernel_rfl) (by kernel_rfl) (by kernel_rfl) (fun _ _ _ h => h) (.inl ⟨by kernel_rfl, fun _ _ => by kernel_rfl⟩) (by assumption) ?_
              simp only [Act.put, List.setIfInBounds_toArray, List.set_cons_zero, List.set_cons_succ]
              refine any_take 14 (some 90) (.pointer (some ⟨p, 0, none⟩)) rfl rfl (by kernel_rfl) (by kernel_rfl) (by kernel_rfl) (fun _ _ _ h => h) (.inl ⟨by kernel_rfl, fun _ _ => by kernel_rfl⟩) (by assumption) ?_
              simp only [Act.put, List.setIfInBounds_toArray, List.set_cons_zero, List.set_cons_succ]
              refine any_take 15 (some 91) (.pointer (some ⟨p, 23, none⟩)) rfl rfl (by kernel_rfl) (by kernel_rfl) (by kernel_rfl) (fun _ _ _ h => h) (.inl ⟨by kernel_rfl, fun _ _ => by kernel_rfl⟩) (by assumption) ?_
              simp only [Act.put, List.setIfInBounds_toArray, List.set_cons_zero, List.set_cons_succ]
              refine any_take 16 (some 92) (.int .i64 h) rfl rfl (by kernel_rfl) (by kernel_rfl) (by kernel_rfl) (fun _ _ _ h => h) (yld_cell (by kernel_rfl) 3 (.tmp 91) rfl p 23 (by kernel_rfl) _ _ (fun _ h => keep_blk h t8.blk (by simp)) _ Ybaf.underlying3 rfl _ rfl) (by assumption) ?_
              simp only [Act.put, List.setIfInBounds_toArray, List.set_cons_zero, List.set_cons_succ]
              refine any_take 17 (some 93) (.int .i64 (h - 1)) rfl rfl (by kernel_rfl) (by kernel_rfl) (by kernel_rfl) (fun _ _ _ h => h) (.inl ⟨by kernel_rfl, fun w' _ => exec_sub3 (.tmp 92) (.const (.int .i64 1)) rfl h 1 (by omega) (by omega) (by kernel_rfl) (by kernel_rfl)⟩) (by assumption) ?_
              simp only [Act.put, List.setIfInBounds_toArray, List.set_cons_zero, List.set_cons_succ]
              refine any_take 18 (some 94) (.bool (decide ((r : Int) < h - 1))) rfl rfl (by kernel_rfl) (by kernel_rfl) (by kernel_rfl) (fun _ _ _ h => h) (.inl ⟨by kernel_rfl, fun w' _ => exec_lss3 (.tmp 88) (.tmp 93) rfl (r : Int) (h - 1) (by kernel_rfl) (by kernel_rfl)⟩) (by assumption) ?_
              simp only [Act.put, List.setIfInBounds_toArray, List.set_cons_zero, List.set_cons_succ]
              refine any_take 19 (some 95) (.bool (decide ((r : Int) < h - 1))) rfl rfl (by kernel_rfl) (by kernel_rfl) (by kernel_rfl) (fun _ _ _ h => h) (.inl ⟨by kernel_rfl, fun _ _ => by kernel_rfl⟩) (by assumption) ?_
              simp only [Act.put, List.setIfInBounds_toArray, List.set_cons_zero, List.set_cons_succ]
              refine any_take 20 (some 6) (.bool true) rfl rfl (by kernel_rfl) (by kernel_rfl) (by kernel_rfl) (fun _ _ _ h => h) (.inl ⟨by kernel_rfl, fun _ _ => by kernel_rfl⟩) (by assumption) ?_
              simp only [Act.put, List.setIfInBounds_toArray, List.set_cons_zero, List.set_cons_succ]
              refine any_take 21 (some 7) (.bool (decide ((r : Int) < h - 1))) rfl rfl (by kernel_rfl) (by kernel_rfl) (by kernel_rfl) (fun _ _ _ h => h) (.inl ⟨by kernel_rfl, fun _ _ => by kernel_rfl⟩) (by assumption) ?_
              simp only [Act.put, List.setIfInBounds_toArray, List.set_cons_zero, List.set_cons_succ]
              refine wpAnyH_done (by kernel_rfl) ?_ _
              clear hS
              have e1 : A = (true, (decide ((r : Int) < h - 1))) := by rw [EA2.out]; simp [onCw, onCc, hA, hB]
              clear hA hB
              go_wp2_with fail
              refine bodyPost_ret (v := .tuple #[.bool true, .bool (decide ((r : Int) < h - 1))]) (by kernel_rfl) rfl ⟨by rw [e1], gu8⟩
          · by_cases hB : n < h
            · refine any_take 0 (some 64) (.int .i64 (r : Nat)) rfl rfl (by kernel_rfl) (by kernel_rfl) (by kernel_rfl) (fun _ _ _ h => h) (.inl ⟨by kernel_rfl, fun _ _ => by kernel_rfl⟩) (by assumption) ?_
              simp only [Act.put, List.setIfInBounds_toArray, List.set_cons_zero, List.set_cons_succ]
              refine any_take 1 (some 65) (.pointer (some ⟨p, 0, none⟩)) rfl rfl (by kernel_rfl) (by kernel_rfl) (by kernel_rfl) (fun _ _ _ h => h) (.inl ⟨by kernel_rfl, fun _ _ => by kernel_rfl⟩) (by assumption) ?_
              simp only [Act.put, List.setIfInBounds_toArray, List.set_cons_zero, List.set_cons_succ]
              refine any_take 2 (some 66) (.pointer (some ⟨p, 0, none⟩)) rfl rfl (by kernel_rfl) (by kernel_rfl) (by kernel_rfl) (fun _ _ _ h => h) (.inl ⟨by kernel_rfl, fun _ _ => by kernel_rfl⟩) (by assumption) ?_
              simp only [Act.put, List.setIfInBounds_toArray, List.set_cons_zero, List.set_cons_succ]
              refine any_take 3 (some 67) (.pointer (some ⟨p, 23, none⟩)) rfl rfl (by kernel_rfl) (by kernel_rfl) (by kernel_rfl) (fun _ _ _ h => h) (.inl ⟨by kernel_rfl, fun _ _ => by kernel_rfl⟩) (by assumption) ?_
              simp only [Act.put, List.setIfInBounds_toArray, List.set_cons_zero, List.set_cons_succ]
              refine any_take 4 (some 68) (.int .i64 h) rfl rfl (by kernel_rfl) (by kernel_rfl) (by kernel_rfl) (fun _ _ _ h => h) (yld_cell (by kernel_rfl) 3 (.tmp 67) rfl p 23 (by kernel_rfl) _ _ (fun _ h => keep_blk h t7.blk (by simp)) _ Ybaf.underlying3 rfl _ rfl) (by assumption) ?_
              simp only [Act.put, List.setIfInBounds_toArray, List.set_cons_zero, List.set_cons_succ]
              refine any_take 5 (some 69) (.bool false) rfl rfl (by kernel_rfl) (by kernel_rfl) (by kernel_rfl) (fun _ _ _ h => h) (.inl ⟨by kernel_rfl, fun w' _ => (exec_lss3 (.tmp 64) (.tmp 68) rfl (r : Int) h (by kernel_rfl) (by kernel_rfl)).trans (by simp [hA])⟩) (by assumption) ?_
              simp only [Act.put, List.setIfInBounds_toArray, List.set_cons_zero, List.set_cons_succ]
              refine any_take 6 (some 70) (.int .i64 n) rfl rfl (by kernel_rfl) (by kernel_rfl) (by kernel_rfl) (fun _ _ _ h => h) (.inl ⟨by kernel_rfl, fun _ _ => by kernel_rfl⟩) (by assumption) ?_
              simp only [Act.put, List.setIfInBounds_toArray, List.set_cons_zero, List.set_cons_succ]
              refine any_take 7 (some 71) (.pointer (some ⟨p, 0, none⟩)) rfl rfl (by kernel_rfl) (by kernel_rfl) (by kernel_rfl) (fun _ _ _ h => h) (.inl ⟨by kernel_rfl, fun _ _ => by kernel_rfl⟩) (by assumption) ?_
              simp only [Act.put, List.setIfInBounds_toArray, List.set_cons_zero, List.set_cons_succ]
              refine any_take 8 (some 72) (.pointer (some ⟨p, 0, none⟩)) rfl rfl (by kernel_rfl) (by kernel_rfl) (by kernel_rfl) (fun _ _ _ h => h) (.inl ⟨by kernel_rfl, fun _ _ => by kernel_rfl⟩) (by assumption) ?_
              simp only [Act.put, List.setIfInBounds_toArray, List.set_cons_zero, List.set_cons_succ]
              refine any_take 9 (some 73) (.pointer (some ⟨p, 23, none⟩)) rfl rfl (by kernel_rfl) (by kernel_rfl) (by kernel_rfl) (fun _ _ _ h => h) (.inl ⟨by kernel_rfl, fun _ _ => by kernel_rfl⟩) (by assumption) ?_
              simp only [Act.put, List.setIfInBounds_toArray, List.set_cons_zero, List.set_cons_succ]
              refine any_take 10 (some 74) (.int .i64 h) rfl rfl (by kernel_rfl) (by kernel_rfl) (by kernel_rfl) (fun _ _ _ h => h) (yld_cell (by kernel_rfl) 3 (.tmp 73) rfl p 23 (by kernel_rfl) _ _ (fun _ h => keep_blk h t7.blk (by simp)) _ Ybaf.underlying3 rfl _ rfl) (by assumption) ?_
              simp only [Act.put, List.setIfInBounds_toArray, List.set_cons_zero, List.set_cons_succ]
              refine any_take 11 (some 75) (.bool true) rfl rfl (by kernel_rfl) (by kernel_rfl) (by kernel_rfl) (fun _ _ _ h => h) (.inl ⟨by kernel_rfl, fun w' _ => (exec_lss3 (.tmp 70) (.tmp 74) rfl n h (by kernel_rfl) (by kernel_rfl)).trans (by simp [hB])⟩) (by assumption) ?_
              simp only [Act.put, List.setIfInBounds_toArray, List.set_cons_zero, List.set_cons_succ]
              refine any_take 12 (some 15) (.bool false) rfl rfl (by kernel_rfl) (by kernel_rfl) (by kernel_rfl) (fun _ _ _ h => h) (.inl ⟨by kernel_rfl, fun _ _ => by kernel_rfl⟩) (by assumption) ?_
              simp only [Act.put, List.setIfInBounds_toArray, List.set_cons_zero, List.set_cons_succ]
              refine any_take 13 (some 16) (.bool true) rfl rfl (by kernel_rfl) (by kernel_rfl) (by kernel_rfl) (fun _ _ _ h => h) (.inl ⟨by kernel_rfl, fun _ _ => by kernel_rfl⟩) (by assumption) ?_
              simp only [Act.put, List.setIfInBounds_toArray, List.set_cons_zero, List.set_cons_succ]
              refine wpAnyH_done (by kernel_rfl) ?_ _
              clear hS
              go_upto_region 13 with fail
              refine wp_region_held (S := Gr { u7 with drawn := u7.drawn + 1 }) (by kernel_rfl) ?_
              have gu8 : w.grownBy { u7 with drawn := u7.drawn + 1 } none := grown_trans gu7 (grown_drew u7)
              generalize ({ u7 with drawn := u7.drawn + 1 } : World) = u8 at *
              have hS := Gr.refl u8
              have t8 := t.kept gu8
              clear t7
              refine any_take 0 (some 76) (.bool false) rfl rfl (by kernel_rfl) (by kernel_rfl) (by kernel_rfl) (fun _ _ _ h => h) (.inl ⟨by kernel_rfl, fun _ _ => by kernel_rfl⟩) (by assumption) ?_
              simp only [Act.put, List.setIfInBounds_toArray, List.set_cons_zero, List.set_cons_succ]
              refine any_take 1 (some 77) (.bool false) rfl rfl (by kernel_rfl) (by kernel_rfl) (by kernel_rfl) (fun _ _ _ h => h) (.inl ⟨by kernel_rfl, fun _ _ => by kernel_rfl⟩) (by assumption) ?_
              simp only [Act.put, List.setIfInBounds_toArray, List.set_cons_zero, List.set_cons_succ]
              refine any_take 2 (some 78) (.int .i64 n) rfl rfl (by kernel_rfl) (by kernel_rfl) (by kernel_rfl) (fun _ _ _ h => h) (.inl ⟨by kernel_rfl, fun _ _ => by kernel_rfl⟩) (by assumption) ?_
              simp only [Act.put, List.setIfInBounds_toArray, List.set_cons_zero, List.set_cons_succ]
              refine any_take 3 (some 79) (.pointer (some ⟨p, 0, none⟩)) rfl rfl (by kernel_rfl) (by kernel_rfl) (by kernel_rfl) (fun _ _ _ h => h) (.inl ⟨by kernel_rfl, fun _ _ => by kernel_rfl⟩) (by assumption) ?_
              simp only [Act.put, List.setIfInBounds_toArray, List.set_cons_zero, List.set_cons_succ]
              refine any_take 4 (some 80) (.pointer (some ⟨p, 0, none⟩)) rfl rfl (by kernel_rfl) (by kernel_rfl) (by kernel_rfl) (fun _ _ _ h => h) (.inl ⟨by kernel_rfl, fun _ _ => by kernel_rfl⟩) (by assumption) ?_
              simp only [Act.put, List.setIfInBounds_toArray, List.set_cons_zero, List.set_cons_succ]
              refine any_take 5 (some 81) (.pointer (some ⟨p, 23, none⟩)) rfl rfl (by kernel_rfl) (by kernel_rfl) (by kernel_rfl) (fun _ _ _ h => h) (.inl ⟨by kernel_rfl, fun _ _ => by kernel_rfl⟩) (by assumption) ?_
              simp only [Act.put, List.setIfInBounds_toArray, List.set_cons_zero, List.set_cons_succ]
              refine any_take 6 (some 82) (.int .i64 h) rfl rfl (by kernel_rfl) (by kernel_rfl) (by kernel_rfl) (fun _ _ _ h => h) (yld_cell (by kernel_rfl) 3 (.tmp 81) rfl p 23 (by kernel_rfl) _ _ (fun _ h => keep_blk h t8.blk (by simp)) _ Ybaf.underlying3 rfl _ rfl) (by assumption) ?_
              simp only [Act.put, List.setIfInBounds_toArray, List.set_cons_zero, List.set_cons_succ]
              refine any_take 7 (some 83) (.int .i64 (h - 1)) rfl rfl (by kernel_rfl) (by kernel_rfl) (by kernel_rfl) (fun _ _ _ h => h) (.inl ⟨by kernel_rfl, fun w' _ => exec_sub3 (.tmp 82) (.const (.int .i64 1)) rfl h 1 (by omega) (by omega) (by kernel_rfl) (by kernel_rfl)⟩) (by assumption) ?_
              simp only [Act.put, List.setIfInBounds_toArray, List.set_cons_zero, List.set_cons_succ]
              refine any_take 8 (some 84) (.bool (decide (n < h - 1))) rfl rfl (by kernel_rfl) (by kernel_rfl) (by kernel_rfl) (fun _ _ _ h => h) (.inl ⟨by kernel_rfl, fun w' _ => exec_lss3 (.tmp 78) (.tmp 83) rfl n (h - 1) (by kernel_rfl) (by kernel_rfl)⟩) (by assumption) ?_
              simp only [Act.put, List.setIfInBounds_toArray, List.set_cons_zero, List.set_cons_succ]
              refine any_take 9 (some 85) (.bool (decide (n < h - 1))) rfl rfl (by kernel_rfl) (by kernel_rfl) (by kernel_rfl) (fun _ _ _ h => h) (.inl ⟨by kernel_rfl, fun _ _ => by kernel_rfl⟩) (by assumption) ?_
              simp only [Act.put, List.setIfInBounds_toArray, List.set_cons_zero, List.set_cons_succ]
              refine any_take 10 (some 86) (.bool true) rfl rfl (by kernel_rfl) (by kernel_rfl) (by kernel_rfl) (fun _ _ _ h => h) (.inl ⟨by kernel_rfl, fun _ _ => by kernel_rfl⟩) (by assumption) ?_
              simp only [Act.put, List.setIfInBounds_toArray, List.set_cons_zero, List.set_cons_succ]
              refine any_take 11 (some 87) (.bool true) rfl rfl (by kernel_rfl) (by kernel_rfl) (by kernel_rfl) (fun _ _ _ h => h) (.inl ⟨by kernel_rfl, fun _ _ => by kernel_rfl⟩) (by assumption) ?_
              simp only [Act.put, List.setIfInBounds_toArray, List.set_cons_zero, List.set_cons_succ]
              refine any_take 12 (some 88) undef rfl rfl (by kernel_rfl) (by kernel_rfl) (by kernel_rfl) (fun _ _ _ h => h) (.inr ⟨by kernel_rfl, rfl⟩) (by assumption) ?_
              simp only [Act.put, List.setIfInBounds_toArray, List.set_cons_zero, List.set_cons_succ]
              refine any_take 13 (some 89) undef rfl rfl (by kernel_rfl) (by kernel_rfl) (by kernel_rfl) (fun _ _ _ h => h) (.inr ⟨by kernel_rfl, rfl⟩) (by assumption) ?_
              simp only [Act.put, List.setIfInBounds_toArray, List.set_cons_zero, List.set_cons_succ]
              refine any_take 14 (some 90) undef rfl rfl (by kernel_rfl) (by kernel_rfl) (by kernel_rfl) (fun _ _ _ h => h) (.inr ⟨by kernel_rfl, rfl⟩) (by assumption) ?_
              simp only [Act.put, List.setIfInBounds_toArray, List.set_cons_zero, List.set_cons_succ]
              refine any_take 15 (some 91) undef rfl rfl (by kernel_rfl) (by kernel_rfl) (by kernel_rfl) (fun _ _ _ h => h) (.inr ⟨by kernel_rfl, rfl⟩) (by assumption) ?_
              simp only [Act.put, List.setIfInBounds_toArray, List.set_cons_zero, List.set_cons_succ]
              refine any_take 16 (some 92) undef rfl rfl (by kernel_rfl) (by kernel_rfl) (by kernel_rfl) (fun _ _ _ h => h) (.inr ⟨by kernel_rfl, rfl⟩) (by assumption) ?_
              simp only [Act.put, List.setIfInBounds_toArray, List.set_cons_zero, List.set_cons_succ]
              refine any_take 17 (some 93) undef rfl rfl (by kernel_rfl) (by kernel_rfl) (by kernel_rfl) (fun _ _ _ h => h) (.inr ⟨by kernel_rfl, rfl⟩) (by assumption) ?_
              simp only [Act.put, List.setIfInBounds_toArray, List.set_cons_zero, List.set_cons_succ]
              refine any_take 18 (some 94) undef rfl rfl (by kernel_rfl) (by kernel_rfl) (by kernel_rfl) (fun _ _ _ h => h) (.inr ⟨by kernel_rfl, rfl⟩) (by assumption) ?_
              simp only [Act.put, List.setIfInBounds_toArray, List.set_cons_zero, List.set_cons_succ]
              refine any_take 19 (some 95) (.bool true) rfl rfl (by kernel_rfl) (by kernel_rfl) (by kernel_rfl) (fun _ _ _ h => h) (.inl ⟨by kernel_rfl, fun _ _ => by kernel_rfl⟩) (by assumption) ?_
              simp only [Act.put, List.setIfInBounds_toArray, List.set_cons_zero, List.set_cons_succ]
              refine any_take 20 (some 6) (.bool (decide (n < h - 1))) rfl rfl (by kernel_rfl) (by kernel_rfl) (by kernel_rfl) (fun _ _ _ h => h) (.inl ⟨by kernel_rfl, fun _ _ => by kernel_rfl⟩) (by assumption) ?_
              simp only [Act.put, List.setIfInBounds_toArray, List.set_cons_zero, List.set_cons_succ]
              refine any_take 21 (some 7) (.bool true) rfl rfl (by kernel_rfl) (by kernel_rfl) (by kernel_rfl) (fun _ _ _ h => h) (.inl ⟨by kernel_rfl, fun _ _ => by kernel_rfl⟩) (by assumption) ?_
              simp only [Act.put, List.setIfInBounds_toArray, List.set_cons_zero, List.set_cons_succ]
              refine wpAnyH_done (by kernel_rfl) ?_ _
              clear hS
              have e1 : A = ((decide (n < h - 1)), true) := by rw [EA2.out]; simp [onCw, onCc, hA, hB]
              clear hA hB
              go_wp2_with fail
              refine bodyPost_ret (v := .tuple #[.bool (decide (n < h - 1)), .bool true]) (by kernel_rfl) rfl ⟨by rw [e1], gu8⟩
            · refine any_take 0 (some 64) (.int .i64 (r : Nat)) rfl rfl (by kernel_rfl) (by kernel_rfl) (by kernel_rfl) (fun _ _ _ h => h) (.inl ⟨by kernel_rfl, fun _ _ => by kernel_rfl⟩) (by assumption) ?_
              simp only [Act.put, List.setIfInBounds_toArray, List.set_cons_zero, List.set_cons_succ]
              refine any_take 1 (some 65) (.pointer (some ⟨p, 0, none⟩)) rfl rfl (by kernel_rfl) (by kernel_rfl) (by kernel_rfl) (fun _ _ _ h => h) (.inl ⟨by kernel_rfl, fun _ _ => by kernel_rfl⟩) (by assumption) ?_
              simp only [Act.put, List.setIfInBounds_toArray, List.set_cons_zero, List.set_cons_succ]
              refine any_take 2 (some 66) (.pointer (some ⟨p, 0, none⟩)) rfl rfl (by kernel_rfl) (by kernel_rfl) (by kernel_rfl) (fun _ _ _ h => h) (.inl ⟨by kernel_rfl, fun _ _ => by kernel_rfl⟩) (by assumption) ?_
              simp only [Act.put, List.setIfInBounds_toArray, List.set_cons_zero, List.set_cons_succ]
              refine any_take 3 (some 67) (.pointer (some ⟨p, 23, none⟩)) rfl rfl (by kernel_rfl) (by kernel_rfl) (by kernel_rfl) (fun _ _ _ h => h) (.inl ⟨by kernel_rfl, fun _ _ => by kernel_rfl⟩) (by assumption) ?_
              simp only [Act.put, List.setIfInBounds_toArray, List.set_cons_zero, List.set_cons_succ]
              refine any_take 4 (some 68) (.int .i64 h) rfl rfl (by kernel_rfl) (by kernel_rfl) (by kernel_rfl) (fun _ _ _ h => h) (yld_cell (by kernel_rfl) 3 (.tmp 67) rfl p 23 (by kernel_rfl) _ _ (fun _ h => keep_blk h t7.blk (by simp)) _ Ybaf.underlying3 rfl _ rfl) (by assumption) ?_
              simp only [Act.put, List.setIfInBounds_toArray, List.set_cons_zero, List.set_cons_succ]
              refine any_take 5 (some 69) (.bool false) rfl rfl (by kernel_rfl) (by kernel_rfl) (by kernel_rfl) (fun _ _ _ h => h) (.inl ⟨by kernel_rfl, fun w' _ => (exec_lss3 (.tmp 64) (.tmp 68) rfl (r : Int) h (by kernel_rfl) (by kernel_rfl)).trans (by simp [hA])⟩) (by assumption) ?_
              simp only [Act.put, List.setIfInBounds_toArray, List.set_cons_zero, List.set_cons_succ]
              refine any_take 6 (some 70) (.int .i64 n) rfl rfl (by kernel_rfl) (by kernel_rfl) (by kernel_rfl) (fun _ _ _ h => h) (.inl ⟨by kernel_rfl, fun _ _ => by kernel_rfl⟩) (by assumption) ?_
              simp only [Act.put, List.setIfInBounds_toArray, List.set_cons_zero, List.set_cons_succ]
              refine any_take 7 (some 71) (.pointer (some ⟨p, 0, none⟩)) rfl rfl (by kernel_rfl) (by kernel_rfl) (by kernel_rfl) (fun _ _ _ h => h) (.inl ⟨by kernel_rfl, fun _ _ => by kernel_rfl⟩) (by assumption) ?_
              simp only [Act.put, List.setIfInBounds_toArray, List.set_cons_zero, List.set_cons_succ]
              refine any_take 8 (some 72) (.pointer (some ⟨p, 0, none⟩)) rfl rfl (by kernel_rfl) (by kernel_rfl) (by kernel_rfl) (fun _ _ _ h => h) (.inl ⟨by kernel_rfl, fun _ _ => by kernel_rfl⟩) (by assumption) ?_
              simp only [Act.put, List.setIfInBounds_toArray, List.set_cons_zero, List.set_cons_succ]
              refine any_take 9 (some 73) (.pointer (some ⟨p, 23, none⟩)) rfl rfl (by kernel_rfl) (by kernel_rfl) (by kernel_rfl) (fun _ _ _ h => h) (.inl ⟨by kernel_rfl, fun _ _ => by kernel_rfl⟩) (by assumption) ?_
              simp only [Act.put, List.setIfInBounds_toArray, List.set_cons_zero, List.set_cons_succ]
              refine any_take 10 (some 74) (.int .i64 h) rfl rfl (by kernel_rfl) (by kernel_rfl) (by kernel_rfl) (fun _ _ _ h => h) (yld_cell (by kernel_rfl) 3 (.tmp 73) rfl p 23 (by kernel_rfl) _ _ (fun _ h => keep_blk h t7.blk (by simp)) _ Ybaf.underlying3 rfl _ rfl) (by assumption) ?_
              simp only [Act.put, List.setIfInBounds_toArray, List.set_cons_zero, List.set_cons_succ]
              refine any_take 11 (some 75) (.bool false) rfl rfl (by kernel_rfl) (by kernel_rfl) (by kernel_rfl) (fun _ _ _ h => h) (.inl ⟨by kernel_rfl, fun w' _ => (exec_lss3 (.tmp 70) (.tmp 74) rfl n h (by kernel_rfl) (by kernel_rfl)).trans (by simp [hB])⟩) (by assumption) ?_
              simp only [Act.put, List.setIfInBounds_toArray, List.set_cons_zero, List.set_cons_succ]
              refine any_take 12 (some 15) (.bool false) rfl rfl (by kernel_rfl) (by kernel_rfl) (by kernel_rfl) (fun _ _ _ h => h) (.inl ⟨by kernel_rfl, fun _ _ => by kernel_rfl⟩) (by assumption) ?_
              simp only [Act.put, List.setIfInBounds_toArray, List.set_cons_zero, List.set_cons_succ]
              refine any_take 13 (some 16) (.bool false) rfl rfl (by kernel_rfl) (by kernel_rfl) (by kernel_rfl) (fun _ _ _ h => h) (.inl ⟨by kernel_rfl, fun _ _ => by kernel_rfl⟩) (by assumption) ?_
              simp only [Act.put, List.setIfInBounds_toArray, List.set_cons_zero, List.set_cons_succ]
              refine wpAnyH_done (by kernel_rfl) ?_ _
              clear hS
              go_upto_region 13 with fail
              refine wp_region_held (S := Gr { u7 with drawn := u7.drawn + 1 }) (by kernel_rfl) ?_
              have gu8 : w.grownBy { u7 with drawn := u7.drawn + 1 } none := grown_trans gu7 (grown_drew u7)
              generalize ({ u7 with drawn := u7.drawn + 1 } : World) = u8 at *
              have hS := Gr.refl u8
              have t8 := t.kept gu8
              clear t7
              refine any_take 0 (some 76) (.bool false) rfl rfl (by kernel_rfl) (by kernel_rfl) (by kernel_rfl) (fun _ _ _ h => h) (.inl ⟨by kernel_rfl, fun _ _ => by kernel_rfl⟩) (by assumption) ?_
              simp only [Act.put, List.setIfInBounds_toArray, List.set_cons_zero, List.set_cons_succ]
              refine any_take 1 (some 77) (.bool false) rfl rfl (by kernel_rfl) (by kernel_rfl) (by kernel_rfl) (fun _ _ _ h => h) (.inl ⟨by kernel_rfl, fun _ _ => by kernel_rfl⟩) (by assumption) ?_
              simp only [Act.put, List.setIfInBounds_toArray, List.set_cons_zero, List.set_cons_succ]
              refine any_take 2 (some 78) (.int .i64 n) rfl rfl (by kernel_rfl) (by kernel_rfl) (by kernel_rfl) (fun _ _ _ h => h) (.inl ⟨by kernel_rfl, fun _ _ => by kernel_rfl⟩) (by assumption) ?_
              simp only [Act.put, List.setIfInBounds_toArray, List.set_cons_zero, List.set_cons_succ]
              refine any_take 3 (some 79) (.pointer (some ⟨p, 0, none⟩)) rfl rfl (by kernel_rfl) (by kernel_rfl) (by kernel_rfl) (fun _ _ _ h => h) (.inl ⟨by kernel_rfl, fun _ _ => by kernel_rfl⟩) (by assumption) ?_
              simp only [Act.put, List.setIfInBounds_toArray, List.set_cons_zero, List.set_cons_succ]
              refine any_take 4 (some 80) (.pointer (some ⟨p, 0, none⟩)) rfl rfl (by kernel_rfl) (by kernel_rfl) (by kernel_rfl) (fun _ _ _ h => h) (.inl ⟨by kernel_rfl, fun _ _ => by kernel_rfl⟩) (by assumption) ?_
              simp only [Act.put, List.setIfInBounds_toArray, List.set_cons_zero, List.set_cons_succ]
              refine any_take 5 (some 81) (.pointer (some ⟨p, 23, none⟩)) rfl rfl (by kernel_rfl) (by kernel_rfl) (by kernel_rfl) (fun _ _ _ h => h) (.inl ⟨by kernel_rfl, fun _ _ => by kernel_rfl⟩) (by assumption) ?_
              simp only [Act.put, List.setIfInBounds_toArray, List.set_cons_zero, List.set_cons_succ]
              refine any_take 6 (some 82) (.int .i64 h) rfl rfl (by kernel_rfl) (by kernel_rfl) (by kernel_rfl) (fun _ _ _ h => h) (yld_cell (by kernel_rfl) 3 (.tmp 81) rfl p 23 (by kernel_rfl) _ _ (fun _ h => keep_blk h t8.blk (by simp)) _ Ybaf.underlying3 rfl _ rfl) (by assumption) ?_
              simp only [Act.put, List.setIfInBounds_toArray, List.set_cons_zero, List.set_cons_succ]
              refine any_take 7 (some 83) (.int .i64 (h - 1)) rfl rfl (by kernel_rfl) (by kernel_rfl) (by kernel_rfl) (fun _ _ _ h => h) (.inl ⟨by kernel_rfl, fun w' _ => exec_sub3 (.tmp 82) (.const (.int .i64 1)) rfl h 1 (by omega) (by omega) (by kernel_rfl) (by kernel_rfl)⟩) (by assumption) ?_
              simp only [Act.put, List.setIfInBounds_toArray, List.set_cons_zero, List.set_cons_succ]
              refine any_take 8 (some 84) (.bool (decide (n < h - 1))) rfl rfl (by kernel_rfl) (by kernel_rfl) (by kernel_rfl) (fun _ _ _ h => h) (.inl ⟨by kernel_rfl, fun w' _ => exec_lss3 (.tmp 78) (.tmp 83) rfl n (h - 1) (by kernel_rfl) (by kernel_rfl)⟩) (by assumption) ?_
              simp only [Act.put, List.setIfInBounds_toArray, List.set_cons_zero, List.set_cons_succ]
              refine any_take 9 (some 85) (.bool (decide (n < h - 1))) rfl rfl (by kernel_rfl) (by kernel_rfl) (by kernel_rfl) (fun _ _ _ h => h) (.inl ⟨by kernel_rfl, fun _ _ => by kernel_rfl⟩) (by assumption) ?_
              simp only [Act.put, List.setIfInBounds_toArray, List.set_cons_zero, List.set_cons_succ]
              refine any_take 10 (some 86) (.bool false) rfl rfl (by kernel_rfl) (by kernel_rfl) (by kernel_rfl) (fun _ _ _ h => h) (.inl ⟨by kernel_rfl, fun _ _ => by kernel_rfl⟩) (by assumption) ?_
              simp only [Act.put, List.setIfInBounds_toArray, List.set_cons_zero, List.set_cons_succ]
              refine any_take 11 (some 87) (.bool false) rfl rfl (by kernel_rfl) (by kernel_rfl) (by kernel_rfl) (fun _ _ _ h => h) (.inl ⟨by kernel_rfl, fun _ _ => by kernel_rfl⟩) (by assumption) ?_
              simp only [Act.put, List.setIfInBounds_toArray, List.set_cons_zero, List.set_cons_succ]
              refine any_take 12 (some 88) (.int .i64 (r : Nat)) rfl rfl (by kernel_rfl) (by kernel_rfl) (by kernel_rfl) (fun _ _ _ h => h) (.inl ⟨by kernel_rfl, fun _ _ => by kernel_rfl⟩) (by assumption) ?_
              simp only [Act.put, List.setIfInBounds_toArray, List.set_cons_zero, List.set_cons_succ]
              refine any_take 13 (some 89) (.pointer (some ⟨p, 0, none⟩)) rfl rfl (by kernel_rfl) (by kernel_rfl) (by kernel_rfl) (fun _ _ _ h => h) (.inl ⟨by kernel_rfl, fun _ _ => by kernel_rfl⟩) (by assumption) ?_
              simp only [Act.put, List.setIfInBounds_toArray, List.set_cons_zero, List.set_cons_succ]
              refine any_take 14 (some 90) (.pointer (some ⟨p, 0, none⟩)) rfl rfl (by kernel_rfl) (by kernel_rfl) (by kernel_rfl) (fun _ _ _ h => h) (.inl ⟨by kernel_rfl, fun _ _ => by kernel_rfl⟩) (by assumption) ?_
              simp only [Act.put, List.setIfInBounds_toArray, List.set_cons_zero, List.set_cons_succ]
              refine any_take 15 (some 91) (.pointer (some ⟨p, 23, none⟩)) rfl rfl (by kernel_rfl) (by kernel_rfl) (by kernel_rfl) (fun _ _ _ h => h) (.inl ⟨by kernel_rfl, fun _ _ => by kernel_rfl⟩) (by assumption) ?_
              simp only [Act.put, List.setIfInBounds_toArray, List.set_cons_zero, List.set_cons_succ]
              refine any_take 16 (some 92) (.int .i64 h) rfl rfl (by kernel_rfl) (by kernel_rfl) (by kernel_rfl) (fun _ _ _ h => h) (yld_cell (by kernel_rfl) 3 (.tmp 91) rfl p 23 (by kernel_rfl) _ _ (fun _ h => keep_blk h t8.blk (by simp)) _ Ybaf.underlying3 rfl _ rfl) (by assumption) ?_
              simp only [Act.put, List.setIfInBounds_toArray, List.set_cons_zero, List.set_cons_succ]
              refine any_take 17 (some 93) (.int .i64 (h - 1)) rfl rfl (by kernel_rfl) (by kernel_rfl) (by kernel_rfl) (fun _ _ _ h => h) (.inl ⟨by kernel_rfl, fun w' _ => exec_sub3 (.tmp 92) (.const (.int .i64 1)) rfl h 1 (by omega) (by omega) (by kernel_rfl) (by kernel_rfl)⟩) (by assumption) ?_
              simp only [Act.put, List.setIfInBounds_toArray, List.set_cons_zero, List.set_cons_succ]
              refine any_take 18 (some 94) (.bool (decide ((r : Int) < h - 1))) rfl rfl (by kernel_rfl) (by kernel_rfl) (by kernel_rfl) (fun _ _ _ h => h) (.inl ⟨by kernel_rfl, fun w' _ => exec_lss3 (.tmp 88) (.tmp 93) rfl (r : Int) (h - 1) (by kernel_rfl) (by kernel_rfl)⟩) (by assumption) ?_
              simp only [Act.put, List.setIfInBounds_toArray, List.set_cons_zero, List.set_cons_succ]
              refine any_take 19 (some 95) (.bool (decide ((r : Int) < h - 1))) rfl rfl (by kernel_rfl) (by kernel_rfl) (by kernel_rfl) (fun _ _ _ h => h) (.inl ⟨by kernel_rfl, fun _ _ => by kernel_rfl⟩) (by assumption) ?_
              simp only [Act.put, List.setIfInBounds_toArray, List.set_cons_zero, List.set_cons_succ]
              refine any_take 20 (some 6) (.bool (decide (n < h - 1))) rfl rfl (by kernel_rfl) (by kernel_rfl) (by kernel_rfl) (fun _ _ _ h => h) (.inl ⟨by kernel_rfl, fun _ _ => by kernel_rfl⟩) (by assumption) ?_
              simp only [Act.put, List.setIfInBounds_toArray, List.set_cons_zero, List.set_cons_succ]
              refine any_take 21 (some 7) (.bool (decide ((r : Int) < h - 1))) rfl rfl (by kernel_rfl) (by kernel_rfl) (by kernel_rfl) (fun _ _ _ h => h) (.inl ⟨by kernel_rfl, fun _ _ => by kernel_rfl⟩) (by assumption) ?_
              simp only [Act.put, List.setIfInBounds_toArray, List.set_cons_zero, List.set_cons_succ]
              refine wpAnyH_done (by kernel_rfl) ?_ _
              clear hS
              have e1 : A = ((decide (n < h - 1)), (decide ((r : Int) < h - 1))) := by rw [EA2.out]; simp [onCw, onCc, hA, hB]
              clear hA hB
              go_wp2_with fail
              refine bodyPost_ret (v := .tuple #[.bool (decide (n < h - 1)), .bool (decide ((r : Int) < h - 1))]) (by kernel_rfl) rfl ⟨by rw [e1], gu8⟩
        · have hd : decide (x ∈ ids) = false := by simp [hm]
          rw [if_neg hm] at hnc
          have hnb : (ids.length : Int) - (r : Int) = n := by omega
          have b1 : -9223372036854775808 ≤ (ids.length : Int) - (r : Int) := by omega
          have b2 : (ids.length : Int) - (r : Int) < 9223372036854775808 := by omega
          have HN : Aside ((ids.length : Int) - (r : Int) = n) := hnb
          rw [hd]
          clear hd hm hnc hnb
          go_upto_region 12 with (first
            | (refine wpList_is (.load 27 (.tmp 56)) rfl ?_; refine wpList_load_cell rfl 27 (.tmp 56) rfl p 24 rfl _ _ t6.blk _ Ybaf.underlying27 rfl _ rfl ?_)
            | (refine wpList_is (.binOp .sub 3 (.tmp 58) (.tmp 59) 3) rfl ?_; refine wpList_exec rfl (.int .i64 n) (HN.out ▸ exec_sub3 (.tmp 58) (.tmp 59) rfl (ids.length : Int) (r : Int) b1 b2 rfl rfl) ?_))
          clear b1 b2 HN
          go_upto_region 12 with fail
          refine wp_region_held (S := Gr { u6 with drawn := u6.drawn + 1 }) (by kernel_rfl) ?_
          have gu7 : w.grownBy { u6 with drawn := u6.drawn + 1 } none := grown_trans gu6 (grown_drew u6)
          generalize ({ u6 with drawn := u6.drawn + 1 } : World) = u7 at *
          have hS := Gr.refl u7
          have t7 := t.kept gu7
          clear t6
          by_cases hA : (r : Int) < h
          · by_cases hB : n < h
            · refine any_take 0 (some 64) (.int .i64 (r : Nat)) rfl rfl (by kernel_rfl) (by kernel_rfl) (by kernel_rfl) (fun _ _ _ h => h) (.inl ⟨by kernel_rfl, fun _ _ => by kernel_rfl⟩) (by assumption) ?_
              simp only [Act.put, List.setIfInBounds_toArray, List.set_cons_zero, List.set_cons_succ]
              refine any_take 1 (some 65) (.pointer (some ⟨p, 0, none⟩)) rfl rfl (by kernel_rfl) (by kernel_rfl) (by kernel_rfl) (fun _ _ _ h => h) (.inl ⟨by kernel_rfl, fun _ _ => by kernel_rfl⟩) (by assumption) ?_
              simp only [Act.put, List.setIfInBounds_toArray, List.set_cons_zero, List.set_cons_succ]
              refine any_take 2 (some 66) (.pointer (some ⟨p, 0, none⟩)) rfl rfl (by kernel_rfl) (by kernel_rfl) (by kernel_rfl) (fun _ _ _ h => h) (.inl ⟨by kernel_rfl, fun _ _ => by kernel_rfl⟩) (by assumption) ?_
              simp only [Act.put, List.setIfInBounds_toArray, List.set_cons_zero, List.set_cons_succ]
              refine any_take 3 (some 67) (.pointer (some ⟨p, 23, none⟩)) rfl rfl (by kernel_rfl) (by kernel_rfl) (by kernel_rfl) (fun _ _ _ h => h) (.inl ⟨by kernel_rfl, fun _ _ => by kernel_rfl⟩) (by assumption) ?_
              simp only [Act.put, List.setIfInBounds_toArray, List.set_cons_zero, List.set_cons_succ]
              refine any_take 4 (some 68) (.int .i64 h) rfl rfl (by kernel_rfl) (by kernel_rfl) (by kernel_rfl) (fun _ _ _ h => h) (yld_cell (by kernel_rfl) 3 (.tmp 67) rfl p 23 (by kernel_rfl) _ _ (fun _ h => keep_blk h t7.blk (by simp)) _ Ybaf.underlying3 rfl _ rfl) (by assumption) ?_
              simp only [Act.put, List.setIfInBounds_toArray, List.set_cons_zero, List.set_cons_succ]
              refine any_take 5 (some 69) (.bool true) rfl rfl (by kernel_rfl) (by kernel_rfl) (by kernel_rfl) (fun _ _ _ h => h) (.inl ⟨by kernel_rfl, fun w' _ => (exec_lss3 (.tmp 64) (.tmp 68) rfl (r : Int) h (by kernel_rfl) (by kernel_rfl)).trans (by simp [hA])⟩) (by assumption) ?_
              simp only [Act.put, List.setIfInBounds_toArray, List.set_cons_zero, List.set_cons_succ]
              refine any_take 6 (some 70) (.int .i64 n) rfl rfl (by kernel_rfl) (by kernel_rfl) (by kernel_rfl) (fun _ _ _ h => h) (.inl ⟨by kernel_rfl, fun _ _ => by kernel_rfl⟩) (by assumption) ?_
              simp only [Act.put, List.setIfInBounds_toArray, List.set_cons_zero, List.set_cons_succ]
              refine any_take 7 (some 71) (.pointer (some ⟨p, 0, none⟩)) rfl rfl (by kernel_rfl) (by kernel_rfl) (by kernel_rfl) (fun _ _ _ h => h) (.inl ⟨by kernel_rfl, fun _ _ => by kernel_rfl⟩) (by assumption) ?_
              simp only [Act.put, List.setIfInBounds_toArray, List.set_cons_zero, List.set_cons_succ]
              refine any_take 8 (some 72) (.pointer (some ⟨p, 0, none⟩)) rfl rfl (by kernel_rfl) (by kernel_rfl) (by kernel_rfl) (fun _ _ _ h => h) (.inl ⟨by kernel_rfl, fun _ _ => by kernel_rfl⟩) (by assumption) ?_
              simp only [Act.put, List.setIfInBounds_toArray, List.set_cons_zero, List.set_cons_succ]
              refine any_take 9 (some 73) (.pointer (some ⟨p, 23, none⟩)) rfl rfl (by kernel_rfl) (by kernel_rfl) (by kernel_rfl) (fun _ _ _ h => h) (.inl ⟨by kernel_rfl, fun _ _ => by kernel_rfl⟩) (by assumption) ?_
              simp only [Act.put, List.setIfInBounds_toArray, List.set_cons_zero, List.set_cons_succ]
              refine any_take 10 (some 74) (.int .i64 h) rfl rfl (by kernel_rfl) (by kernel_rfl) (by kernel_rfl) (fun _ _ _ h => h) (yld_cell (by kernel_rfl) 3 (.tmp 73) rfl p 23 (by kernel_rfl) _ _ (fun _ h => keep_blk h t7.blk (by simp)) _ Ybaf.underlying3 rfl _ rfl) (by assumption) ?_
              simp only [Act.put, List.setIfInBounds_toArray, List.set_cons_zero, List.set_cons_succ]
              refine any_take 11 (some 75) (.bool true) rfl rfl (by kernel_rfl) (by kernel_rfl) (by kernel_rfl) (fun _ _ _ h => h) (.inl ⟨by kernel_rfl, fun w' _ => (exec_lss3 (.tmp 70) (.tmp 74) rfl n h (by kernel_rfl) (by kernel_rfl)).trans (by simp [hB])⟩) (by assumption) ?_
              simp only [Act.put, List.setIfInBounds_toArray, List.set_cons_zero, List.set_cons_succ]
              refine any_take 12 (some 15) (.bool true) rfl rfl (by kernel_rfl) (by kernel_rfl) (by kernel_rfl) (fun _ _ _ h => h) (.inl ⟨by kernel_rfl, fun _ _ => by kernel_rfl⟩) (by assumption) ?_
              simp only [Act.put, List.setIfInBounds_toArray, List.set_cons_zero, List.set_cons_succ]
              refine any_take 13 (some 16) (.bool true) rfl rfl (by kernel_rfl) (by kernel_rfl) (by kernel_rfl) (fun _ _ _ h => h) (.inl ⟨by kernel_rfl, fun _ _ => by kernel_rfl⟩) (by assumption) ?_
              simp only [Act.put, List.setIfInBounds_toArray, List.set_cons_zero, List.set_cons_succ]
              refine wpAnyH_done (by kernel_rfl) ?_ _
              clear hS
              go_upto_region 13 with fail
              refine wp_region_held (S := Gr { u7 with drawn := u7.drawn + 1 }) (by kernel_rfl) ?_
              have gu8 : w.grownBy { u7 with drawn := u7.drawn + 1 } none := grown_trans gu7 (grown_drew u7)
              generalize ({ u7 with drawn := u7.drawn + 1 } : World) = u8 at *
              have hS := Gr.refl u8
              have t8 := t.kept gu8
              clear t7
              refine any_take 0 (some 76) (.bool true) rfl rfl (by kernel_rfl) (by kernel_rfl) (by kernel_rfl) (fun _ _ _ h => h) (.inl ⟨by kernel_rfl, fun _ _ => by kernel_rfl⟩) (by assumption) ?_
              simp only [Act.put, List.setIfInBounds_toArray, List.set_cons_zero, List.set_cons_succ]
              refine any_take 1 (some 77) (.bool true) rfl rfl (by kernel_rfl) (by kernel_rfl) (by kernel_rfl) (fun _ _ _ h => h) (.inl ⟨by kernel_rfl, fun _ _ => by kernel_rfl⟩) (by assumption) ?_
              simp only [Act.put, List.setIfInBounds_toArray, List.set_cons_zero, List.set_cons_succ]
              refine any_take 2 (some 78) undef rfl rfl (by kernel_rfl) (by kernel_rfl) (by kernel_rfl) (fun _ _ _ h => h) (.inr ⟨by kernel_rfl, rfl⟩) (by assumption) ?_
              simp only [Act.put, List.setIfInBounds_toArray, List.set_cons_zero, List.set_cons_succ]
              refine any_take 3 (some 79) undef rfl rfl (by kernel_rfl) (by kernel_rfl) (by kernel_rfl) (fun _ _ _ h => h) (.inr ⟨by kernel_rfl, rfl⟩) (by assumption) ?_
              simp only [Act.put, List.setIfInBounds_toArray, List.set_cons_zero, List.set_cons_succ]
              refine any_take 4 (some 80) undef rfl rfl (by kernel_rfl) (by kernel_rfl) (by kernel_rfl) (fun _ _ _ h => h) (.inr ⟨by kernel_rfl, rfl⟩) (by assumption) ?_
              simp only [Act.put, List.setIfInBounds_toArray, List.set_cons_zero, List.set_cons_succ]
              refine any_take 5 (some 81) undef rfl rfl (by kernel_rfl) (by kernel_rfl) (by kernel_rfl) (fun _ _ _ h => h) (.inr ⟨by kernel_rfl, rfl⟩) (by assumption) ?_
              simp only [Act.put, List.setIfInBounds_toArray, List.set_cons_zero, List.set_cons_succ]
              refine any_take 6 (some 82) undef rfl rfl (by kernel_rfl) (by kernel_rfl) (by kernel_rfl) (fun _ _ _ h => h) (.inr ⟨by kernel_rfl, rfl⟩) (by assumption) ?_
              simp only [Act.put, List.setIfInBounds_toArray, List.set_cons_zero, List.set_cons_succ]
              refine any_take 7 (some 83) undef rfl rfl (by kernel_rfl) (by kernel_rfl) (by kernel_rfl) (fun _ _ _ h => h) (.inr ⟨by kernel_rfl, rfl⟩) (by assumption) ?_
              simp only [Act.put, List.setIfInBounds_toArray, List.set_cons_zero, List.set_cons_succ]
              refine any_take 8 (some 84) undef rfl rfl (by kernel_rfl) (by kernel_rfl) (by kernel_rfl) (fun _ _ _ h => h) (.inr ⟨by kernel_rfl, rfl⟩) (by assumption) ?_
              simp only [Act.put, List.setIfInBounds_toArray, List.set_cons_zero, List.set_cons_succ]
              refine any_take 9 (some 85) (.bool true) rfl rfl (by kernel_rfl) (by kernel_rfl) (by kernel_rfl) (fun _ _ _ h => h) (.inl ⟨by kernel_rfl, fun _ _ => by kernel_rfl⟩) (by assumption) ?_
              simp only [Act.put, List.setIfInBounds_toArray, List.set_cons_zero, List.set_cons_succ]
              refine any_take 10 (some 86) (.bool true) rfl rfl (by kernel_rfl) (by kernel_rfl) (by kernel_rfl) (fun _ _ _ h => h) (.inl ⟨by kernel_rfl, fun _ _ => by kernel_rfl⟩) (by assumption) ?_
              simp only [Act.put, List.setIfInBounds_toArray, List.set_cons_zero, List.set_cons_succ]
              refine any_take 11 (some 87) (.bool true) rfl rfl (by kernel_rfl) (by kernel_rfl) (by kernel_rfl) (fun _ _ _ h => h) (.inl ⟨by kernel_rfl, fun _ _ => by kernel_rfl⟩) (by assumption) ?_
              simp only [Act.put, List.setIfInBounds_toArray, List.set_cons_zero, List.set_cons_succ]
              refine any_take 12 (some 88) undef rfl rfl (by kernel_rfl) (by kernel_rfl) (by kernel_rfl) (fun _ _ _ h => h) (.inr ⟨by kernel_rfl, rfl⟩) (by assumption) ?_
              simp only [Act.put, List.setIfInBounds_toArray, List.set_cons_zero, List.set_cons_succ]
              refine any_take 13 (some 89) undef rfl rfl (by kernel_rfl) (by kernel_rfl) (by kernel_rfl) (fun _ _ _ h => h) (.inr ⟨by kernel_rfl, rfl⟩) (by assumption) ?_
              simp only [Act.put, List.setIfInBounds_toArray, List.set_cons_zero, List.set_cons_succ]
              refine any_take 14 (some 90) undef rfl rfl (by kernel_rfl) (by kernel_rfl) (by kernel_rfl) (fun _ _ _ h => h) (.inr ⟨by kernel_rfl, rfl⟩) (by assumption) ?_
              simp only [Act.put, List.setIfInBounds_toArray, List.set_cons_zero, List.set_cons_succ]
              refine any_take 15 (some 91) undef rfl rfl (by kernel_rfl) (by kernel_rfl) (by kernel_rfl) (fun _ _ _ h => h) (.inr ⟨by kernel_rfl, rfl⟩) (by assumption) ?_
              simp only [Act.put, List.setIfInBounds_toArray, List.set_cons_zero, List.set_cons_succ]
              refine any_take 16 (some 92) undef rfl rfl (by kernel_rfl) (by kernel_rfl) (by kernel_rfl) (fun _ _ _ h => h) (.inr ⟨by kernel_rfl, rfl⟩) (by assumption) ?_
              simp only [Act.put, List.setIfInBounds_toArray, List.set_cons_zero, List.set_cons_succ]
              refine any_take 17 (some 93) undef rfl rfl (by kernel_rfl) (by kernel_rfl) (by kernel_rfl) (fun _ _ _ h => h) (.inr ⟨by kernel_rfl, rfl⟩) (by assumption) ?_
              simp only [Act.put, List.setIfInBounds_toArray, List.set_cons_zero, List.set_cons_succ]
              refine any_take 18 (some 94) undef rfl rfl (by kernel_rfl) (by kernel_rfl) (by kernel_rfl) (fun _ _ _ h => h) (.inr ⟨by kernel_rfl, rfl⟩) (by assumption) ?_
              simp only [Act.put, List.setIfInBounds_toArray, List.set_cons_zero, List.set_cons_succ]
              refine any_take 19 (some 95) (.bool true) rfl rfl (by kernel_rfl) (by kernel_rfl) (by kernel_rfl) (fun _ _ _ h => h) (.inl ⟨by kernel_rfl, fun _ _ => by kernel_rfl⟩) (by assumption) ?_
              simp only [Act.put, List.setIfInBounds_toArray, List.set_cons_zero, List.set_cons_succ]
              refine any_take 20 (some 6) (.bool true) rfl rfl (by kernel_rfl) (by kernel_rfl) (by kernel_rfl) (fun _ _ _ h => h) (.inl ⟨by kernel_rfl, fun _ _ => by kernel_rfl⟩) (by assumption) ?_
              simp only [Act.put, List.setIfInBounds_toArray, List.set_cons_zero, List.set_cons_succ]
              refine any_take 21 (some 7) (.bool true) rfl rfl (by kernel_rfl) (by kernel_rfl) (by kernel_rfl) (fun _ _ _ h => h) (.inl ⟨by kernel_rfl, fun _ _ => by kernel_rfl⟩) (by assumption) ?_
              simp only [Act.put, List.setIfInBounds_toArray, List.set_cons_zero, List.set_cons_succ]
              refine wpAnyH_done (by kernel_rfl) ?_ _
              clear hS
              have e1 : A = (true, true) := by rw [EA2.out]; simp [onCw, onCc, hA, hB]
              clear hA hB
              go_wp2_with fail
              refine bodyPost_ret (v := .tuple #[.bool true, .bool true]) (by kernel_rfl) rfl ⟨by rw [e1], gu8⟩
            · refine any_take 0 (some 64) (.int .i64 (r : Nat)) rfl rfl (by kernel_rfl) (by kernel_rfl) (by kernel_rfl) (fun _ _ _ h => h) (.inl ⟨by kernel_rfl, fun _ _ => by kernel_rfl⟩) (by assumption) ?_
              simp only [Act.put, List.setIfInBounds_toArray, List.set_cons_zero, List.set_cons_succ]
              refine any_take 1 (some 65) (.pointer (some ⟨p, 0, none⟩)) rfl rfl (by kernel_rfl) (by kernel_rfl) (by kernel_rfl) (fun _ _ _ h => h) (.inl ⟨by kernel_rfl, fun _ _ => by kernel_rfl⟩) (by assumption) ?_
              simp only [Act.put, List.setIfInBounds_toArray, List.set_cons_zero, List.set_cons_succ]
              refine any_take 2 (some 66) (.pointer (some ⟨p, 0, none⟩)) rfl rfl (by kernel_rfl) (by kernel_rfl) (by kernel_rfl) (fun _ _ _ h => h) (.inl ⟨by kernel_rfl, fun _ _ => by kernel_rfl⟩) (by assumption) ?_
              simp only [Act.put, List.setIfInBounds_toArray, List.set_cons_zero, List.set_cons_succ]
              refine any_take 3 (some 67) (.pointer (some ⟨p, 23, none⟩)) rfl rfl (by kernel_rfl) (by kernel_rfl) (by kernel_rfl) (fun _ _ _ h => h) (.inl ⟨by kernel_rfl, fun _ _ => by kernel_rfl⟩) (by assumption) ?_
              simp only [Act.put, List.setIfInBounds_toArray, List.set_cons_zero, List.set_cons_succ]
              refine any_take 4 (some 68) (.int .i64 h) rfl rfl (by kernel_rfl) (by kernel_rfl) (by kernel_rfl) (fun _ _ _ h => h) (yld_cell (by kernel_rfl) 3 (.tmp 67) rfl p 23 (by kernel_rfl) _ _ (fun _ h => keep_blk h t7.blk (by simp)) _ Ybaf.underlying3 rfl _ rfl) (by assumption) ?_
              simp only [Act.put, List.setIfInBounds_toArray, List.set_cons_zero, List.set_cons_succ]
              refine any_take 5 (some 69) (.bool true) rfl rfl (by kernel_rfl) (by kernel_rfl) (by kernel_rfl) (fun _ _ _ h => h) (.inl ⟨by kernel_rfl, fun w' _ => (exec_lss3 (.tmp 64) (.tmp 68) rfl (r : Int) h (by kernel_rfl) (by kernel_rfl)).trans (by simp [hA])⟩) (by assumption) ?_
              simp only [Act.put, List.setIfInBounds_toArray, List.set_cons_zero, List.set_cons_succ]
              refine any_take 6 (some 70) (.int .i64 n) rfl rfl (by kernel_rfl) (by kernel_rfl) (by kernel_rfl) (fun _ _ _ h => h) (.inl ⟨by kernel_rfl, fun _ _ => by kernel_rfl⟩) (by assumption) ?_
              simp only [Act.put, List.setIfInBounds_toArray, List.set_cons_zero, List.set_cons_succ]
              refine any_take 7 (some 71) (.pointer (some ⟨p, 0, none⟩)) rfl rfl (by kernel_rfl) (by kernel_rfl) (by kernel_rfl) (fun _ _ _ h => h) (.inl ⟨by kernel_rfl, fun _ _ => by kernel_rfl⟩) (by assumption) ?_
              simp only [Act.put, List.setIfInBounds_toArray, List.set_cons_zero, List.set_cons_succ]
              refine any_take 8 (some 72) (.pointer (some ⟨p, 0, none⟩)) rfl rfl (by kernel_rfl) (by kernel_rfl) (by kernel_rfl) (fun _ _ _ h => h) (.inl ⟨by kernel_rfl, fun _ _ => by kernel_rfl⟩) (by assumption) ?_
              simp only [Act.put, List.setIfInBounds_toArray, List.set_cons_zero, List.set_cons_succ]
              refine any_take 9 (some 73) (.pointer (some ⟨p, 23, none⟩)) rfl rfl (by kernel_rfl) (by kernel_rfl) (by kernel_rfl) (fun _ _ _ h => h) (.inl ⟨by kernel_rfl, fun _ _ => by kernel_rfl⟩) (by assumption) ?_
              simp only [Act.put, List.setIfInBounds_toArray, List.set_cons_zero, List.set_cons_succ]
              refine any_take 10 (some 74) (.int .i64 h) rfl rfl (by kernel_rfl) (by kernel_rfl) (by kernel_rfl) (fun _ _ _ h => h) (yld_cell (by kernel_rfl) 3 (.tmp 73) rfl p 23 (by kernel_rfl) _ _ (fun _ h => keep_blk h t7.blk (by simp)) _ Ybaf.underlying3 rfl _ rfl) (by assumption) ?_
              simp only [Act.put, List.setIfInBounds_toArray, List.set_cons_zero, List.set_cons_succ]
              refine any_take 11 (some 75) (.bool false) rfl rfl (by kernel_rfl) (by kernel_rfl) (by kernel_rfl) (fun _ _ _ h => h) (.inl ⟨by kernel_rfl, fun w' _ => (exec_lss3 (.tmp 70) (.tmp 74) rfl n h (by kernel_rfl) (by kernel_rfl)).trans (by simp [hB])⟩) (by assumption) ?_
              simp only [Act.put, List.setIfInBounds_toArray, List.set_cons_zero, List.set_cons_succ]
              refine any_take 12 (some 15) (.bool true) rfl rfl (by kernel_rfl) (by kernel_rfl) (by kernel_rfl) (fun _ _ _ h => h) (.inl ⟨by kernel_rfl, fun _ _ => by kernel_rfl⟩) (by assumption) ?_
              simp only [Act.put, List.setIfInBounds_toArray, List.set_cons_zero, List.set_cons_succ]
              refine any_take 13 (some 16) (.bool false) rfl rfl (by kernel_rfl) (by kernel_rfl) (by kernel_rfl) (fun _ _ _ h => h) (.inl ⟨by kernel_rfl, fun _ _ => by kernel_rfl⟩) (by assumption) ?_
              simp only [Act.put, List.setIfInBounds_toArray, List.set_cons_zero, List.set_cons_succ]
              refine wpAnyH_done (by kernel_rfl) ?_ _
              clear hS
              go_upto_region 13 with fail
              refine wp_region_held (S := Gr { u7 with drawn := u7.drawn + 1 }) (by kernel_rfl) ?_
              have gu8 : w.grownBy { u7 with drawn := u7.drawn + 1 } none := grown_trans gu7 (grown_drew u7)
              generalize ({ u7 with drawn := u7.drawn + 1 } : World) = u8 at *
              have hS := Gr.refl u8
              have t8 := t.kept gu8
              clear t7
              refine any_take 0 (some 76) (.bool true) rfl rfl (by kernel_rfl) (by kernel_rfl) (by kernel_rfl) (fun _ _ _ h => h) (.inl ⟨by kernel_rfl, fun _ _ => by kernel_rfl⟩) (by assumption) ?_
              simp only [Act.put, List.setIfInBounds_toArray, List.set_cons_zero, List.set_cons_succ]
              refine any_take 1 (some 77) (.bool true) rfl rfl (by kernel_rfl) (by kernel_rfl) (by kernel_rfl) (fun _ _ _ h => h) (.inl ⟨by kernel_rfl, fun _ _ => by kernel_rfl⟩) (by assumption) ?_
              simp only [Act.put, List.setIfInBounds_toArray, List.set_cons_zero, List.set_cons_succ]
              refine any_take 2 (some 78) undef rfl rfl (by kernel_rfl) (by kernel_rfl) (by kernel_rfl) (fun _ _ _ h => h) (.inr ⟨by kernel_rfl, rfl⟩) (by assumption) ?_
              simp only [Act.put, List.setIfInBounds_toArray, List.set_cons_zero, List.set_cons_succ]
              refine any_take 3 (some 79) undef rfl rfl (by kernel_rfl) (by kernel_rfl) (by kernel_rfl) (fun _ _ _ h => h) (.inr ⟨by kernel_rfl, rfl⟩) (by assumption) ?_
              simp only [Act.put, List.setIfInBounds_toArray, List.set_cons_zero, List.set_cons_succ]
              refine any_take 4 (some 80) undef rfl rfl (by kernel_rfl) (by kernel_rfl) (by kernel_rfl) (fun _ _ _ h => h) (.inr ⟨by kernel_rfl, rfl⟩) (by assumption) ?_
              simp only [Act.put, List.setIfInBounds_toArray, List.set_cons_zero, List.set_cons_succ]
              refine any_take 5 (some 81) undef rfl rfl (by kernel_rfl) (by kernel_rfl) (by kernel_rfl) (fun _ _ _ h => h) (.inr ⟨by kernel_rfl, rfl⟩) (by assumption) ?_
              simp only [Act.put, List.setIfInBounds_toArray, List.set_cons_zero, List.set_cons_succ]
              refine any_take 6 (some 82) undef rfl rfl (by kernel_rfl) (by kernel_rfl) (by kernel_rfl) (fun _ _ _ h => h) (.inr ⟨by kernel_rfl, rfl⟩) (by assumption) ?_
              simp only [Act.put, List.setIfInBounds_toArray, List.set_cons_zero, List.set_cons_succ]
              refine any_take 7 (some 83) undef rfl rfl (by kernel_rfl) (by kernel_rfl) (by kernel_rfl) (fun _ _ _ h => h) (.inr ⟨by kernel_rfl, rfl⟩) (by assumption) ?_
              simp only [Act.put, List.setIfInBounds_toArray, List.set_cons_zero, List.set_cons_succ]
              refine any_take 8 (some 84) undef rfl rfl (by kernel_rfl) (by kernel_rfl) (by kernel_rfl) (fun _ _ _ h => h) (.inr ⟨by kernel_rfl, rfl⟩) (by assumption) ?_
              simp only [Act.put, List.setIfInBounds_toArray, List.set_cons_zero, List.set_cons_succ]
              refine any_take 9 (some 85) (.bool true) rfl rfl (by kernel_rfl) (by kernel_rfl) (by kernel_rfl) (fun _ _ _ h => h) (.inl ⟨by kernel_rfl, fun _ _ => by kernel_rfl⟩) (by assumption) ?_
              simp only [Act.put, List.setIfInBounds_toArray, List.set_cons_zero, List.set_cons_succ]
              refine any_take 10 (some 86) (.bool false) rfl rfl (by kernel_rfl) (by kernel_rfl) (by kernel_rfl) (fun _ _ _ h => h) (.inl ⟨by kernel_rfl, fun _ _ => by kernel_rfl⟩) (by assumption) ?_
              simp only [Act.put, List.setIfInBounds_toArray, List.set_cons_zero, List.set_cons_succ]
              refine any_take 11 (some 87) (.bool false) rfl rfl (by kernel_rfl) (by kernel_rfl) (by kernel_rfl) (fun _ _ _ h => h) (.inl ⟨by kernel_rfl, fun _ _ => by kernel_rfl⟩) (by assumption) ?_
              simp only [Act.put, List.setIfInBounds_toArray, List.set_cons_zero, List.set_cons_succ]
              refine any_take 12 (some 88) (.int .i64 (r : Nat)) rfl rfl (by kernel_rfl) (by kernel_rfl) (by kernel_rfl) (fun _ _ _ h => h) (.inl ⟨by kernel_rfl, fun _ _ => by kernel_rfl⟩) (by assumption) ?_
              simp only [Act.put, List.setIfInBounds_toArray, List.set_cons_zero, List.set_cons_succ]
              refine any_take 13 (some 89) (.pointer (some ⟨p, 0, none⟩)) rfl rfl (by kernel_rfl) (by kernel_rfl) (by kernel_rfl) (fun _ _ _ h => h) (.inl ⟨by kernel_rfl, fun _ _ => by kernel_rfl⟩) (by assumption) ?_
              simp only [Act.put, List.setIfInBounds_toArray, List.set_cons_zero, List.set_cons_succ]
              refine any_take 14 (some 90) (.pointer (some ⟨p, 0, none⟩)) rfl rfl (by kernel_rfl) (by kernel_rfl) (by kernel_rfl) (fun _ _ _ h => h) (.inl ⟨by kernel_rfl, fun _ _ => by kernel_rfl⟩) (by assumption) ?_
              simp only [Act.put, List.setIfInBounds_toArray, List.set_cons_zero, List.set_cons_succ]
              refine any_take 15 (some 91) (.pointer (some ⟨p, 23, none⟩)) rfl rfl (by kernel_rfl) (by kernel_rfl) (by kernel_rfl) (fun _ _ _ h => h) (.inl ⟨by kernel_rfl, fun _ _ => by kernel_rfl⟩) (by assumption) ?_
              simp only [Act.put, List.setIfInBounds_toArray, List.set_cons_zero, List.set_cons_succ]
              refine any_take 16 (some 92) (.int .i64 h) rfl rfl (by kernel_rfl) (by kernel_rfl) (by kernel_rfl) (fun _ _ _ h => h) (yld_cell (by kernel_rfl) 3 (.tmp 91) rfl p 23 (by kernel_rfl) _ _ (fun _ h => keep_blk h t8.blk (by simp)) _ Ybaf.underlying3 rfl _ rfl) (by assumption) ?_
              simp only [Act.put, List.setIfInBounds_toArray, List.set_cons_zero, List.set_cons_succ]
              refine any_take 17 (some 93) (.int .i64 (h - 1)) rfl rfl (by kernel_rfl) (by kernel_rfl) (by kernel_rfl) (fun _ _ _ h => h) (.inl ⟨by kernel_rfl, fun w' _ => exec_sub3 (.tmp 92) (.const (.int .i64 1)) rfl h 1 (by omega) (by omega) (by kernel_rfl) (by kernel_rfl)⟩) (by assumption) ?_
              simp only [Act.put, List.setIfInBounds_toArray, List.set_cons_zero, List.set_cons_succ]
              refine any_take 18 (some 94) (.bool (decide ((r : Int) < h - 1))) rfl rfl (by kernel_rfl) (by kernel_rfl) (by kernel_rfl) (fun _ _ _ h => h) (.inl ⟨by kernel_rfl, fun w' _ => exec_lss3 (.tmp 88) (.tmp 93) rfl (r : Int) (h - 1) (by kernel_rfl) (by kernel_rfl)⟩) (by assumption) ?_
              simp only [Act.put, List.setIfInBounds_toArray, List.set_cons_zero, List.set_cons_succ]
              refine any_take 19 (some 95) (.bool (decide ((r : Int) < h - 1))) rfl rfl (by kernel_rfl) (by kernel_rfl) (by kernel_rfl) (fun _ _ _ h => h) (.inl ⟨by kernel_rfl, fun _ _ => by kernel_rfl⟩) (by assumption) ?_
              simp only [Act.put, List.setIfInBounds_toArray, List.set_cons_zero, List.set_cons_succ]
              refine any_take 20 (some 6) (.bool true) rfl rfl (by kernel_rfl) (by kernel_rfl) (by kernel_rfl) (fun _ _ _ h => h) (.inl ⟨by kernel_rfl, fun _ _ => by kernel_rfl⟩) (by assumption) ?_
              simp only [Act.put, List.setIfInBounds_toArray, List.set_cons_zero, List.set_cons_succ]
              refine any_take 21 (some 7) (.bool (decide ((r : Int) < h - 1))) rfl rfl (by kernel_rfl) (by kernel_rfl) (by kernel_rfl) (fun _ _ _ h => h) (.inl ⟨by kernel_rfl, fun _ _ => by kernel_rfl⟩) (by assumption) ?_
              simp only [Act.put, List.setIfInBounds_toArray, List.set_cons_zero, List.set_cons_succ]
              refine wpAnyH_done (by kernel_rfl) ?_ _
              clear hS
              have e1 : A = (true, (decide ((r : Int) < h - 1))) := by rw [EA2.out]; simp [onCw, onCc, hA, hB]
              clear hA hB
              go_wp2_with fail
              refine bodyPost_ret (v := .tuple #[.bool true, .bool (decide ((r : Int) < h - 1))]) (by kernel_rfl) rfl ⟨by rw [e1], gu8⟩
          · by_cases hB : n < h
            · refine any_take 0 (some 64) (.int .i64 (r : Nat)) rfl rfl (by kernel_rfl) (by kernel_rfl) (by kernel_rfl) (fun _ _ _ h => h) (.inl ⟨by kernel_rfl, fun _ _ => by kernel_rfl⟩) (by assumption) ?_
              simp only [Act.put, List.setIfInBounds_toArray, List.set_cons_zero, List.set_cons_succ]
              refine any_take 1 (some 65) (.pointer (some ⟨p, 0, none⟩)) rfl rfl (by kernel_rfl) (by kernel_rfl) (by kernel_rfl) (fun _ _ _ h => h) (.inl ⟨by kernel_rfl, fun _ _ => by kernel_rfl⟩) (by assumption) ?_
              simp only [Act.put, List.setIfInBounds_toArray, List.set_cons_zero, List.set_cons_succ]
              refine any_take 2 (some 66) (.pointer (some ⟨p, 0, none⟩)) rfl rfl (by kernel_rfl) (by kernel_rfl) (by kernel_rfl) (fun _ _ _ h => h) (.inl ⟨by kernel_rfl, fun _ _ => by kernel_rfl⟩) (by assumption) ?_
              simp only [Act.put, List.setIfInBounds_toArray, List.set_cons_zero, List.set_cons_succ]
              refine any_take 3 (some 67) (.pointer (some ⟨p, 23, none⟩)) rfl rfl (by kernel_rfl) (by kernel_rfl) (by kernel_rfl) (fun _ _ _ h => h) (.inl ⟨by kernel_rfl, fun _ _ => by kernel_rfl⟩) (by assumption) ?_
              simp only [Act.put, List.setIfInBounds_toArray, List.set_cons_zero, List.set_cons_succ]
              refine any_take 4 (some 68) (.int .i64 h) rfl rfl (by kernel_rfl) (by kernel_rfl) (by kernel_rfl) (fun _ _ _ h => h) (yld_cell (by kernel_rfl) 3 (.tmp 67) rfl p 23 (by kernel_rfl) _ _ (fun _ h => keep_blk h t7.blk (by simp)) _ Ybaf.underlying3 rfl _ rfl) (by assumption) ?_
              simp only [Act.put, List.setIfInBounds_toArray, List.set_cons_zero, List.set_cons_succ]
              refine any_take 5 (some 69) (.bool false) rfl rfl (by kernel_rfl) (by kernel_rfl) (by kernel_rfl) (fun _ _ _ h => h) (.inl ⟨by kernel_rfl, fun w' _ => (exec_lss3 (.tmp 64) (.tmp 68) rfl (r : Int) h (by kernel_rfl) (by kernel_rfl)).trans (by simp [hA])⟩) (by assumption) ?_
              simp only [Act.put, List.setIfInBounds_toArray, List.set_cons_zero, List.set_cons_succ]
              refine any_take 6 (some 70) (.int .i64 n) rfl rfl (by kernel_rfl) (by kernel_rfl) (by kernel_rfl) (fun _ _ _ h => h) (.inl ⟨by kernel_rfl, fun _ _ => by kernel_rfl⟩) (by assumption) ?_
              simp only [Act.put, List.setIfInBounds_toArray, List.set_cons_zero, List.set_cons_succ]
              refine any_take 7 (some 71) (.pointer (some ⟨p, 0, none⟩)) rfl rfl (by kernel_rfl) (by kernel_rfl) (by kernel_rfl) (fun _ _ _ h => h) (.inl ⟨by kernel_rfl, fun _ _ => by kernel_rfl⟩) (by assumption) ?_
              simp only [Act.put, List.setIfInBounds_toArray, List.set_cons_zero, List.set_cons_succ]
              refine any_take 8 (some 72) (.pointer (some ⟨p, 0, none⟩)) rfl rfl (by kernel_rfl) (by kernel_rfl) (by kernel_rfl) (fun _ _ _ h => h) (.inl ⟨by kernel_rfl, fun _ _ => by kernel_rfl⟩) (by assumption) ?_
              simp only [Act.put, List.setIfInBounds_toArray, List.set_cons_zero, List.set_cons_succ]
              refine any_take 9 (some 73) (.pointer (some ⟨p, 23, none⟩)) rfl rfl (by kernel_rfl) (by kernel_rfl) (by kernel_rfl) (fun _ _ _ h => h) (.inl ⟨by kernel_rfl, fun _ _ => by kernel_rfl⟩) (by assumption) ?_
              simp only [Act.put, List.setIfInBounds_toArray, List.set_cons_zero, List.set_cons_succ]
              refine any_take 10 (some 74) (.int .i64 h) rfl rfl (by kernel_rfl) (by kernel_rfl) (by kernel_rfl) (fun _ _ _ h => h) (yld_cell (by kernel_rfl) 3 (.tmp 73) rfl p 23 (by kernel_rfl) _ _ (fun _ h => keep_blk h t7.blk (by simp)) _ Ybaf.underlying3 rfl _ rfl) (by assumption) ?_
              simp only [Act.put, List.setIfInBounds_toArray, List.set_cons_zero, List.set_cons_succ]
              refine any_take 11 (some 75) (.bool true) rfl rfl (by kernel_rfl) (by kernel_rfl) (by kernel_rfl) (fun _ _ _ h => h) (.inl ⟨by kernel_rfl, fun w' _ => (exec_lss3 (.tmp 70) (.tmp 74) rfl n h (by kernel_rfl) (by kernel_rfl)).trans (by simp [hB])⟩) (by assumption) ?_
              simp only [Act.put, List.setIfInBounds_toArray, List.set_cons_zero, List.set_cons_succ]
              refine any_take 12 (some 15) (.bool false) rfl rfl (by kernel_rfl) (by kernel_rfl) (by kernel_rfl) (fun _ _ _ h => h) (.inl ⟨by kernel_rfl, fun _ _ => by kernel_rfl⟩) (by assumption) ?_
              simp only [Act.put, List.setIfInBounds_toArray, List.set_cons_zero, List.set_cons_succ]
              refine any_take 13 (some 16) (.bool true) rfl rfl (by kernel_rfl) (by kernel_rfl) (by kernel_rfl) (fun _ _ _ h => h) (.inl ⟨by kernel_rfl, fun _ _ => by kernel_rfl⟩) (by assumption) ?_
              simp only [Act.put, List.setIfInBounds_toArray, List.set_cons_zero, List.set_cons_succ]
              refine wpAnyH_done (by kernel_rfl) ?_ _
              clear hS
              go_upto_region 13 with fail
              refine wp_region_held (S := Gr { u7 with drawn := u7.drawn + 1 }) (by kernel_rfl) ?_
              have gu8 : w.grownBy { u7 with drawn := u7.drawn + 1 } none := grown_trans gu7 (grown_drew u7)
              generalize ({ u7 with drawn := u7.drawn + 1 } : World) = u8 at *
              have hS := Gr.refl u8
              have t8 := t.kept gu8
              clear t7
              refine any_take 0 (some 76) (.bool false) rfl rfl (by kernel_rfl) (by kernel_rfl) (by kernel_rfl) (fun _ _ _ h => h) (.inl ⟨by kernel_rfl, fun _ _ => by kernel_rfl⟩) (by assumption) ?_
              simp only [Act.put, List.setIfInBounds_toArray, List.set_cons_zero, List.set_cons_succ]
              refine any_take 1 (some 77) (.bool false) rfl rfl (by kernel_rfl) (by kernel_rfl) (by kernel_rfl) (fun _ _ _ h => h) (.inl ⟨by kernel_rfl, fun _ _ => by kernel_rfl⟩) (by assumption) ?_
              simp only [Act.put, List.setIfInBounds_toArray, List.set_cons_zero, List.set_cons_succ]
              refine any_take 2 (some 78) (.int .i64 n) rfl rfl (by kernel_rfl) (by kernel_rfl) (by kernel_rfl) (fun _ _ _ h => h) (.inl ⟨by kernel_rfl, fun _ _ => by kernel_rfl⟩) (by assumption) ?_
              simp only [Act.put, List.setIfInBounds_toArray, List.set_cons_zero, List.set_cons_succ]
              refine any_take 3 (some 79) (.pointer (some ⟨p, 0, none⟩)) rfl rfl (by kernel_rfl) (by kernel_rfl) (by kernel_rfl) (fun _ _ _ h => h) (.inl ⟨by kernel_rfl, fun _ _ => by kernel_rfl⟩) (by assumption) ?_
              simp only [Act.put, List.setIfInBounds_toArray, List.set_cons_zero, List.set_cons_succ]
              refine any_take 4 (some 80) (.pointer (some ⟨p, 0, none⟩)) rfl rfl (by kernel_rfl) (by kernel_rfl) (by kernel_rfl) (fun _ _ _ h => h) (.inl ⟨by kernel_rfl, fun _ _ => by kernel_rfl⟩) (by assumption) ?_
              simp only [Act.put, List.setIfInBounds_toArray, List.set_cons_zero, List.set_cons_succ]
              refine any_take 5 (some 81) (.pointer (some ⟨p, 23, none⟩)) rfl rfl (by kernel_rfl) (by kernel_rfl) (by kernel_rfl) (fun _ _ _ h => h) (.inl ⟨by kernel_rfl, fun _ _ => by kernel_rfl⟩) (by assumption) ?_
              simp only [Act.put, List.setIfInBounds_toArray, List.set_cons_zero, List.set_cons_succ]
              refine any_take 6 (some 82) (.int .i64 h) rfl rfl (by kernel_rfl) (by kernel_rfl) (by kernel_rfl) (fun _ _ _ h => h) (yld_cell (by kernel_rfl) 3 (.tmp 81) rfl p 23 (by kernel_rfl) _ _ (fun _ h => keep_blk h t8.blk (by simp)) _ Ybaf.underlying3 rfl _ rfl) (by assumption) ?_
              simp only [Act.put, List.setIfInBounds_toArray, List.set_cons_zero, List.set_cons_succ]
              refine any_take 7 (some 83) (.int .i64 (h - 1)) rfl rfl (by kernel_rfl) (by kernel_rfl) (by kernel_rfl) (fun _ _ _ h => h) (.inl ⟨by kernel_rfl, fun w' _ => exec_sub3 (.tmp 82) (.const (.int .i64 1)) rfl h 1 (by omega) (by omega) (by kernel_rfl) (by kernel_rfl)⟩) (by assumption) ?_
              simp only [Act.put, List.setIfInBounds_toArray, List.set_cons_zero, List.set_cons_succ]
              refine any_take 8 (some 84) (.bool (decide (n < h - 1))) rfl rfl (by kernel_rfl) (by kernel_rfl) (by kernel_rfl) (fun _ _ _ h => h) (.inl ⟨by kernel_rfl, fun w' _ => exec_lss3 (.tmp 78) (.tmp 83) rfl n (h - 1) (by kernel_rfl) (by kernel_rfl)⟩) (by assumption) ?_
              simp only [Act.put, List.setIfInBounds_toArray, List.set_cons_zero, List.set_cons_succ]
              refine any_take 9 (some 85) (.bool (decide (n < h - 1))) rfl rfl (by kernel_rfl) (by kernel_rfl) (by kernel_rfl) (fun _ _ _ h => h) (.inl ⟨by kernel_rfl, fun _ _ => by kernel_rfl⟩) (by assumption) ?_
              simp only [Act.put, List.setIfInBounds_toArray, List.set_cons_zero, List.set_cons_succ]
              refine any_take 10 (some 86) (.bool true) rfl rfl (by kernel_rfl) (by kernel_rfl) (by kernel_rfl) (fun _ _ _ h => h) (.inl ⟨by kernel_rfl, fun _ _ => by kernel_rfl⟩) (by assumption) ?_
              simp only [Act.put, List.setIfInBounds_toArray, List.set_cons_zero, List.set_cons_succ]
              refine any_take 11 (some 87) (.bool true) rfl rfl (by kernel_rfl) (by kernel_rfl) (by kernel_rfl) (fun _ _ _ h => h) (.inl ⟨by kernel_rfl, fun _ _ => by kernel_rfl⟩) (by assumption) ?_
              simp only [Act.put, List.setIfInBounds_toArray, List.set_cons_zero, List.set_cons_succ]
              refine any_take 12 (some 88) undef rfl rfl (by kernel_rfl) (by kernel_rfl) (by kernel_rfl) (fun _ _ _ h => h) (.inr ⟨by kernel_rfl, rfl⟩) (by assumption) ?_
              simp only [Act.put, List.setIfInBounds_toArray, List.set_cons_zero, List.set_cons_succ]
              refine any_take 13 (some 89) undef rfl rfl (by kernel_rfl) (by kernel_rfl) (by kernel_rfl) (fun _ _ _ h => h) (.inr ⟨by kernel_rfl, rfl⟩) (by assumption) ?_
              simp only [Act.put, List.setIfInBounds_toArray, List.set_cons_zero, List.set_cons_succ]
              refine any_take 14 (some 90) undef rfl rfl (by kernel_rfl) (by kernel_rfl) (by kernel_rfl) (fun _ _ _ h => h) (.inr ⟨by kernel_rfl, rfl⟩) (by assumption) ?_
              simp only [Act.put, List.setIfInBounds_toArray, List.set_cons_zero, List.set_cons_succ]
              refine any_take 15 (some 91) undef rfl rfl (by kernel_rfl) (by kernel_rfl) (by kernel_rfl) (fun _ _ _ h => h) (.inr ⟨by kernel_rfl, rfl⟩) (by assumption) ?_
              simp only [Act.put, List.setIfInBounds_toArray, List.set_cons_zero, List.set_cons_succ]
              refine any_take 16 (some 92) undef rfl rfl (by kernel_rfl) (by kernel_rfl) (by kernel_rfl) (fun _ _ _ h => h) (.inr ⟨by kernel_rfl, rfl⟩) (by assumption) ?_
              simp only [Act.put, List.setIfInBounds_toArray, List.set_cons_zero, List.set_cons_succ]
              refine any_take 17 (some 93) undef rfl rfl (by kernel_rfl) (by kernel_rfl) (by kernel_rfl) (fun _ _ _ h => h) (.inr ⟨by kernel_rfl, rfl⟩) (by assumption) ?_
              simp only [Act.put, List.setIfInBounds_toArray, List.set_cons_zero, List.set_cons_succ]
              refine any_take 18 (some 94) undef rfl rfl (by kernel_rfl) (by kernel_rfl) (by kernel_rfl) (fun _ _ _ h => h) (.inr ⟨by kernel_rfl, rfl⟩) (by assumption) ?_
              simp only [Act.put, List.setIfInBounds_toArray, List.set_cons_zero, List.set_cons_succ]
              refine any_take 19 (some 95) (.bool true) rfl rfl (by kernel_rfl) (by kernel_rfl) (by kernel_rfl) (fun _ _ _ h => h) (.inl ⟨by kernel_rfl, fun _ _ => by kernel_rfl⟩) (by assumption) ?_
              simp only [Act.put, List.setIfInBounds_toArray, List.set_cons_zero, List.set_cons_succ]
              refine any_take 20 (some 6) (.bool (decide (n < h - 1))) rfl rfl (by kernel_rfl) (by kernel_rfl) (by kernel_rfl) (fun _ _ _ h => h) (.inl ⟨by kernel_rfl, fun _ _ => by kernel_rfl⟩) (by assumption) ?_
              simp only [Act.put, List.setIfInBounds_toArray, List.set_cons_zero, List.set_cons_succ]
              refine any_take 21 (some 7) (.bool true) rfl rfl (by kernel_rfl) (by kernel_rfl) (by kernel_rfl) (fun _ _ _ h => h) (.inl ⟨by kernel_rfl, fun _ _ => by kernel_rfl⟩) (by assumption) ?_
              simp only [Act.put, List.setIfInBounds_toArray, List.set_cons_zero, List.set_cons_succ]
              refine wpAnyH_done (by kernel_rfl) ?_ _
              clear hS
              have e1 : A = ((decide (n < h - 1)), true) := by rw [EA2.out]; simp [onCw, onCc, hA, hB]
              clear hA hB
              go_wp2_with fail
              refine bodyPost_ret (v := .tuple #[.bool (decide (n < h - 1)), .bool true]) (by kernel_rfl) rfl ⟨by rw [e1], gu8⟩
            · refine any_take 0 (some 64) (.int .i64 (r : Nat)) rfl rfl (by kernel_rfl) (by kernel_rfl) (by kernel_rfl) (fun _ _ _ h => h) (.inl ⟨by kernel_rfl, fun _ _ => by kernel_rfl⟩) (by assumption) ?_
              simp only [Act.put, List.setIfInBounds_toArray, List.set_cons_zero, List.set_cons_succ]
              refine any_take 1 (some 65) (.pointer (some ⟨p, 0, none⟩)) rfl rfl (by kernel_rfl) (by kernel_rfl) (by kernel_rfl) (fun _ _ _ h => h) (.inl ⟨by kernel_rfl, fun _ _ => by kernel_rfl⟩) (by assumption) ?_
              simp only [Act.put, List.setIfInBounds_toArray, List.set_cons_zero, List.set_cons_succ]
              refine any_take 2 (some 66) (.pointer (some ⟨p, 0, none⟩)) rfl rfl (by kernel_rfl) (by kernel_rfl) (by kernel_rfl) (fun _ _ _ h => h) (.inl ⟨by kernel_rfl, fun _ _ => by kernel_rfl⟩) (by assumption) ?_
              simp only [Act.put, List.setIfInBounds_toArray, List.set_cons_zero, List.set_cons_succ]
              refine any_take 3 (some 67) (.pointer (some ⟨p, 23, none⟩)) rfl rfl (by kernel_rfl) (by kernel_rfl) (by kernel_rfl) (fun _ _ _ h => h) (.inl ⟨by kernel_rfl, fun _ _ => by kernel_rfl⟩) (by assumption) ?_
              simp only [Act.put, List.setIfInBounds_toArray, List.set_cons_zero, List.set_cons_succ]
              refine any_take 4 (some 68) (.int .i64 h) rfl rfl (by kernel_rfl) (by kernel_rfl) (by kernel_rfl) (fun _ _ _ h => h) (yld_cell (by kernel_rfl) 3 (.tmp 67) rfl p 23 (by kernel_rfl) _ _ (fun _ h => keep_blk h t7.blk (by simp)) _ Ybaf.underlying3 rfl _ rfl) (by assumption) ?_
              simp only [Act.put, List.setIfInBounds_toArray, List.set_cons_zero, List.set_cons_succ]
              refine any_take 5 (some 69) (.bool false) rfl rfl (by kernel_rfl) (by kernel_rfl) (by kernel_rfl) (fun _ _ _ h => h) (.inl ⟨by kernel_rfl, fun w' _ => (exec_lss3 (.tmp 64) (.tmp 68) rfl (r : Int) h (by kernel_rfl) (by kernel_rfl)).trans (by simp [hA])⟩) (by assumption) ?_
              simp only [Act.put, List.setIfInBounds_toArray, List.set_cons_zero, List.set_cons_succ]
              refine any_take 6 (some 70) (.int .i64 n) rfl rfl (by kernel_rfl) (by kernel_rfl) (by kernel_rfl) (fun _ _ _ h => h) (.inl ⟨by kernel_rfl, fun _ _ => by kernel_rfl⟩) (by assumption) ?_
              simp only [Act.put, List.setIfInBounds_toArray, List.set_cons_zero, List.set_cons_succ]
              refine any_take 7 (some 71) (.pointer (some ⟨p, 0, none⟩)) rfl rfl (by kernel_rfl) (by kernel_rfl) (by kernel_rfl) (fun _ _ _ h => h) (.inl ⟨by kernel_rfl, fun _ _ => by kernel_rfl⟩) (by assumption) ?_
              simp only [Act.put, List.setIfInBounds_toArray, List.set_cons_zero, List.set_cons_succ]
              refine any_take 8 (some 72) (.pointer (some ⟨p, 0, none⟩)) rfl rfl (by kernel_rfl) (by kernel_rfl) (by kernel_rfl) (fun _ _ _ h => h) (.inl ⟨by kernel_rfl, fun _ _ => by kernel_rfl⟩) (by assumption) ?_
              simp only [Act.put, List.setIfInBounds_toArray, List.set_cons_zero, List.set_cons_succ]
              refine any_take 9 (some 73) (.pointer (some ⟨p, 23, none⟩)) rfl rfl (by kernel_rfl) (by kernel_rfl) (by kernel_rfl) (fun _ _ _ h => h) (.inl ⟨by kernel_rfl, fun _ _ => by kernel_rfl⟩) (by assumption) ?_
              simp only [Act.put, List.setIfInBounds_toArray, List.set_cons_zero, List.set_cons_succ]
              refine any_take 10 (some 74) (.int .i64 h) rfl rfl (by kernel_rfl) (by kernel_rfl) (by kernel_rfl) (fun _ _ _ h => h) (yld_cell (by kernel_rfl) 3 (.tmp 73) rfl p 23 (by kernel_rfl) _ _ (fun _ h => keep_blk h t7.blk (by simp)) _ Ybaf.underlying3 rfl _ rfl) (by assumption) ?_
              simp only [Act.put, List.setIfInBounds_toArray, List.set_cons_zero, List.set_cons_succ]
              refine any_take 11 (some 75) (.bool false) rfl rfl (by kernel_rfl) (by kernel_rfl) (by kernel_rfl) (fun _ _ _ h => h) (.inl ⟨by kernel_rfl, fun w' _ => (exec_lss3 (.tmp 70) (.tmp 74) rfl n h (by kernel_rfl) (by kernel_rfl)).trans (by simp [hB])⟩) (by assumption) ?_
              simp only [Act.put, List.setIfInBounds_toArray, List.set_cons_zero, List.set_cons_succ]
              refine any_take 12 (some 15) (.bool false) rfl rfl (by kernel_rfl) (by kernel_rfl) (by kernel_rfl) (fun _ _ _ h => h) (.inl ⟨by kernel_rfl, fun _ _ => by kernel_rfl⟩) (by assumption) ?_
              simp only [Act.put, List.setIfInBounds_toArray, List.set_cons_zero, List.set_cons_succ]
              refine any_take 13 (some 16) (.bool false) rfl rfl (by kernel_rfl) (by kernel_rfl) (by kernel_rfl) (fun _ _ _ h => h) (.inl ⟨by kernel_rfl, fun _ _ => by kernel_rfl⟩) (by assumption) ?_
              simp only [Act.put, List.setIfInBounds_toArray, List.set_cons_zero, List.set_cons_succ]
              refine wpAnyH_done (by kernel_rfl) ?_ _
              clear hS
              go_upto_region 13 with fail
              refine wp_region_held (S := Gr { u7 with drawn := u7.drawn + 1 }) (by kernel_rfl) ?_
              have gu8 : w.grownBy { u7 with drawn := u7.drawn + 1 } none := grown_trans gu7 (grown_drew u7)
              generalize ({ u7 with drawn := u7.drawn + 1 } : World) = u8 at *
              have hS := Gr.refl u8
              have t8 := t.kept gu8
              clear t7
              refine any_take 0 (some 76) (.bool false) rfl rfl (by kernel_rfl) (by kernel_rfl) (by kernel_rfl) (fun _ _ _ h => h) (.inl ⟨by kernel_rfl, fun _ _ => by kernel_rfl⟩) (by assumption) ?_
              simp only [Act.put, List.setIfInBounds_toArray, List.set_cons_zero, List.set_cons_succ]
              refine any_take 1 (some 77) (.bool false) rfl rfl (by kernel_rfl) (by kernel_rfl) (by kernel_rfl) (fun _ _ _ h => h) (.inl ⟨by kernel_rfl, fun _ _ => by kernel_rfl⟩) (by assumption) ?_
              simp only [Act.put, List.setIfInBounds_toArray, List.set_cons_zero, List.set_cons_succ]
              refine any_take 2 (some 78) (.int .i64 n) rfl rfl (by kernel_rfl) (by kernel_rfl) (by kernel_rfl) (fun _ _ _ h => h) (.inl ⟨by kernel_rfl, fun _ _ => by kernel_rfl⟩) (by assumption) ?_
              simp only [Act.put, List.setIfInBounds_toArray, List.set_cons_zero, List.set_cons_succ]
              refine any_take 3 (some 79) (.pointer (some ⟨p, 0, none⟩)) rfl rfl (by kernel_rfl) (by kernel_rfl) (by kernel_rfl) (fun _ _ _ h => h) (.inl ⟨by kernel_rfl, fun _ _ => by kernel_rfl⟩) (by assumption) ?_
              simp only [Act.put, List.setIfInBounds_toArray, List.set_cons_zero, List.set_cons_succ]
              refine any_take 4 (some 80) (.pointer (some ⟨p, 0, none⟩)) rfl rfl (by kernel_rfl) (by kernel_rfl) (by kernel_rfl) (fun _ _ _ h => h) (.inl ⟨by kernel_rfl, fun _ _ => by kernel_rfl⟩) (by assumption) ?_
              simp only [Act.put, List.setIfInBounds_toArray, List.set_cons_zero, List.set_cons_succ]
              refine any_take 5 (some 81) (.pointer (some ⟨p, 23, none⟩)) rfl rfl (by kernel_rfl) (by kernel_rfl) (by kernel_rfl) (fun _ _ _ h => h) (.inl ⟨by kernel_rfl, fun _ _ => by kernel_rfl⟩) (by assumption) ?_
              simp only [Act.put, List.setIfInBounds_toArray, List.set_cons_zero, List.set_cons_succ]
              refine any_take 6 (some 82) (.int .i64 h) rfl rfl (by kernel_rfl) (by kernel_rfl) (by kernel_rfl) (fun _ _ _ h => h) (yld_cell (by kernel_rfl) 3 (.tmp 81) rfl p 23 (by kernel_rfl) _ _ (fun _ h => keep_blk h t8.blk (by simp)) _ Ybaf.underlying3 rfl _ rfl) (by assumption) ?_
              simp only [Act.put, List.setIfInBounds_toArray, List.set_cons_zero, List.set_cons_succ]
              refine any_take 7 (some 83) (.int .i64 (h - 1)) rfl rfl (by kernel_rfl) (by kernel_rfl) (by kernel_rfl) (fun _ _ _ h => h) (.inl ⟨by kernel_rfl, fun w' _ => exec_sub3 (.tmp 82) (.const (.int .i64 1)) rfl h 1 (by omega) (by omega) (by kernel_rfl) (by kernel_rfl)⟩) (by assumption) ?_
              simp only [Act.put, List.setIfInBounds_toArray, List.set_cons_zero, List.set_cons_succ]
              refine any_take 8 (some 84) (.bool (decide (n < h - 1))) rfl rfl (by kernel_rfl) (by kernel_rfl) (by kernel_rfl) (fun _ _ _ h => h) (.inl ⟨by kernel_rfl, fun w' _ => exec_lss3 (.tmp 78) (.tmp 83) rfl n (h - 1) (by kernel_rfl) (by kernel_rfl)⟩) (by assumption) ?_
              simp only [Act.put, List.setIfInBounds_toArray, List.set_cons_zero, List.set_cons_succ]
              refine any_take 9 (some 85) (.bool (decide (n < h - 1))) rfl rfl (by kernel_rfl) (by kernel_rfl) (by kernel_rfl) (fun _ _ _ h => h) (.inl ⟨by kernel_rfl, fun _ _ => by kernel_rfl⟩) (by assumption) ?_
              simp only [Act.put, List.setIfInBounds_toArray, List.set_cons_zero, List.set_cons_succ]
              refine any_take 10 (some 86) (.bool false) rfl rfl (by kernel_rfl) (by kernel_rfl) (by kernel_rfl) (fun _ _ _ h => h) (.inl ⟨by kernel_rfl, fun _ _ => by kernel_rfl⟩) (by assumption) ?_
              simp only [Act.put, List.setIfInBounds_toArray, List.set_cons_zero, List.set_cons_succ]
              refine any_take 11 (some 87) (.bool false) rfl rfl (by kernel_rfl) (by kernel_rfl) (by kernel_rfl) (fun _ _ _ h => h) (.inl ⟨by kernel_rfl, fun _ _ => by kernel_rfl⟩) (by assumption) ?_
              simp only [Act.put, List.setIfInBounds_toArray, List.set_cons_zero, List.set_cons_succ]
              refine any_take 12 (some 88) (.int .i64 (r : Nat)) rfl rfl (by kernel_rfl) (by kernel_rfl) (by kernel_rfl) (fun _ _ _ h => h) (.inl ⟨by kernel_rfl, fun _ _ => by kernel_rfl⟩) (by assumption) ?_
              simp only [Act.put, List.setIfInBounds_toArray, List.set_cons_zero, List.set_cons_succ]
              refine any_take 13 (some 89) (.pointer (some ⟨p, 0, none⟩)) rfl rfl (by kernel_rfl) (by kernel_rfl) (by kernel_rfl) (fun _ _ _ h => h) (.inl ⟨by kernel_rfl, fun _ _ => by kernel_rfl⟩) (by assumption) ?_
              simp only [Act.put, List.setIfInBounds_toArray, List.set_cons_zero, List.set_cons_succ]
              refine any_take 14 (some 90) (.pointer (some ⟨p, 0, none⟩)) rfl rfl (by kernel_rfl) (by kernel_rfl) (by kernel_rfl) (fun _ _ _ h => h) (.inl ⟨by kernel_rfl, fun _ _ => by kernel_rfl⟩) (by assumption) ?_
              simp only [Act.put, List.setIfInBounds_toArray, List.set_cons_zero, List.set_cons_succ]
              refine any_take 15 (some 91) (.pointer (some ⟨p, 23, none⟩)) rfl rfl (by kernel_rfl) (by kernel_rfl) (by kernel_rfl) (fun _ _ _ h => h) (.inl ⟨by kernel_rfl, fun _ _ => by kernel_rfl⟩) (by assumption) ?_
              simp only [Act.put, List.setIfInBounds_toArray, List.set_cons_zero, List.set_cons_succ]
              refine any_take 16 (some 92) (.int .i64 h) rfl rfl (by kernel_rfl) (by kernel_rfl) (by kernel_rfl) (fun _ _ _ h => h) (yld_cell (by kernel_rfl) 3 (.tmp 91) rfl p 23 (by kernel_rfl) _ _ (fun _ h => keep_blk h t8.blk (by simp)) _ Ybaf.underlying3 rfl _ rfl) (by assumption) ?_
              simp only [Act.put, List.setIfInBounds_toArray, List.set_cons_zero, List.set_cons_succ]
              refine any_take 17 (some 93) (.int .i64 (h - 1)) rfl rfl (by kernel_rfl) (by kernel_rfl) (by kernel_rfl) (fun _ _ _ h => h) (.inl ⟨by kernel_rfl, fun w' _ => exec_sub3 (.tmp 92) (.const (.int .i64 1)) rfl h 1 (by omega) (by omega) (by kernel_rfl) (by kernel_rfl)⟩) (by assumption) ?_
              simp only [Act.put, List.setIfInBounds_toArray, List.set_cons_zero, List.set_cons_succ]
              refine any_take 18 (some 94) (.bool (decide ((r : Int) < h - 1))) rfl rfl (by kernel_rfl) (by kernel_rfl) (by kernel_rfl) (fun _ _ _ h => h) (.inl ⟨by kernel_rfl, fun w' _ => exec_lss3 (.tmp 88) (.tmp 93) rfl (r : Int) (h - 1) (by kernel_rfl) (by kernel_rfl)⟩) (by assumption) ?_
              simp only [Act.put, List.setIfInBounds_toArray, List.set_cons_zero, List.set_cons_succ]
              refine any_take 19 (some 95) (.bool (decide ((r : Int) < h - 1))) rfl rfl (by kernel_rfl) (by kernel_rfl) (by kernel_rfl) (fun _ _ _ h => h) (.inl ⟨by kernel_rfl, fun _ _ => by kernel_rfl⟩) (by assumption) ?_
              simp only [Act.put, List.setIfInBounds_toArray, List.set_cons_zero, List.set_cons_succ]
              refine any_take 20 (some 6) (.bool (decide (n < h - 1))) rfl rfl (by kernel_rfl) (by kernel_rfl) (by kernel_rfl) (fun _ _ _ h => h) (.inl ⟨by kernel_rfl, fun _ _ => by kernel_rfl⟩) (by assumption) ?_
              simp only [Act.put, List.setIfInBounds_toArray, List.set_cons_zero, List.set_cons_succ]
              refine any_take 21 (some 7) (.bool (decide ((r : Int) < h - 1))) rfl rfl (by kernel_rfl) (by kernel_rfl) (by kernel_rfl) (fun _ _ _ h => h) (.inl ⟨by kernel_rfl, fun _ _ => by kernel_rfl⟩) (by assumption) ?_
              simp only [Act.put, List.setIfInBounds_toArray, List.set_cons_zero, List.set_cons_succ]
              refine wpAnyH_done (by kernel_rfl) ?_ _
              clear hS
              have e1 : A = ((decide (n < h - 1)), (decide ((r : Int) < h - 1))) := by rw [EA2.out]; simp [onCw, onCc, hA, hB]
              clear hA hB
              go_wp2_with fail
              refine bodyPost_ret (v := .tuple #[.bool (decide (n < h - 1)), .bool (decide ((r : Int) < h - 1))]) (by kernel_rfl) rfl ⟨by rw [e1], gu8⟩
end Go.Proofs.YbulkdspqFmt
