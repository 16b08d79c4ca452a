/-
  LawS5970CWhole: slices.Index (13), Contains (5), Equal (11, 12).
-/
import Derived.Test.YbulkdspqFmtCSearch
namespace Go.Proofs.YbulkdspqFmt
open Go.RowKit
set_option linter.unusedSimpArgs false
set_option linter.unusedVariables false

theorem own_lenB {w : World} {base : Nat} {e : TypeId} {sz : Nat} {a : Option Addr} {n c m : Nat} {xs : List Value} (h : w.ownsRow base e sz (.slice a n c) m xs) : n = m := by
  obtain ⟨a', c', e, _⟩ := own_form h
  injection e
theorem own_ri {w : World} {base g n c m : Nat} {ids : List Int} (h : w.ownsRow base 25 20 (.slice (some ⟨g, 0, none⟩) n c) m (ids.flatMap ic)) {i : Nat} {y : Int} (hy : ids[i]? = some y) : w.rangeAt g (i * 20) (ic y) := by
  have e := own_lenB h
  subst e
  exact own_range h ic_len hy
theorem own_rt {w : World} {s : Int} {base g n c m : Nat} {ids : List Int} (h : w.ownsRow base 32 1 (.slice (some ⟨g, 0, none⟩) n c) m (ids.flatMap (tpc s))) {i : Nat} {y : Int} (hy : ids[i]? = some y) : w.cell? ⟨g, i * 1, none⟩ = some (.int .u64 (topN (D s y))) := by
  have e := own_lenB h
  subst e
  exact own_range h (fun _ => rfl) hy 0 _ rfl
theorem exec_neq32 {a : Act} {o : Oper} {w : World} (x y : Operand) (ho : o.op = .binOp .neq 32 x y 32) (p q : Int) (hx : a.eval x = .int .u64 p) (hy : a.eval y = .int .u64 q) : (execOp a.eval o).run Ybaf.prog w = .ok (.value (.bool (!decide (p = q)))) w := by
  have e : Ybaf.prog.eqGuardType Ybaf.prog.depth 32 = false := by kernel_rfl
  unfold execOp
  simp only [ho, hx, hy]
  simp [binOp, eqGuard, Result.andThen, go_sem, Ybaf.underlying32, e, Op.intCmp]
  exact Bool.eq_iff_iff.2 (by simp)
theorem exec_geq3 {a : Act} {o : Oper} {w : World} (x y : Operand) (ho : o.op = .binOp .geq 3 x y 3) (p q : Int) (hx : a.eval x = .int .i64 p) (hy : a.eval y = .int .i64 q) : (execOp a.eval o).run Ybaf.prog w = .ok (.value (.bool (decide (q ≤ p)))) w := by
  unfold execOp
  simp only [ho, hx, hy]
  simp [binOp, eqGuard, Result.andThen, go_sem, Ybaf.underlying3]
/-- What Index answers. -/
def IdxPost (w : World) (ids : List Int) (x : Int) (e : Ending) (w' : World) : Prop := ∃ z : Int, e = .returned (.int .i64 z) ∧ (0 ≤ z ↔ x ∈ ids) ∧ w.grownBy w' none

set_option maxRecDepth 100000 in
set_option maxHeartbeats 4000000 in
theorem index13 {w : World} {b1 : Nat} {v1 : Value} {ids : List Int} {x : Int} (hx : Sm x) (hsm : ∀ y ∈ ids, Sm y) (hl : ids.length ≤ 8192) (o1 : w.ownsRow b1 25 20 v1 ids.length (ids.flatMap ic)) :
    Calls Ybaf.prog 13 #[v1, .agg (ic x).toArray] w (IdxPost w ids x) := by
  obtain ⟨ti, hti, _, hts, _⟩ := info_parts info25
  obtain ⟨a1, c1, e1, f1⟩ := own_form o1
  subst e1
  obtain ⟨n, en⟩ : ∃ n, n = ids.length := ⟨_, rfl⟩
  have EN : Aside (n = ids.length) := en
  rw [← en] at hl f1 o1
  rw [← en]
  clear en
  go_enter Ybaf.func13, Ybaf.ntmps13
  go_upto_region 1 with (refine wpList_is (.box 25 (.tmp 1)) rfl ?_; refine wpList_box25 rfl (.tmp 1) rfl (cf x) rfl ?_)
  have x3 : (w.alloc (.cells (ic x).toArray 25)).heap[w.heap.size]? = some (.cells (ic x).toArray 25 (0, 0)) := heap_alloc_new w _
  have g0 : w.grownBy (w.alloc (.cells (ic x).toArray 25)) none := World.grownBy_alloc _ _ none
  generalize (w.alloc (.cells (ic x).toArray 25)) = u at *
  obtain ⟨b3, eb3⟩ : ∃ b, b = w.heap.size := ⟨_, rfl⟩
  rw [← eb3] at x3 ⊢
  clear eb3
  have o2 := own_kept o1 g0 (by simp)
  go_wp2_with fail
  go_loopg [8] n (fun g v wr => ∃ i : Nat, i + g = n ∧ v = .int .i64 i ∧ Aside (∀ j y, j < i → ids[j]? = some y → y ≠ x) ∧ u.grownBy wr none)
  case atStart => exact ⟨0, by omega, rfl, (by unfold Aside; omega), World.grownBy.refl u none⟩
  case round =>
    obtain ⟨i, hi, rfl, B, hg⟩ := hrel
    by_cases hin : i < n
    · obtain ⟨y, hy⟩ : ∃ y, ids[i]? = some y := ⟨_, List.getElem?_eq_getElem (by have := EN.out; omega)⟩
      have hsy := hsm y (List.mem_of_getElem? hy)
      have hin' : (i : Int) < (n : Int) := by omega
      obtain ⟨g1, rfl⟩ := f1 (by omega)
      go_upto_region 4 with fail
      refine wp_region_held (S := Gr u) (by kernel_rfl) ?_
      have hS : Gr u { wr with drawn := wr.drawn + 1 } := grown_trans hg (grown_drew wr)
      clear hg
      generalize ({ wr with drawn := wr.drawn + 1 } : World) = u1 at *
      refine any_take 0 (some 11) (.agg (ic x).toArray) rfl rfl (by kernel_rfl) (by kernel_rfl) (by kernel_rfl) (fun _ _ _ h => h) (yld_blk (by kernel_rfl) 25 (.tmp 3) rfl b3 (by kernel_rfl) (ic x) 25 (fun _ h => keep_blk h x3 (by simp)) _ Ybaf.underlying25 rfl (size25 _)) (by assumption) ?_
      simp only [Act.put, List.setIfInBounds_toArray, List.set_cons_zero, List.set_cons_succ]
      refine any_take 1 (some 12) (.slice (some ⟨g1, 0, none⟩) n c1) rfl rfl (by kernel_rfl) (by kernel_rfl) (by kernel_rfl) (fun _ _ _ h => h) (.inl ⟨by kernel_rfl, fun _ _ => by kernel_rfl⟩) (by assumption) ?_
      simp only [Act.put, List.setIfInBounds_toArray, List.set_cons_zero, List.set_cons_succ]
      refine any_take 2 (some 13) (.int .i64 (i : Nat)) rfl rfl (by kernel_rfl) (by kernel_rfl) (by kernel_rfl) (fun _ _ _ h => h) (.inl ⟨by kernel_rfl, fun _ _ => by kernel_rfl⟩) (by assumption) ?_
      simp only [Act.put, List.setIfInBounds_toArray, List.set_cons_zero, List.set_cons_succ]
      refine any_take 3 (some 14) (.pointer (some ⟨g1, i * 20, none⟩)) rfl rfl (by kernel_rfl) (by kernel_rfl) (by kernel_rfl) (fun _ _ _ h => h) (.inl ⟨by kernel_rfl, fun w' _ => exec_index (.tmp 12) (.tmp 13) rfl Ybaf.underlying27 hti hts g1 n c1 i hin (by kernel_rfl) (by kernel_rfl)⟩) (by assumption) ?_
      simp only [Act.put, List.setIfInBounds_toArray, List.set_cons_zero, List.set_cons_succ]
      refine any_take 4 (some 15) (.agg (ic y).toArray) rfl rfl (by kernel_rfl) (by kernel_rfl) (by kernel_rfl) (fun _ _ _ h => h) (yieldsIf_load_mid (by kernel_rfl) 25 (.tmp 14) rfl g1 (i * 20) (by kernel_rfl) (ic y) _ (fun _ h => own_ri (own_kept o2 h (by simp)) hy) Ybaf.underlying25 rfl (size25 _)) (by assumption) ?_
      simp only [Act.put, List.setIfInBounds_toArray, List.set_cons_zero, List.set_cons_succ]
      by_cases hxy : x = y
      · refine any_take 5 (some 16) (.bool true) rfl rfl (by kernel_rfl) (by kernel_rfl) (by kernel_rfl) (fun _ _ _ h => h) (.inl ⟨by kernel_rfl, fun w' _ => (exec_eql25 (.tmp 11) (.tmp 15) rfl (p := cf x) (q := cf y) (byt_cf hx) (byt_cf hsy) (by kernel_rfl) (by kernel_rfl)).trans (by simp [hxy])⟩) (by assumption) ?_
        simp only [Act.put, List.setIfInBounds_toArray, List.set_cons_zero, List.set_cons_succ]
        refine wpAnyH_done (by kernel_rfl) ?_ _
        have hg' : w.grownBy u1 none := grown_trans g0 hS
        have hm : x ∈ ids := by rw [hxy]; exact List.mem_of_getElem? hy
        have HM : Aside (x ∈ ids) := hm
        clear hS hxy hm
        go_wp2_with fail
        refine bodyPost_ret (v := .int .i64 (i : Int)) (by kernel_rfl) rfl ⟨(i : Int), rfl, ⟨fun _ => HM.out, fun _ => by omega⟩, hg'⟩
      · have hne : ¬ nm (cf x) = nm (cf y) := by rw [nm_cf hx hsy]; exact hxy
        refine any_take 5 (some 16) (.bool false) rfl rfl (by kernel_rfl) (by kernel_rfl) (by kernel_rfl) (fun _ _ _ h => h) (.inl ⟨by kernel_rfl, fun w' _ => (exec_eql25 (.tmp 11) (.tmp 15) rfl (p := cf x) (q := cf y) (byt_cf hx) (byt_cf hsy) (by kernel_rfl) (by kernel_rfl)).trans (by simp [hne])⟩) (by assumption) ?_
        simp only [Act.put, List.setIfInBounds_toArray, List.set_cons_zero, List.set_cons_succ]
        refine wpAnyH_done (by kernel_rfl) ?_ _
        have hg' : u.grownBy u1 none := hS
        have B2 : Aside (∀ j y, j < i + 1 → ids[j]? = some y → y ≠ x) := by
          intro j z hj hz
          rcases Nat.lt_or_eq_of_le (Nat.le_of_lt_succ hj) with h | h
          · exact B.out j z h hz
          · subst h
            rw [hy] at hz
            rw [← Option.some.inj hz]
            exact fun e => hxy e.symm
        clear hS hxy hne B
        go_wp2_with fail
        go_roundg (n - (i + 1))
        case measure => omega
        case rel => exact ⟨i + 1, by omega, by go_num, B2.out, hg'⟩
    · have hin' : n = i := by omega
      subst hin'
      have HM : Aside (¬ x ∈ ids) := by
        intro hm
        obtain ⟨j, hj, e⟩ := List.mem_iff_getElem.1 hm
        exact B.out j x (by have := EN.out; omega) (by rw [List.getElem?_eq_getElem hj, e]) rfl
      clear B
      go_wp2_with fail
      refine bodyPost_ret (v := .int .i64 (-1)) (by kernel_rfl) rfl ⟨-1, rfl, ⟨fun h => absurd h (by omega), fun h => absurd h HM.out⟩, grown_trans g0 hg⟩

set_option maxRecDepth 100000 in
theorem cont5 {w : World} {b1 : Nat} {v1 : Value} {ids : List Int} {x : Int} (hx : Sm x) (hsm : ∀ y ∈ ids, Sm y) (hl : ids.length ≤ 8192) (o1 : w.ownsRow b1 25 20 v1 ids.length (ids.flatMap ic)) :
    Calls Ybaf.prog 5 #[v1, .agg (ic x).toArray] w fun e w' => e = .returned (.bool (decide (x ∈ ids))) ∧ w.grownBy w' none := by
  obtain ⟨a1, c1, e1, f1⟩ := own_form o1
  subst e1
  go_enter Ybaf.func5, Ybaf.ntmps5
  go_upto_region 1 with (refine wpList_is (.box 25 (.tmp 1)) rfl ?_; refine wpList_box25 rfl (.tmp 1) rfl (cf x) rfl ?_)
  have x3 : (w.alloc (.cells (ic x).toArray 25)).heap[w.heap.size]? = some (.cells (ic x).toArray 25 (0, 0)) := heap_alloc_new w _
  have g0 : w.grownBy (w.alloc (.cells (ic x).toArray 25)) none := World.grownBy_alloc _ _ none
  generalize (w.alloc (.cells (ic x).toArray 25)) = u at *
  have o2 := own_kept o1 g0 (by simp)
  go_wp2_with (refine wpList_is (.load 25 (.tmp 3)) rfl ?_; refine wpList_load_blk rfl 25 (.tmp 3) rfl w.heap.size rfl (ic x) 25 x3 _ Ybaf.underlying25 rfl (size25 _) ?_)
  refine (index13 hx hsm hl o2).mono ?_
  rintro e u1 ⟨z, rfl, hz, q1⟩
  have hd : decide (0 ≤ z) = decide (x ∈ ids) := decide_eq_decide.2 hz
  clear hz
  go_wp2_with (refine wpList_is (.binOp .geq 3 (.tmp 7) (.const (.int .i64 0)) 3) rfl ?_; refine wpList_exec rfl (.bool (decide (x ∈ ids))) (hd ▸ exec_geq3 (.tmp 7) (.const (.int .i64 0)) rfl z 0 rfl rfl) ?_)
  refine bodyPost_ret (by kernel_rfl) rfl ⟨rfl, grown_trans g0 q1⟩

set_option maxRecDepth 100000 in
set_option maxHeartbeats 4000000 in
theorem equal11 {w : World} {b1 b2 : Nat} {v1 v2 : Value} {ids : List Int} (hsm : ∀ y ∈ ids, Sm y) (hl : ids.length ≤ 8192) (o1 : w.ownsRow b1 25 20 v1 ids.length (ids.flatMap ic)) (o2 : w.ownsRow b2 25 20 v2 ids.length (ids.flatMap ic)) :
    Calls Ybaf.prog 11 #[v1, v2] w fun e w' => e = .returned (.bool true) ∧ w.grownBy w' none := by
  obtain ⟨ti, hti, _, hts, _⟩ := info_parts info25
  obtain ⟨a1, c1, e1, f1⟩ := own_form o1
  obtain ⟨a2, c2, e2, f2⟩ := own_form o2
  subst e1 e2
  obtain ⟨n, en⟩ : ∃ n, n = ids.length := ⟨_, rfl⟩
  have EN : Aside (n = ids.length) := en
  rw [← en] at hl f1 f2 o1 o2
  rw [← en]
  clear en
  go_enter Ybaf.func11, Ybaf.ntmps11
  go_wp2_with fail
  go_loopg [13] n (fun g v wr => ∃ i : Nat, i + g = n ∧ v = .int .i64 i ∧ w.grownBy wr none)
  case atStart => exact ⟨0, by omega, rfl, World.grownBy.refl w none⟩
  case round =>
    obtain ⟨i, hi, rfl, hg⟩ := hrel
    by_cases hin : i < n
    · obtain ⟨x, hx⟩ : ∃ x, ids[i]? = some x := ⟨_, List.getElem?_eq_getElem (by have := EN.out; omega)⟩
      have hin' : (i : Int) < (n : Int) := by omega
      obtain ⟨g1, rfl⟩ := f1 (by omega)
      obtain ⟨g2, rfl⟩ := f2 (by omega)
      go_upto_region 6 with fail
      refine wp_region_held (S := Gr w) (by kernel_rfl) ?_
      have hS : Gr w { wr with drawn := wr.drawn + 1 } := grown_trans hg (grown_drew wr)
      clear hg
      generalize ({ wr with drawn := wr.drawn + 1 } : World) = u1 at *
      refine any_take 0 (some 16) (.slice (some ⟨g1, 0, none⟩) n c1) rfl rfl (by kernel_rfl) (by kernel_rfl) (by kernel_rfl) (fun _ _ _ h => h) (.inl ⟨by kernel_rfl, fun _ _ => by kernel_rfl⟩) (by assumption) ?_
      simp only [Act.put, List.setIfInBounds_toArray, List.set_cons_zero, List.set_cons_succ]
      refine any_take 1 (some 17) (.int .i64 (i : Nat)) rfl rfl (by kernel_rfl) (by kernel_rfl) (by kernel_rfl) (fun _ _ _ h => h) (.inl ⟨by kernel_rfl, fun _ _ => by kernel_rfl⟩) (by assumption) ?_
      simp only [Act.put, List.setIfInBounds_toArray, List.set_cons_zero, List.set_cons_succ]
      refine any_take 2 (some 18) (.pointer (some ⟨g1, i * 20, none⟩)) rfl rfl (by kernel_rfl) (by kernel_rfl) (by kernel_rfl) (fun _ _ _ h => h) (.inl ⟨by kernel_rfl, fun w' _ => exec_index (.tmp 16) (.tmp 17) rfl Ybaf.underlying27 hti hts g1 n c1 i hin (by kernel_rfl) (by kernel_rfl)⟩) (by assumption) ?_
      simp only [Act.put, List.setIfInBounds_toArray, List.set_cons_zero, List.set_cons_succ]
      refine any_take 3 (some 19) (.agg (ic x).toArray) rfl rfl (by kernel_rfl) (by kernel_rfl) (by kernel_rfl) (fun _ _ _ h => h) (yieldsIf_load_mid (by kernel_rfl) 25 (.tmp 18) rfl g1 (i * 20) (by kernel_rfl) (ic x) _ (fun _ h => own_ri (own_kept o1 h (by simp)) hx) Ybaf.underlying25 rfl (size25 _)) (by assumption) ?_
      simp only [Act.put, List.setIfInBounds_toArray, List.set_cons_zero, List.set_cons_succ]
      refine any_take 4 (some 20) (.slice (some ⟨g2, 0, none⟩) n c2) rfl rfl (by kernel_rfl) (by kernel_rfl) (by kernel_rfl) (fun _ _ _ h => h) (.inl ⟨by kernel_rfl, fun _ _ => by kernel_rfl⟩) (by assumption) ?_
      simp only [Act.put, List.setIfInBounds_toArray, List.set_cons_zero, List.set_cons_succ]
      refine any_take 5 (some 21) (.int .i64 (i : Nat)) rfl rfl (by kernel_rfl) (by kernel_rfl) (by kernel_rfl) (fun _ _ _ h => h) (.inl ⟨by kernel_rfl, fun _ _ => by kernel_rfl⟩) (by assumption) ?_
      simp only [Act.put, List.setIfInBounds_toArray, List.set_cons_zero, List.set_cons_succ]
      refine any_take 6 (some 22) (.pointer (some ⟨g2, i * 20, none⟩)) rfl rfl (by kernel_rfl) (by kernel_rfl) (by kernel_rfl) (fun _ _ _ h => h) (.inl ⟨by kernel_rfl, fun w' _ => exec_index (.tmp 20) (.tmp 21) rfl Ybaf.underlying27 hti hts g2 n c2 i hin (by kernel_rfl) (by kernel_rfl)⟩) (by assumption) ?_
      simp only [Act.put, List.setIfInBounds_toArray, List.set_cons_zero, List.set_cons_succ]
      refine any_take 7 (some 23) (.agg (ic x).toArray) rfl rfl (by kernel_rfl) (by kernel_rfl) (by kernel_rfl) (fun _ _ _ h => h) (yieldsIf_load_mid (by kernel_rfl) 25 (.tmp 22) rfl g2 (i * 20) (by kernel_rfl) (ic x) _ (fun _ h => own_ri (own_kept o2 h (by simp)) hx) Ybaf.underlying25 rfl (size25 _)) (by assumption) ?_
      simp only [Act.put, List.setIfInBounds_toArray, List.set_cons_zero, List.set_cons_succ]
      refine any_take 8 (some 24) (.bool false) rfl rfl (by kernel_rfl) (by kernel_rfl) (by kernel_rfl) (fun _ _ _ h => h) (.inl ⟨by kernel_rfl, fun w' _ => (exec_neq25 (.tmp 19) (.tmp 23) rfl (p := cf x) (q := cf x) (byt_cf (hsm x (List.mem_of_getElem? hx))) (byt_cf (hsm x (List.mem_of_getElem? hx))) (by kernel_rfl) (by kernel_rfl)).trans (by simp)⟩) (by assumption) ?_
      simp only [Act.put, List.setIfInBounds_toArray, List.set_cons_zero, List.set_cons_succ]
      refine wpAnyH_done (by kernel_rfl) ?_ _
      have hg' : w.grownBy u1 none := hS
      clear hS
      go_wp2_with fail
      go_roundg (n - (i + 1))
      case measure => omega
      case rel => exact ⟨i + 1, by omega, by go_num, hg'⟩
    · have hin' : n = i := by omega
      subst hin'
      go_wp2_with fail
      refine bodyPost_ret (v := .bool true) (by kernel_rfl) rfl ⟨rfl, hg⟩

set_option maxRecDepth 100000 in
set_option maxHeartbeats 4000000 in
theorem equal12 {w : World} {b1 b2 : Nat} {v1 v2 : Value} {ids : List Int} {s : Int} (hl : ids.length ≤ 8192) (o1 : w.ownsRow b1 32 1 v1 ids.length (ids.flatMap (tpc s))) (o2 : w.ownsRow b2 32 1 v2 ids.length (ids.flatMap (tpc s))) :
    Calls Ybaf.prog 12 #[v1, v2] w fun e w' => e = .returned (.bool true) ∧ w.grownBy w' none := by
  obtain ⟨ti, hti, _, hts, _⟩ := info_parts info32
  obtain ⟨a1, c1, e1, f1⟩ := own_form o1
  obtain ⟨a2, c2, e2, f2⟩ := own_form o2
  subst e1 e2
  obtain ⟨n, en⟩ : ∃ n, n = ids.length := ⟨_, rfl⟩
  have EN : Aside (n = ids.length) := en
  rw [← en] at hl f1 f2 o1 o2
  rw [← en]
  clear en
  go_enter Ybaf.func12, Ybaf.ntmps12
  go_wp2_with fail
  go_loopg [13] n (fun g v wr => ∃ i : Nat, i + g = n ∧ v = .int .i64 i ∧ w.grownBy wr none)
  case atStart => exact ⟨0, by omega, rfl, World.grownBy.refl w none⟩
  case round =>
    obtain ⟨i, hi, rfl, hg⟩ := hrel
    by_cases hin : i < n
    · obtain ⟨x, hx⟩ : ∃ x, ids[i]? = some x := ⟨_, List.getElem?_eq_getElem (by have := EN.out; omega)⟩
      have hin' : (i : Int) < (n : Int) := by omega
      obtain ⟨g1, rfl⟩ := f1 (by omega)
      obtain ⟨g2, rfl⟩ := f2 (by omega)
      go_upto_region 6 with fail
      refine wp_region_held (S := Gr w) (by kernel_rfl) ?_
      have hS : Gr w { wr with drawn := wr.drawn + 1 } := grown_trans hg (grown_drew wr)
      clear hg
      generalize ({ wr with drawn := wr.drawn + 1 } : World) = u1 at *
      refine any_take 0 (some 16) (.slice (some ⟨g1, 0, none⟩) n c1) rfl rfl (by kernel_rfl) (by kernel_rfl) (by kernel_rfl) (fun _ _ _ h => h) (.inl ⟨by kernel_rfl, fun _ _ => by kernel_rfl⟩) (by assumption) ?_
      simp only [Act.put, List.setIfInBounds_toArray, List.set_cons_zero, List.set_cons_succ]
      refine any_take 1 (some 17) (.int .i64 (i : Nat)) rfl rfl (by kernel_rfl) (by kernel_rfl) (by kernel_rfl) (fun _ _ _ h => h) (.inl ⟨by kernel_rfl, fun _ _ => by kernel_rfl⟩) (by assumption) ?_
      simp only [Act.put, List.setIfInBounds_toArray, List.set_cons_zero, List.set_cons_succ]
      refine any_take 2 (some 18) (.pointer (some ⟨g1, i * 1, none⟩)) rfl rfl (by kernel_rfl) (by kernel_rfl) (by kernel_rfl) (fun _ _ _ h => h) (.inl ⟨by kernel_rfl, fun w' _ => exec_index (.tmp 16) (.tmp 17) rfl Ybaf.underlying30 hti hts g1 n c1 i hin (by kernel_rfl) (by kernel_rfl)⟩) (by assumption) ?_
      simp only [Act.put, List.setIfInBounds_toArray, List.set_cons_zero, List.set_cons_succ]
      refine any_take 3 (some 19) (.int .u64 (topN (D s x))) rfl rfl (by kernel_rfl) (by kernel_rfl) (by kernel_rfl) (fun _ _ _ h => h) (yld_at (by kernel_rfl) 32 (.tmp 18) rfl g1 (i * 1) (by kernel_rfl) _ (fun _ h => own_rt (own_kept o1 h (by simp)) hx) _ Ybaf.underlying32 rfl) (by assumption) ?_
      simp only [Act.put, List.setIfInBounds_toArray, List.set_cons_zero, List.set_cons_succ]
      refine any_take 4 (some 20) (.slice (some ⟨g2, 0, none⟩) n c2) rfl rfl (by kernel_rfl) (by kernel_rfl) (by kernel_rfl) (fun _ _ _ h => h) (.inl ⟨by kernel_rfl, fun _ _ => by kernel_rfl⟩) (by assumption) ?_
      simp only [Act.put, List.setIfInBounds_toArray, List.set_cons_zero, List.set_cons_succ]
      refine any_take 5 (some 21) (.int .i64 (i : Nat)) rfl rfl (by kernel_rfl) (by kernel_rfl) (by kernel_rfl) (fun _ _ _ h => h) (.inl ⟨by kernel_rfl, fun _ _ => by kernel_rfl⟩) (by assumption) ?_
      simp only [Act.put, List.setIfInBounds_toArray, List.set_cons_zero, List.set_cons_succ]
      refine any_take 6 (some 22) (.pointer (some ⟨g2, i * 1, none⟩)) rfl rfl (by kernel_rfl) (by kernel_rfl) (by kernel_rfl) (fun _ _ _ h => h) (.inl ⟨by kernel_rfl, fun w' _ => exec_index (.tmp 20) (.tmp 21) rfl Ybaf.underlying30 hti hts g2 n c2 i hin (by kernel_rfl) (by kernel_rfl)⟩) (by assumption) ?_
      simp only [Act.put, List.setIfInBounds_toArray, List.set_cons_zero, List.set_cons_succ]
      refine any_take 7 (some 23) (.int .u64 (topN (D s x))) rfl rfl (by kernel_rfl) (by kernel_rfl) (by kernel_rfl) (fun _ _ _ h => h) (yld_at (by kernel_rfl) 32 (.tmp 22) rfl g2 (i * 1) (by kernel_rfl) _ (fun _ h => own_rt (own_kept o2 h (by simp)) hx) _ Ybaf.underlying32 rfl) (by assumption) ?_
      simp only [Act.put, List.setIfInBounds_toArray, List.set_cons_zero, List.set_cons_succ]
      refine any_take 8 (some 24) (.bool false) rfl rfl (by kernel_rfl) (by kernel_rfl) (by kernel_rfl) (fun _ _ _ h => h) (.inl ⟨by kernel_rfl, fun w' _ => (exec_neq32 (.tmp 19) (.tmp 23) rfl (topN (D s x)) (topN (D s x)) (by kernel_rfl) (by kernel_rfl)).trans (by simp)⟩) (by assumption) ?_
      simp only [Act.put, List.setIfInBounds_toArray, List.set_cons_zero, List.set_cons_succ]
      refine wpAnyH_done (by kernel_rfl) ?_ _
      have hg' : w.grownBy u1 none := hS
      clear hS
      go_wp2_with fail
      go_roundg (n - (i + 1))
      case measure => omega
      case rel => exact ⟨i + 1, by omega, by go_num, hg'⟩
    · have hin' : n = i := by omega
      subst hin'
      go_wp2_with fail
      refine bodyPost_ret (v := .bool true) (by kernel_rfl) rfl ⟨rfl, hg⟩

end Go.Proofs.YbulkdspqFmt
