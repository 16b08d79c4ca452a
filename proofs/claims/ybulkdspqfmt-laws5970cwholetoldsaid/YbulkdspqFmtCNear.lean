/-
  LawS5970CWhole: Nearest (17).
-/
import Derived.Test.YbulkdspqFmtCNearB
namespace Go.Proofs.YbulkdspqFmt
open Go.RowKit
set_option linter.unusedSimpArgs false
set_option linter.unusedVariables false

/-- Nearest's clockwise answer. -/
def nearC (s : Int) (ids refs : List Int) : Int := if refs = [] then ids.headD 0 else ((ids ++ refs).foldl (nx s ids) (false, 0)).2
/-- Nearest's last answer. -/
def nearOk (ids refs : List Int) : Bool := if refs = [] then !decide (ids = []) else true
/-- What Nearest answers. -/
def NearPost (w : World) (s : Int) (ids refs : List Int) (e : Ending) (w' : World) : Prop := ∃ cc, Sm cc ∧ e = .returned (.tuple #[.agg (ic (nearC s ids refs)).toArray, .agg (ic cc).toArray, .bool (nearOk ids refs)]) ∧ w.grownBy w' none
theorem sm0 : Sm 0 := by unfold Sm; omega
/-- The members behind the outer loop's rounds. -/
def pre (ids refs : List Int) : Nat → List Int
  | 0 => []
  | 1 => ids
  | _ => ids ++ refs
theorem own_cell {w : World} {v : Value} {n : Nat} {xs : List Value} (h : w.ownsRow 0 25 20 v n xs) : v.oneCell' = true := by
  obtain ⟨a, c, rfl, _⟩ := own_form h
  rfl

theorem NS.put0 {w0 w w' : World} {s c cc : Int} {f0 f1 : Bool} {d0 d1 : Int} {x : Nat} (h : NS w0 w s c cc f0 f1 d0 d1) (q : w.grownBy w' (some x)) (hx : x = w0.heap.size ∨ x = w0.heap.size + 1) (h2 : w'.heap[w0.heap.size]? = some (.cells (ic c).toArray 25 (0, 0))) (h3 : w'.heap[w0.heap.size + 1]? = some (.cells (ic cc).toArray 25 (0, 0))) : NS w0 w' s c cc f0 f1 d0 d1 :=
  ⟨⟨q.os.trans h.g.os, q.tape.trans h.g.tape, q.output.trans h.g.output, Nat.le_trans h.g.size q.size, fun i hi _ => (q.block i (by have := h.g.size; omega) (by simp; rcases hx with rfl | rfl <;> omega)).trans (h.g.block i hi (by simp))⟩, h2, h3, keep_blk q h.b5 (by simp; rcases hx with rfl | rfl <;> omega), keep_blk q h.b6 (by simp; rcases hx with rfl | rfl <;> omega), h.sc, h.scc, h.fd⟩

set_option maxRecDepth 100000 in
set_option maxHeartbeats 8000000 in
theorem near17 {w : World} {p : Nat} {s h : Int} {vi vt vr : Value} {ids refs : List Int} (gd : Good s ids refs) (t : TS w p s h vi vt vr ids refs) :
    Calls Ybaf.prog 17 #[.pointer (some ⟨p, 0, none⟩)] w (NearPost w s ids refs) := by
  obtain ⟨ti, hti, _, hts, _⟩ := info_parts info25
  obtain ⟨ai, ci, evi, fi⟩ := own_form t.oi
  obtain ⟨ar, cr, evr, fr⟩ := own_form t.orr
  subst evi evr
  have hli := gd.li
  have hlr := gd.lr
  have hs0 := gd.sm
  go_enter Ybaf.func17, Ybaf.ntmps17
  go_upto_region 1 with (refine wpList_is (.alloc 25) rfl ?_; refine wpList_alloc25 rfl rfl ?_)
  obtain ⟨u, hu⟩ : ∃ u, u = (w.alloc (.cells (ic 0).toArray 25)).alloc (.cells (ic 0).toArray 25) := ⟨_, rfl⟩
  have x2 : u.heap[w.heap.size]? = some (.cells (ic 0).toArray 25 (0, 0)) := by rw [hu]; exact blk_alloc (heap_alloc_new w _) _
  have x3 : u.heap[w.heap.size + 1]? = some (.cells (ic 0).toArray 25 (0, 0)) := by rw [hu]; exact blk_new _ _ _ _ (by simp)
  have g0 : w.grownBy u none := by rw [hu]; exact grown_trans (World.grownBy_alloc _ _ none) (World.grownBy_alloc _ _ none)
  have sz1 : (w.alloc (.cells (ic 0).toArray 25)).heap.size = w.heap.size + 1 := by simp
  have sz2 : u.heap.size = w.heap.size + 2 := by rw [hu]; simp
  rw [ic0, ← hu]
  try simp only [sz1]
  clear hu sz1
  have t1 := t.kept g0
  have hpl : p < w.heap.size := (Array.getElem?_eq_some_iff.1 t.blk).1
  by_cases hr : refs.length = 0
  · have er : refs = [] := List.eq_nil_of_length_eq_zero hr
    have hrd : decide ((refs.length : Int) = 0) = true := by simp [hr]
    by_cases hi : ids.length = 0
    · have ei : ids = [] := List.eq_nil_of_length_eq_zero hi
      have hid : decide ((ids.length : Int) = 0) = true := by simp [hi]
      have z1 : nearC s ids refs = 0 := by simp [nearC, er, ei]
      have z2 : nearOk ids refs = false := by simp [nearOk, er, ei]
      clear er ei hr hi
      go_wp2_with (first
        | (refine wpList_is (.load 27 (.tmp 17)) rfl ?_; refine wpList_load_cell rfl 27 (.tmp 17) rfl p 26 rfl _ _ t1.blk _ Ybaf.underlying27 rfl _ rfl ?_)
        | (refine wpList_is (.load 27 (.tmp 23)) rfl ?_; refine wpList_load_cell rfl 27 (.tmp 23) rfl p 24 rfl _ _ t1.blk _ Ybaf.underlying27 rfl _ rfl ?_)
        | (refine wpList_is (.binOp .eql 3 (.tmp 19) (.const (.int .i64 0)) 3) rfl ?_; refine wpList_exec rfl (.bool true) (hrd ▸ exec_eql3 (.tmp 19) (.const (.int .i64 0)) rfl (refs.length : Int) 0 rfl rfl) ?_)
        | (refine wpList_is (.binOp .eql 3 (.tmp 25) (.const (.int .i64 0)) 3) rfl ?_; refine wpList_exec rfl (.bool true) (hid ▸ exec_eql3 (.tmp 25) (.const (.int .i64 0)) rfl (ids.length : Int) 0 rfl rfl) ?_)
        | (refine wpList_is (.build 25 #[]) rfl ?_; refine wpList_exec rfl _ (exec_build25 rfl) ?_)
        | (refine wpList_is (.store 25 (.tmp 2) (.tmp 27)) rfl ?_; refine wpList_store_blk rfl 25 (.tmp 2) (.tmp 27) rfl w.heap.size (ic 0) rfl rfl _ _ x2 rfl (size25 _) (ic_one _) ?_; intro u2 y2 q2; have x3' := keep_blk q2 x3 (by simp))
        | (refine wpList_is (.store 25 (.tmp 3) (.tmp 28)) rfl ?_; refine wpList_store_blk rfl 25 (.tmp 3) (.tmp 28) rfl (w.heap.size + 1) (ic 0) rfl rfl _ _ x3' rfl (size25 _) (ic_one _) ?_; intro u3 y3 q3; have y2' := keep_blk q3 y2 (by simp)))
      refine bodyPost_ret (v := .tuple #[.agg (ic 0).toArray, .agg (ic 0).toArray, .bool false]) ?_ rfl ⟨0, sm0, by rw [z1, z2], ?_⟩
      · have l2 := run_load_blk (P := Ybaf.prog) y2' Ybaf.underlying25 rfl (size25 _)
        have l3 := run_load_blk (P := Ybaf.prog) y3 Ybaf.underlying25 rfl (size25 _)
        simp only [results, Ybaf.results17]
        simp [asAddr, Result.andThen, Act.put, l2, l3]
      · have s0 := g0.size
        have s2 := q2.size
        exact ⟨q3.os.trans (q2.os.trans g0.os), q3.tape.trans (q2.tape.trans g0.tape), q3.output.trans (q2.output.trans g0.output), by have := q3.size; omega, fun q hq _ => (q3.block q (by omega) (by simp; omega)).trans ((q2.block q (by omega) (by simp; omega)).trans (g0.block q hq (by simp)))⟩
    · have hid : decide ((ids.length : Int) = 0) = false := decide_eq_false (by omega)
      obtain ⟨gi, rfl⟩ := fi (by omega)
      obtain ⟨y0, hy0⟩ : ∃ y, ids[0]? = some y := ⟨_, List.getElem?_eq_getElem (by omega)⟩
      obtain ⟨k, hk⟩ : ∃ k, k = ids.length - 1 := ⟨_, rfl⟩
      obtain ⟨yk, hyk⟩ : ∃ y, ids[k]? = some y := ⟨_, List.getElem?_eq_getElem (by omega)⟩
      have hkn : k < ids.length := by omega
      have hkz : ((ids.length : Int) - 1) = (k : Int) := by omega
      have hsk := (gd.mi yk (List.mem_of_getElem? hyk)).1
      have z1 : nearC s ids refs = y0 := by
        cases ids with
        | nil => simp at hi
        | cons a b => simp at hy0; simp [nearC, er, hy0]
      have z2 : nearOk ids refs = true := by
        cases ids with
        | nil => simp at hi
        | cons a b => simp [nearOk, er]
      have b1 : -9223372036854775808 ≤ (ids.length : Int) - 1 := by omega
      have b2 : (ids.length : Int) - 1 < 9223372036854775808 := by omega
      have hi0 : 0 < ids.length := by omega
      clear er hr hi hk
      go_upto_region 4 with (first
        | (refine wpList_is (.load 27 (.tmp 17)) rfl ?_; refine wpList_load_cell rfl 27 (.tmp 17) rfl p 26 rfl _ _ t1.blk _ Ybaf.underlying27 rfl _ rfl ?_)
        | (refine wpList_is (.load 27 (.tmp 23)) rfl ?_; refine wpList_load_cell rfl 27 (.tmp 23) rfl p 24 rfl _ _ t1.blk _ Ybaf.underlying27 rfl _ rfl ?_)
        | (refine wpList_is (.binOp .eql 3 (.tmp 19) (.const (.int .i64 0)) 3) rfl ?_; refine wpList_exec rfl (.bool true) (hrd ▸ exec_eql3 (.tmp 19) (.const (.int .i64 0)) rfl (refs.length : Int) 0 rfl rfl) ?_)
        | (refine wpList_is (.binOp .eql 3 (.tmp 25) (.const (.int .i64 0)) 3) rfl ?_; refine wpList_exec rfl (.bool false) (hid ▸ exec_eql3 (.tmp 25) (.const (.int .i64 0)) rfl (ids.length : Int) 0 rfl rfl) ?_))
      refine wp_region_held (S := fun w' => TS w' p s h (.slice (some ⟨gi, 0, none⟩) ids.length ci) vt (.slice ar refs.length cr) ids refs) (by kernel_rfl) ?_
      have g1 : w.grownBy { u with drawn := u.drawn + 1 } none := grown_trans g0 (grown_drew u)
      have y2 := keep_blk (grown_drew u) x2 (by simp)
      have y3 := keep_blk (grown_drew u) x3 (by simp)
      have hS : (fun w' => TS w' p s h (.slice (some ⟨gi, 0, none⟩) ids.length ci) vt (.slice ar refs.length cr) ids refs) { u with drawn := u.drawn + 1 } := t1.kept (grown_drew u)
      clear x2 x3 t1 g0 sz2
      generalize ({ u with drawn := u.drawn + 1 } : World) = u1 at *
      refine any_take 0 (some 29) (.pointer (some ⟨p, 0, none⟩)) rfl rfl (by kernel_rfl) (by kernel_rfl) (by kernel_rfl) (fun _ _ _ h => h) (.inl ⟨by kernel_rfl, fun _ _ => by kernel_rfl⟩) (by assumption) ?_
      simp only [Act.put, List.setIfInBounds_toArray, List.set_cons_zero, List.set_cons_succ]
      refine any_take 1 (some 30) (.pointer (some ⟨p, 0, none⟩)) rfl rfl (by kernel_rfl) (by kernel_rfl) (by kernel_rfl) (fun _ _ _ h => h) (.inl ⟨by kernel_rfl, fun _ _ => by kernel_rfl⟩) (by assumption) ?_
      simp only [Act.put, List.setIfInBounds_toArray, List.set_cons_zero, List.set_cons_succ]
      refine any_take 2 (some 31) (.pointer (some ⟨p, 24, none⟩)) rfl rfl (by kernel_rfl) (by kernel_rfl) (by kernel_rfl) (fun _ _ _ h => h) (.inl ⟨by kernel_rfl, fun _ _ => by kernel_rfl⟩) (by assumption) ?_
      simp only [Act.put, List.setIfInBounds_toArray, List.set_cons_zero, List.set_cons_succ]
      refine any_take 3 (some 32) (.slice (some ⟨gi, 0, none⟩) ids.length ci) rfl rfl (by kernel_rfl) (by kernel_rfl) (by kernel_rfl) (fun _ _ _ h => h) (yld_cell (by kernel_rfl) 27 (.tmp 31) rfl p 24 (by kernel_rfl) _ _ (fun _ h => h.blk) _ Ybaf.underlying27 rfl _ rfl) (by assumption) ?_
      simp only [Act.put, List.setIfInBounds_toArray, List.set_cons_zero, List.set_cons_succ]
      refine any_take 4 (some 33) (.pointer (some ⟨gi, 0 * 20, none⟩)) rfl rfl (by kernel_rfl) (by kernel_rfl) (by kernel_rfl) (fun _ _ _ h => h) (.inl ⟨by kernel_rfl, fun w' _ => exec_index (.tmp 32) (.const (.int .i64 0)) rfl Ybaf.underlying27 hti hts gi ids.length ci 0 hi0 (by kernel_rfl) (by kernel_rfl)⟩) (by assumption) ?_
      simp only [Act.put, List.setIfInBounds_toArray, List.set_cons_zero, List.set_cons_succ]
      refine any_take 5 (some 34) (.agg (ic y0).toArray) rfl rfl (by kernel_rfl) (by kernel_rfl) (by kernel_rfl) (fun _ _ _ h => h) (yieldsIf_load_mid (by kernel_rfl) 25 (.tmp 33) rfl gi (0 * 20) (by kernel_rfl) (ic y0) _ (fun _ h => own_ti h.oi hy0) Ybaf.underlying25 rfl (size25 _)) (by assumption) ?_
      simp only [Act.put, List.setIfInBounds_toArray, List.set_cons_zero, List.set_cons_succ]
      refine any_take 6 (some 35) (.pointer (some ⟨p, 0, none⟩)) rfl rfl (by kernel_rfl) (by kernel_rfl) (by kernel_rfl) (fun _ _ _ h => h) (.inl ⟨by kernel_rfl, fun _ _ => by kernel_rfl⟩) (by assumption) ?_
      simp only [Act.put, List.setIfInBounds_toArray, List.set_cons_zero, List.set_cons_succ]
      refine any_take 7 (some 36) (.pointer (some ⟨p, 0, none⟩)) rfl rfl (by kernel_rfl) (by kernel_rfl) (by kernel_rfl) (fun _ _ _ h => h) (.inl ⟨by kernel_rfl, fun _ _ => by kernel_rfl⟩) (by assumption) ?_
      simp only [Act.put, List.setIfInBounds_toArray, List.set_cons_zero, List.set_cons_succ]
      refine any_take 8 (some 37) (.pointer (some ⟨p, 24, none⟩)) rfl rfl (by kernel_rfl) (by kernel_rfl) (by kernel_rfl) (fun _ _ _ h => h) (.inl ⟨by kernel_rfl, fun _ _ => by kernel_rfl⟩) (by assumption) ?_
      simp only [Act.put, List.setIfInBounds_toArray, List.set_cons_zero, List.set_cons_succ]
      refine any_take 9 (some 38) (.slice (some ⟨gi, 0, none⟩) ids.length ci) rfl rfl (by kernel_rfl) (by kernel_rfl) (by kernel_rfl) (fun _ _ _ h => h) (yld_cell (by kernel_rfl) 27 (.tmp 37) rfl p 24 (by kernel_rfl) _ _ (fun _ h => h.blk) _ Ybaf.underlying27 rfl _ rfl) (by assumption) ?_
      simp only [Act.put, List.setIfInBounds_toArray, List.set_cons_zero, List.set_cons_succ]
      refine any_take 10 (some 39) (.pointer (some ⟨p, 0, none⟩)) rfl rfl (by kernel_rfl) (by kernel_rfl) (by kernel_rfl) (fun _ _ _ h => h) (.inl ⟨by kernel_rfl, fun _ _ => by kernel_rfl⟩) (by assumption) ?_
      simp only [Act.put, List.setIfInBounds_toArray, List.set_cons_zero, List.set_cons_succ]
      refine any_take 11 (some 40) (.pointer (some ⟨p, 0, none⟩)) rfl rfl (by kernel_rfl) (by kernel_rfl) (by kernel_rfl) (fun _ _ _ h => h) (.inl ⟨by kernel_rfl, fun _ _ => by kernel_rfl⟩) (by assumption) ?_
      simp only [Act.put, List.setIfInBounds_toArray, List.set_cons_zero, List.set_cons_succ]
      refine any_take 12 (some 41) (.pointer (some ⟨p, 24, none⟩)) rfl rfl (by kernel_rfl) (by kernel_rfl) (by kernel_rfl) (fun _ _ _ h => h) (.inl ⟨by kernel_rfl, fun _ _ => by kernel_rfl⟩) (by assumption) ?_
      simp only [Act.put, List.setIfInBounds_toArray, List.set_cons_zero, List.set_cons_succ]
      refine any_take 13 (some 42) (.slice (some ⟨gi, 0, none⟩) ids.length ci) rfl rfl (by kernel_rfl) (by kernel_rfl) (by kernel_rfl) (fun _ _ _ h => h) (yld_cell (by kernel_rfl) 27 (.tmp 41) rfl p 24 (by kernel_rfl) _ _ (fun _ h => h.blk) _ Ybaf.underlying27 rfl _ rfl) (by assumption) ?_
      simp only [Act.put, List.setIfInBounds_toArray, List.set_cons_zero, List.set_cons_succ]
      refine any_take 14 (some 43) (.int .i64 ids.length) rfl rfl (by kernel_rfl) (by kernel_rfl) (by kernel_rfl) (fun _ _ _ h => h) (.inl ⟨by kernel_rfl, fun _ _ => by kernel_rfl⟩) (by assumption) ?_
      simp only [Act.put, List.setIfInBounds_toArray, List.set_cons_zero, List.set_cons_succ]
      refine any_take 15 (some 44) (.int .i64 (k : Int)) rfl rfl (by kernel_rfl) (by kernel_rfl) (by kernel_rfl) (fun _ _ _ h => h) (.inl ⟨by kernel_rfl, fun w' _ => hkz ▸ exec_sub3 (.tmp 43) (.const (.int .i64 1)) rfl (ids.length : Int) 1 b1 b2 (by kernel_rfl) (by kernel_rfl)⟩) (by assumption) ?_
      simp only [Act.put, List.setIfInBounds_toArray, List.set_cons_zero, List.set_cons_succ]
      refine any_take 16 (some 45) (.pointer (some ⟨gi, k * 20, none⟩)) rfl rfl (by kernel_rfl) (by kernel_rfl) (by kernel_rfl) (fun _ _ _ h => h) (.inl ⟨by kernel_rfl, fun w' _ => exec_index (.tmp 38) (.tmp 44) rfl Ybaf.underlying27 hti hts gi ids.length ci k hkn (by kernel_rfl) (by kernel_rfl)⟩) (by assumption) ?_
      simp only [Act.put, List.setIfInBounds_toArray, List.set_cons_zero, List.set_cons_succ]
      refine any_take 17 (some 46) (.agg (ic yk).toArray) rfl rfl (by kernel_rfl) (by kernel_rfl) (by kernel_rfl) (fun _ _ _ h => h) (yieldsIf_load_mid (by kernel_rfl) 25 (.tmp 45) rfl gi (k * 20) (by kernel_rfl) (ic yk) _ (fun _ h => own_ti h.oi hyk) Ybaf.underlying25 rfl (size25 _)) (by assumption) ?_
      simp only [Act.put, List.setIfInBounds_toArray, List.set_cons_zero, List.set_cons_succ]
      have ap : ∀ {w1 w2 : World} {x : Nat}, w.grownBy w1 none → w1.grownBy w2 (some x) → w.heap.size ≤ x → w.grownBy w2 none := fun g q hx => ⟨q.os.trans g.os, q.tape.trans g.tape, q.output.trans g.output, Nat.le_trans g.size q.size, fun i hi _ => (q.block i (by have := g.size; omega) (by simp; omega)).trans (g.block i hi (by simp))⟩
      refine any_store_blk 18 rfl rfl (by kernel_rfl) (by kernel_rfl) 25 (.tmp 2) (.tmp 34) rfl w.heap.size (ic y0) (by kernel_rfl) (by kernel_rfl) _ _ y2 rfl (size25 _) (ic_one _) ?_
      intro u2 z3 q2
      have g2 := ap g1 q2 (by omega)
      have hS2 : (fun w' => TS w' p s h (.slice (some ⟨gi, 0, none⟩) ids.length ci) vt (.slice ar refs.length cr) ids refs) u2 := t.kept g2
      refine ⟨hS2, ?_⟩
      simp only [Act.put]
      refine any_store_blk 19 rfl rfl (by kernel_rfl) (by kernel_rfl) 25 (.tmp 3) (.tmp 46) rfl (w.heap.size + 1) (ic yk) (by kernel_rfl) (by kernel_rfl) _ _ (keep_blk q2 y3 (by simp)) rfl (size25 _) (ic_one _) ?_
      intro u3 z4 q3
      have g3 := ap g2 q3 (by omega)
      have z3' := keep_blk q3 z3 (by simp)
      have hS3 : (fun w' => TS w' p s h (.slice (some ⟨gi, 0, none⟩) ids.length ci) vt (.slice ar refs.length cr) ids refs) u3 := t.kept g3
      refine ⟨hS3, ?_⟩
      simp only [Act.put]
      refine any_take 20 (some 4) (.bool true) rfl rfl (by kernel_rfl) (by kernel_rfl) (by kernel_rfl) (fun _ _ _ h => h) (.inl ⟨by kernel_rfl, fun _ _ => by kernel_rfl⟩) (by assumption) ?_
      simp only [Act.put, List.setIfInBounds_toArray, List.set_cons_zero, List.set_cons_succ]
      refine wpAnyH_done (by kernel_rfl) ?_ _
      clear hS hS2 hS3
      go_wp2_with fail
      refine bodyPost_ret (v := .tuple #[.agg (ic y0).toArray, .agg (ic yk).toArray, .bool true]) ?_ rfl ⟨yk, hsk, by rw [z1, z2], g3⟩
      have l2 := run_load_blk (P := Ybaf.prog) z3' Ybaf.underlying25 rfl (size25 _)
      have l3 := run_load_blk (P := Ybaf.prog) z4 Ybaf.underlying25 rfl (size25 _)
      simp only [results, Ybaf.results17]
      simp [asAddr, Result.andThen, Act.put, l2, l3]
  · have hrd : decide ((refs.length : Int) = 0) = false := decide_eq_false (by omega)
    have hrn : refs ≠ [] := by rintro rfl; exact hr rfl
    have z1 : nearC s ids refs = ((ids ++ refs).foldl (nx s ids) (false, 0)).2 := by simp [nearC, hrn]
    have z2 : nearOk ids refs = true := by simp [nearOk, hrn]
    clear hr hrn
    go_upto_region 7 with (first
      | (refine wpList_is (.load 27 (.tmp 17)) rfl ?_; refine wpList_load_cell rfl 27 (.tmp 17) rfl p 26 rfl _ _ t1.blk _ Ybaf.underlying27 rfl _ rfl ?_)
      | (refine wpList_is (.binOp .eql 3 (.tmp 19) (.const (.int .i64 0)) 3) rfl ?_; refine wpList_exec rfl (.bool false) (hrd ▸ exec_eql3 (.tmp 19) (.const (.int .i64 0)) rfl (refs.length : Int) 0 rfl rfl) ?_)
      | (refine wpList_is (.alloc 64) rfl ?_; refine wpList_alloc64 rfl rfl ?_)
      | (refine wpList_is (.build 65 #[]) rfl ?_; refine wpList_exec rfl _ (exec_build65 rfl) ?_)
      | (refine wpList_is (.alloc 65) rfl ?_; refine wpList_alloc65 rfl rfl ?_; have sz3 : (u.alloc (.cells (uN 0 ++ uN 0).toArray 64)).heap.size = w.heap.size + 3 := by { simp [sz2] }; rw [sz3])
      | (refine wpList_is (.store 65 (.tmp 6) (.tmp 47)) rfl ?_; refine wpList_store_blk rfl 65 (.tmp 6) (.tmp 47) rfl (w.heap.size + 3) [.bool false, .bool false] rfl rfl _ _ (blk_new _ _ _ _ sz3.symm) rfl (size65 _ _) (by simp [Value.oneCell']) ?_; intro u2 y6 q2))
    have g2 : u.grownBy u2 none := by
      have e := World.grownBy_alloc u (.cells (uN 0 ++ uN 0).toArray 64) none
      have k : (u.alloc (.cells (uN 0 ++ uN 0).toArray 64)).grownBy u2 none := by
        rw [← sz3] at q2
        exact grown_new q2
      exact grown_trans e k
    have y5 : u2.heap[w.heap.size + 2]? = some (.cells (uN 0 ++ uN 0).toArray 64 (0, 0)) := keep_blk q2 (blk_alloc (blk_new _ _ _ _ sz2.symm) _) (by simp)
    have n2 : NS w u2 s 0 0 false false 0 0 := ⟨grown_trans g0 g2, keep_blk g2 x2 (by simp), keep_blk g2 x3 (by simp), y5, y6, sm0, sm0, by simp⟩
    rw [sz2]
    clear sz3 q2 g2 y5 y6 x2 x3 g0 t1 sz2
    refine wp_region_held (S := fun w' => TS w' p s h (.slice ai ids.length ci) vt (.slice ar refs.length cr) ids refs) (by kernel_rfl) ?_
    have n3 := n2.kept (grown_drew u2)
    have hS : (fun w' => TS w' p s h (.slice ai ids.length ci) vt (.slice ar refs.length cr) ids refs) { u2 with drawn := u2.drawn + 1 } := t.kept n3.g
    clear n2
    generalize ({ u2 with drawn := u2.drawn + 1 } : World) = u3 at *
    refine any_take 0 (some 48) (.pointer (some ⟨p, 0, none⟩)) rfl rfl (by kernel_rfl) (by kernel_rfl) (by kernel_rfl) (fun _ _ _ h => h) (.inl ⟨by kernel_rfl, fun _ _ => by kernel_rfl⟩) (by assumption) ?_
    simp only [Act.put, List.setIfInBounds_toArray, List.set_cons_zero, List.set_cons_succ]
    refine any_take 1 (some 49) (.pointer (some ⟨p, 0, none⟩)) rfl rfl (by kernel_rfl) (by kernel_rfl) (by kernel_rfl) (fun _ _ _ h => h) (.inl ⟨by kernel_rfl, fun _ _ => by kernel_rfl⟩) (by assumption) ?_
    simp only [Act.put, List.setIfInBounds_toArray, List.set_cons_zero, List.set_cons_succ]
    refine any_take 2 (some 50) (.pointer (some ⟨p, 24, none⟩)) rfl rfl (by kernel_rfl) (by kernel_rfl) (by kernel_rfl) (fun _ _ _ h => h) (.inl ⟨by kernel_rfl, fun _ _ => by kernel_rfl⟩) (by assumption) ?_
    simp only [Act.put, List.setIfInBounds_toArray, List.set_cons_zero, List.set_cons_succ]
    refine any_take 3 (some 51) (.slice ai ids.length ci) rfl rfl (by kernel_rfl) (by kernel_rfl) (by kernel_rfl) (fun _ _ _ h => h) (yld_cell (by kernel_rfl) 27 (.tmp 50) rfl p 24 (by kernel_rfl) _ _ (fun _ h => h.blk) _ Ybaf.underlying27 rfl _ rfl) (by assumption) ?_
    simp only [Act.put, List.setIfInBounds_toArray, List.set_cons_zero, List.set_cons_succ]
    refine any_take 4 (some 52) (.pointer (some ⟨p, 0, none⟩)) rfl rfl (by kernel_rfl) (by kernel_rfl) (by kernel_rfl) (fun _ _ _ h => h) (.inl ⟨by kernel_rfl, fun _ _ => by kernel_rfl⟩) (by assumption) ?_
    simp only [Act.put, List.setIfInBounds_toArray, List.set_cons_zero, List.set_cons_succ]
    refine any_take 5 (some 53) (.pointer (some ⟨p, 0, none⟩)) rfl rfl (by kernel_rfl) (by kernel_rfl) (by kernel_rfl) (fun _ _ _ h => h) (.inl ⟨by kernel_rfl, fun _ _ => by kernel_rfl⟩) (by assumption) ?_
    simp only [Act.put, List.setIfInBounds_toArray, List.set_cons_zero, List.set_cons_succ]
    refine any_take 6 (some 54) (.pointer (some ⟨p, 26, none⟩)) rfl rfl (by kernel_rfl) (by kernel_rfl) (by kernel_rfl) (fun _ _ _ h => h) (.inl ⟨by kernel_rfl, fun _ _ => by kernel_rfl⟩) (by assumption) ?_
    simp only [Act.put, List.setIfInBounds_toArray, List.set_cons_zero, List.set_cons_succ]
    refine any_take 7 (some 55) (.slice ar refs.length cr) rfl rfl (by kernel_rfl) (by kernel_rfl) (by kernel_rfl) (fun _ _ _ h => h) (yld_cell (by kernel_rfl) 27 (.tmp 54) rfl p 26 (by kernel_rfl) _ _ (fun _ h => h.blk) _ Ybaf.underlying27 rfl _ rfl) (by assumption) ?_
    simp only [Act.put, List.setIfInBounds_toArray, List.set_cons_zero, List.set_cons_succ]
    refine any_take 8 (some 56) (.agg [.slice ai ids.length ci, .slice ar refs.length cr].toArray) rfl rfl (by kernel_rfl) (by kernel_rfl) (by kernel_rfl) (fun _ _ _ h => h) (.inl ⟨by kernel_rfl, fun _ _ => by kernel_rfl⟩) (by assumption) ?_
    simp only [Act.put, List.setIfInBounds_toArray, List.set_cons_zero, List.set_cons_succ]
    refine any_take 9 (some 57) (.int .i64 0) rfl rfl (by kernel_rfl) (by kernel_rfl) (by kernel_rfl) (fun _ _ _ h => h) (.inl ⟨by kernel_rfl, fun _ _ => by kernel_rfl⟩) (by assumption) ?_
    simp only [Act.put, List.setIfInBounds_toArray, List.set_cons_zero, List.set_cons_succ]
    refine wpAnyH_done (by kernel_rfl) ?_ _
    clear hS
    go_wp2_with fail
    go_loopg [57] 2 (fun g v wr => ∃ (i : Nat) (c cc : Int) (f0 f1 : Bool) (d0 d1 : Int), i + g = 2 ∧ v = .int .i64 i ∧ Aside ((f0, c) = (pre ids refs i).foldl (nx s ids) (false, 0)) ∧ NS w wr s c cc f0 f1 d0 d1)
    case atStart => exact ⟨0, 0, 0, false, false, 0, 0, by omega, rfl, rfl, n3⟩
    case round =>
      obtain ⟨i, c, cc, f0, f1, d0, d1, hi2, rfl, B, n4⟩ := hrel
      by_cases hin : i < 2
      · obtain ⟨ys, ay, cy, hv, hown, hys, hpre, hyl⟩ : ∃ ys ay cy, [Value.slice ai ids.length ci, Value.slice ar refs.length cr][i]? = some (.slice ay ys.length cy) ∧ w.ownsRow 0 25 20 (.slice ay ys.length cy) ys.length (ys.flatMap ic) ∧ (∀ y ∈ ys, Sm y) ∧ Aside (pre ids refs (i + 1) = pre ids refs i ++ ys) ∧ ys.length ≤ 4096 := by
          match i, hin with
          | 0, _ => exact ⟨ids, ai, ci, rfl, t.oi, fun y hy => (gd.mi y hy).1, by simp [Aside, pre], hli⟩
          | 1, _ => exact ⟨refs, ar, cr, rfl, t.orr, gd.mr, by simp [Aside, pre], hlr⟩
        have hin' : (i : Int) < 2 := by omega
        have h0c : (Value.slice ai ids.length ci).oneCell' = true := rfl
        have h1c : (Value.slice ar refs.length cr).oneCell' = true := rfl
        obtain ⟨ay', cy', eyv, fy⟩ := own_form hown
        injection eyv with e1 e2 e3
        subst e1 e3
        clear e2
        have HV : Aside ([Value.slice ai ids.length ci, Value.slice ar refs.length cr][i]? = some (.slice ay ys.length cy)) := hv
        clear hv
        go_wp2_with (refine wpList_is (.index 66 (.tmp 56) (.tmp 57)) rfl ?_; refine wpList_exec rfl (.slice ay ys.length cy) (exec_index66 (.tmp 56) (.tmp 57) rfl _ _ h0c h1c i _ HV.out rfl rfl) ?_)
        go_loopg [62] ys.length (fun g v wr => ∃ (j : Nat) (c' cc : Int) (f0' f1 : Bool) (d0 d1 : Int), j + g = ys.length ∧ v = .int .i64 j ∧ Aside ((f0', c') = (ys.take j).foldl (nx s ids) (f0, c)) ∧ NS w wr s c' cc f0' f1 d0 d1)
        case atStart => exact ⟨0, c, cc, f0, f1, d0, d1, by omega, rfl, rfl, n4⟩
        case round =>
          obtain ⟨j, c', cc', f0', f1', d0', d1', hj, rfl, B', n5⟩ := hrel
          by_cases hjn : j < ys.length
          · obtain ⟨y, hy⟩ : ∃ y, ys[j]? = some y := ⟨_, List.getElem?_eq_getElem hjn⟩
            have hsy := hys y (List.mem_of_getElem? hy)
            have hjn' : (j : Int) < (ys.length : Int) := by omega
            obtain ⟨gy, rfl⟩ := fy (by omega)
            have n5' := n5
            have ry : wr.rangeAt gy (j * 20) (ic y) := own_ti (own_kept hown n5.g (by simp)) hy
            go_upto_region 13 with (first
              | (refine wpList_is (.indexAddr 27 (.tmp 60) (.tmp 62)) rfl ?_; refine wpList_exec rfl _ (exec_index (.tmp 60) (.tmp 62) rfl Ybaf.underlying27 hti hts gy ys.length cy j hjn rfl rfl) ?_)
              | (refine wpList_is (.load 25 (.tmp 64)) rfl ?_; refine wpList_load_mid rfl 25 (.tmp 64) rfl gy (j * 20) rfl (ic y) _ ry Ybaf.underlying25 rfl (size25 _) ?_)
              | (refine wpList_is (.alloc 25) rfl ?_; refine wpList_alloc25 rfl rfl ?_)
              | (refine wpList_is (.store 25 (.tmp 10) (.tmp 65)) rfl ?_; refine wpList_store_blk rfl 25 (.tmp 10) (.tmp 65) rfl wr.heap.size (ic y) rfl rfl _ _ (heap_alloc_new wr _) rfl (size25 _) (ic_one _) ?_; intro u5 y5 q5; have k5 : wr.grownBy u5 none := grown_new q5; clear q5))
            rename_i K hK
            have HK : Hid _ := hK
            clear hK
            have n6 := n5.kept k5
            clear n5 ry
            go_wp2_with (refine wpList_is (.load 25 (.tmp 10)) rfl ?_; refine wpList_load_blk rfl 25 (.tmp 10) rfl wr.heap.size rfl (ic y) 25 y5 _ Ybaf.underlying25 rfl (size25 _) ?_)
            refine (adj22 gd hsy (t.kept n6.g)).mono ?_
            rintro e u6 ⟨rfl, q6⟩
            have n7 := n6.kept q6
            have y6 := keep_blk q6 y5 (by simp)
            clear n6 y5
            go_wp2_with fail
            unfold Hid at HK
            refine HK _ _ ?_
            clear HK
            obtain ⟨yb, eyb⟩ : ∃ b, b = wr.heap.size := ⟨_, rfl⟩
            have hyb : w.heap.size + 3 < yb := by
              have := n5'.lt
              omega
            rw [← eyb] at y6 ⊢
            clear eyb n5'
            refine wp_seq ?_
            refine wp_mono (partA w u6 p yb s h c' cc' d0' d1' y f0' f1' (cwB s ids y) _ vt _ ids refs hs0 hsy t n7 y6 hyb rfl _ _ _ _ _ _ _ _ _ _ _ _ _ _ _ _ _ _ _ _ _ _ _ _ _ _ _ _ _ _ _ _ _ _ _ _ _ _ _ _ _ _ _ _ _ _ _ _ _ _ _ _ _ _ _ _ _ _ _ _ _ _ _ _ _ _ _ _ _ _ _ _ _ _ _ _ _ _ _ _ _ _ _ _ _ _ _ _ _ _ _ _ _ _ _ _ _ _ _ _ _ _ _ _ _ _ _ _ _ _ _ _) ?_
            clear n7 y6
            rintro e a' u7 ⟨rfl, c2, f2, d2, t11, t13, t72, t73, t74, t75, t76, t77, t78, t79, t80, t81, t82, t83, t84, t85, t86, t87, t88, t89, t90, rfl, B2, n7, y6⟩
            dsimp only [Exit.then]
            refine wp_mono (partB w u7 p yb s h c2 cc' d2 d1' y f2 f1' (ccB s ids y) _ vt _ ids refs hs0 hsy t n7 y6 hyb _ _ _ _ _ _ _ _ _ _ _ _ _ _ _ _ _ _ _ _ _ _ _ _ _ _ _ _ _ _ _ _ _ _ _ _ _ _ _ _ _ _ _ _ _ _ _ _ _ _ _ _ _ _ _ _ _ _ _ _ _ _ _ _ _ _ _ _ _ _ _ _ _ _ _ _ _ _ _ _ _ _ _ _ _ _ _ _ _ _ _ _ _ _ _ _ _ _ _ _ _ _ _ _ _ _ _ _ _ _ _ _) ?_
            clear n7 y6
            rintro e a' u8 ⟨rfl, cc3, f3, d3, t12, t14, t91, t92, t93, t94, t95, t96, t97, t98, t99, t100, t101, t102, t103, t104, t105, t106, t107, t108, t109, t110, t111, t112, t113, t114, rfl, n8⟩
            dsimp only [Exit.then, Exit.inBlock]
            have B3 : Aside ((f2, c2) = (ys.take (j + 1)).foldl (nx s ids) (f0, c)) := by
              have e1 : ys.take (j + 1) = ys.take j ++ [y] := by
                rw [List.take_add_one, hy]
                rfl
              unfold Aside
              rw [e1, List.foldl_append, ← B'.out, B2]
              rfl
            clear B2
            go_wp2_with fail
            go_roundg (ys.length - (j + 1))
            case measure => omega
            case rel => exact ⟨j + 1, c2, cc3, f2, f3, d2, d3, by omega, by go_num, B3.out, n8⟩
          · have ej : j = ys.length := by omega
            have B3 : Aside ((f0', c') = (pre ids refs (i + 1)).foldl (nx s ids) (false, 0)) := by
              unfold Aside
              rw [hpre.out, List.foldl_append, ← B.out, B'.out, ej, List.take_length]
            clear B'
            subst ej
            go_wp2_with fail
            go_roundg (2 - (i + 1))
            case measure => omega
            case rel => exact ⟨i + 1, c', cc', f0', f1', d0', d1', by omega, by go_num, B3.out, n5⟩
      · have ei : i = 2 := by omega
        subst ei
        have hc : c = nearC s ids refs := by
          rw [z1]
          have := B.out
          simp only [pre] at this
          rw [← this]
        clear B z1
        go_upto_region 22 with fail
        refine wp_region_held (S := fun w' : World => NS w w' s c cc f0 f1 d0 d1) (by kernel_rfl) ?_
        have hS : (fun w' : World => NS w w' s c cc f0 f1 d0 d1) { wr with drawn := wr.drawn + 1 } := n4.kept (grown_drew wr)
        clear n4
        generalize ({ wr with drawn := wr.drawn + 1 } : World) = u9 at hS ⊢
        refine any_take 0 (some 117) (.agg (ic c).toArray) rfl rfl (by kernel_rfl) (by kernel_rfl) (by kernel_rfl) (fun _ _ _ h => h) (yld_blk (by kernel_rfl) 25 (.tmp 2) rfl w.heap.size (by kernel_rfl) (ic c) 25 (fun _ h => h.b2) _ Ybaf.underlying25 rfl (size25 _)) (by assumption) ?_
        simp only [Act.put, List.setIfInBounds_toArray, List.set_cons_zero, List.set_cons_succ]
        refine any_take 1 (some 118) (.agg (ic cc).toArray) rfl rfl (by kernel_rfl) (by kernel_rfl) (by kernel_rfl) (fun _ _ _ h => h) (yld_blk (by kernel_rfl) 25 (.tmp 3) rfl (w.heap.size + 1) (by kernel_rfl) (ic cc) 25 (fun _ h => h.b3) _ Ybaf.underlying25 rfl (size25 _)) (by assumption) ?_
        simp only [Act.put, List.setIfInBounds_toArray, List.set_cons_zero, List.set_cons_succ]
        refine any_store_blk 2 rfl rfl (by kernel_rfl) (by kernel_rfl) 25 (.tmp 2) (.tmp 117) rfl w.heap.size (ic c) (by kernel_rfl) (by kernel_rfl) _ _ hS.b2 rfl (size25 _) (ic_one _) ?_
        intro uB hB qB
        have hSB : (fun w' : World => NS w w' s c cc f0 f1 d0 d1) uB := hS.put0 qB (.inl rfl) hB (keep_blk qB hS.b3 (by simp))
        refine ⟨hSB, ?_⟩
        simp only [Act.put]
        refine any_store_blk 3 rfl rfl (by kernel_rfl) (by kernel_rfl) 25 (.tmp 3) (.tmp 118) rfl (w.heap.size + 1) (ic cc) (by kernel_rfl) (by kernel_rfl) _ _ hSB.b3 rfl (size25 _) (ic_one _) ?_
        intro uC hC qC
        have hSC : (fun w' : World => NS w w' s c cc f0 f1 d0 d1) uC := hSB.put0 qC (.inr rfl) (keep_blk qC hSB.b2 (by simp)) hC
        refine ⟨hSC, ?_⟩
        simp only [Act.put]
        refine any_take 4 (some 4) (.bool true) rfl rfl (by kernel_rfl) (by kernel_rfl) (by kernel_rfl) (fun _ _ _ h => h) (.inl ⟨by kernel_rfl, fun _ _ => by kernel_rfl⟩) (by assumption) ?_
        simp only [Act.put, List.setIfInBounds_toArray, List.set_cons_zero, List.set_cons_succ]
        refine wpAnyH_done (by kernel_rfl) ?_ _
        have n9 : NS w uC s c cc f0 f1 d0 d1 := hSC
        clear hS hSB hSC
        go_wp2_with fail
        refine bodyPost_ret (v := .tuple #[.agg (ic c).toArray, .agg (ic cc).toArray, .bool true]) ?_ rfl ⟨cc, n9.scc, by rw [hc, z2], n9.g⟩
        have l2 := run_load_blk (P := Ybaf.prog) n9.b2 Ybaf.underlying25 rfl (size25 _)
        have l3 := run_load_blk (P := Ybaf.prog) n9.b3 Ybaf.underlying25 rfl (size25 _)
        simp only [results, Ybaf.results17]
        simp [asAddr, Result.andThen, Act.put, l2, l3]
end Go.Proofs.YbulkdspqFmt
