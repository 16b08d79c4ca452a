/-
  LawS5970CWhole: the trustset in memory; the distance from its node (23).
-/
import Derived.Test.YbulkdspqFmtCTs
namespace Go.Proofs.YbulkdspqFmt
open Go.RowKit
set_option linter.unusedSimpArgs false
set_option linter.unusedVariables false

theorem range_keep {w w' : World} {row : Option Nat} {b o : Nat} {cs : List Value} (hg : w.grownBy w' row) (h : w.rangeAt b o cs) (hb : b < w.heap.size) (hne : some b ≠ row) : w'.rangeAt b o cs := by
  intro j v hv
  have := h j v hv
  simp only [World.cell?] at this ⊢
  rw [hg.block b hb hne]
  exact this
theorem range_heap {w w' : World} {b o : Nat} {cs : List Value} (he : w'.heap = w.heap) (h : w.rangeAt b o cs) : w'.rangeAt b o cs := by
  intro j v hv
  have := h j v hv
  simp only [World.cell?] at this ⊢
  rw [he]
  exact this
theorem range_lt {w : World} {b o : Nat} {x : Int} (h : w.rangeAt b o (ic x)) : b < w.heap.size := by
  have h0 := h 0 _ (ab_get _ 0 (by omega))
  rcases Nat.lt_or_ge b w.heap.size with h1 | h1
  · exact h1
  · simp [World.cell?, Array.getElem?_eq_none h1] at h0
theorem range_kept {w w' : World} {b o : Nat} {x : Int} (h : w.rangeAt b o (ic x)) (hg : w.grownBy w' none) : w'.rangeAt b o (ic x) := range_keep hg h (range_lt h) (by simp)
/-- The cells of a trustset. -/
def tsc (s h : Int) (vi vt vr : Value) : List Value := ab (cf s) ++ uN (nm (cf s)) ++ [.int .i64 h, vi, vt, vr]
theorem tsc_len (s h : Int) (vi vt vr : Value) : (tsc s h vi vt vr).length = 27 := rfl
theorem tsc_self {w : World} {p : Nat} {s h : Int} {vi vt vr : Value} (hb : w.heap[p]? = some (.cells (tsc s h vi vt vr).toArray 43 (0, 0))) : w.rangeAt p 0 (ic s) := by
  intro j v hv
  refine range_of_blk hb j v ?_
  have hj : j < 20 := by have := (List.getElem?_eq_some_iff.1 hv).1; simpa [ab_len] using this
  unfold tsc
  rw [List.append_assoc, List.getElem?_append_left (by rw [ab_len]; exact hj)]
  exact hv
theorem tsc_from {w : World} {p : Nat} {s h : Int} {vi vt vr : Value} (hb : w.heap[p]? = some (.cells (tsc s h vi vt vr).toArray 43 (0, 0))) : w.rangeAt p 20 (uN (nm (cf s))) := by
  intro j v hv
  have hj : j < 3 := (List.getElem?_eq_some_iff.1 hv).1
  have := range_of_blk hb (20 + j) v (by
    unfold tsc
    rw [List.append_assoc, List.getElem?_append_right (by rw [ab_len]; omega), ab_len, Nat.add_sub_cancel_left, List.getElem?_append_left (by exact hj)]
    exact hv)
  rwa [Nat.zero_add] at this
theorem size41n (n : Int) : (Ybaf.prog.info? 41).map (·.size) = some (uN n).length := size41 _ _ _
theorem un_one (n : Int) : ∀ v ∈ uN n, v.oneCell' = true := uc_one _ _ _
/-- The cell of a top. -/
abbrev tpc (s x : Int) : List Value := [.int .u64 (topN (D s x))]
/-- A trustset in memory. -/
structure TS (w : World) (p : Nat) (s h : Int) (vi vt vr : Value) (ids refs : List Int) : Prop where
  blk : w.heap[p]? = some (.cells (tsc s h vi vt vr).toArray 43 (0, 0))
  oi : w.ownsRow 0 25 20 vi ids.length (ids.flatMap ic)
  ot : w.ownsRow 0 32 1 vt ids.length (ids.flatMap (tpc s))
  orr : w.ownsRow 0 25 20 vr refs.length (refs.flatMap ic)
theorem TS.kept {w w' : World} {p : Nat} {s h : Int} {vi vt vr : Value} {ids refs : List Int} (t : TS w p s h vi vt vr ids refs) (hg : w.grownBy w' none) : TS w' p s h vi vt vr ids refs :=
  ⟨keep_blk hg t.blk (by simp), own_kept t.oi hg (by simp), own_kept t.ot hg (by simp), own_kept t.orr hg (by simp)⟩
/-- What holds of the members and of the refused. -/
structure Good (s : Int) (ids refs : List Int) : Prop where
  sm : Sm s
  ord : Ord s ids
  mi : ∀ x ∈ ids, Sm x ∧ x ≠ s
  mr : ∀ x ∈ refs, Sm x
  li : ids.length ≤ 4096
  lr : refs.length ≤ 4096
theorem top_bd (s x : Int) : 0 ≤ topN (D s x) ∧ topN (D s x) < 18446744073709551616 := by
  have h1 := D_bd s x
  have h2 : D s x < 1461501637330902918203684832716283019655932542976 := h1.2
  unfold topN
  omega

set_option maxRecDepth 100000 in
theorem dist23 {w : World} {p b o : Nat} {s h x : Int} {vi vt vr : Value} (hs : Sm s) (hx : Sm x) (hb : w.heap[p]? = some (.cells (tsc s h vi vt vr).toArray 43 (0, 0))) (hr : w.rangeAt b o (ic x)) :
    Calls Ybaf.prog 23 #[.pointer (some ⟨p, 0, none⟩), .pointer (some ⟨b, o, none⟩)] w fun e w' => e = .returned (.agg (uN (D s x)).toArray) ∧ w.grownBy w' none := by
  go_enter Ybaf.func23, Ybaf.ntmps23
  go_upto_region 1 with (refine wpList_is (.alloc 41) rfl ?_; refine wpList_alloc41 rfl rfl ?_)
  have x0 : (w.alloc (.cells (uc 0 0 0).toArray 41)).heap[w.heap.size]? = some (.cells (uc 0 0 0).toArray 41 (0, 0)) := heap_alloc_new w _
  have hg0 : w.grownBy (w.alloc (.cells (uc 0 0 0).toArray 41)) none := World.grownBy_alloc _ _ none
  refine wp_region_held (S := fun w' : World => w'.heap[p]? = some (.cells (tsc s h vi vt vr).toArray 43 (0, 0)) ∧ w'.rangeAt b o (ic x)) (by kernel_rfl) ?_
  have g1 : w.grownBy { (w.alloc (.cells (uc 0 0 0).toArray 41)) with drawn := (w.alloc (.cells (uc 0 0 0).toArray 41)).drawn + 1 } none := grown_trans hg0 (grown_drew _)
  have x1 : ({ (w.alloc (.cells (uc 0 0 0).toArray 41)) with drawn := (w.alloc (.cells (uc 0 0 0).toArray 41)).drawn + 1 } : World).heap[w.heap.size]? = some (.cells (uc 0 0 0).toArray 41 (0, 0)) := x0
  clear x0 hg0
  generalize ({ (w.alloc (.cells (uc 0 0 0).toArray 41)) with drawn := (w.alloc (.cells (uc 0 0 0).toArray 41)).drawn + 1 } : World) = u at *
  have hS : (fun w' : World => w'.heap[p]? = some (.cells (tsc s h vi vt vr).toArray 43 (0, 0)) ∧ w'.rangeAt b o (ic x)) u := ⟨keep_blk g1 hb (by simp), range_kept hr g1⟩
  refine any_take 0 (some 5) (.pointer (some ⟨b, o, none⟩)) rfl rfl (by kernel_rfl) (by kernel_rfl) (by kernel_rfl) (fun _ _ _ h => h) (.inl ⟨by kernel_rfl, fun _ _ => by kernel_rfl⟩) (by assumption) ?_
  simp only [Act.put, List.setIfInBounds_toArray, List.set_cons_zero, List.set_cons_succ]
  refine any_take 1 (some 6) (.pointer (some ⟨b, o, none⟩)) rfl rfl (by kernel_rfl) (by kernel_rfl) (by kernel_rfl) (fun _ _ _ h => h) (.inl ⟨by kernel_rfl, fun _ _ => by kernel_rfl⟩) (by assumption) ?_
  simp only [Act.put, List.setIfInBounds_toArray, List.set_cons_zero, List.set_cons_succ]
  refine any_take 2 (some 7) (.agg (ic x).toArray) rfl rfl (by kernel_rfl) (by kernel_rfl) (by kernel_rfl) (fun _ _ _ h => h) (yieldsIf_load_mid (by kernel_rfl) 25 (.tmp 6) rfl b o (by kernel_rfl) (ic x) _ (fun _ h => h.2) Ybaf.underlying25 rfl (size25 _)) (by assumption) ?_
  simp only [Act.put, List.setIfInBounds_toArray, List.set_cons_zero, List.set_cons_succ]
  refine any_take 4 (some 9) (.pointer (some ⟨p, 0, none⟩)) rfl rfl (by kernel_rfl) (by kernel_rfl) (by kernel_rfl) (fun _ _ _ h => h) (.inl ⟨by kernel_rfl, fun _ _ => by kernel_rfl⟩) (by assumption) ?_
  simp only [Act.put, List.setIfInBounds_toArray, List.set_cons_zero, List.set_cons_succ]
  refine any_take 5 (some 10) (.pointer (some ⟨p, 0, none⟩)) rfl rfl (by kernel_rfl) (by kernel_rfl) (by kernel_rfl) (fun _ _ _ h => h) (.inl ⟨by kernel_rfl, fun _ _ => by kernel_rfl⟩) (by assumption) ?_
  simp only [Act.put, List.setIfInBounds_toArray, List.set_cons_zero, List.set_cons_succ]
  refine any_take 6 (some 11) (.pointer (some ⟨p, 20, none⟩)) rfl rfl (by kernel_rfl) (by kernel_rfl) (by kernel_rfl) (fun _ _ _ h => h) (.inl ⟨by kernel_rfl, fun _ _ => by kernel_rfl⟩) (by assumption) ?_
  simp only [Act.put, List.setIfInBounds_toArray, List.set_cons_zero, List.set_cons_succ]
  refine any_take 7 (some 12) (.agg (uN (nm (cf s))).toArray) rfl rfl (by kernel_rfl) (by kernel_rfl) (by kernel_rfl) (fun _ _ _ h => h) (yieldsIf_load_mid (by kernel_rfl) 41 (.tmp 11) rfl p 20 (by kernel_rfl) (uN (nm (cf s))) _ (fun _ h => tsc_from h.1) Ybaf.underlying41 rfl (size41n _)) (by assumption) ?_
  simp only [Act.put, List.setIfInBounds_toArray, List.set_cons_zero, List.set_cons_succ]
  refine any_call 3 (some 8) 16 #[.agg (ic x).toArray] rfl rfl (by kernel_rfl) (by kernel_rfl) (by kernel_rfl) ?_
  refine (num_un (byt_cf hx) _).mono ?_
  rintro e u1 ⟨rfl, q1⟩
  have hS1 : (fun w' : World => w'.heap[p]? = some (.cells (tsc s h vi vt vr).toArray 43 (0, 0)) ∧ w'.rangeAt b o (ic x)) u1 := ⟨keep_blk q1 hS.1 (by simp), range_kept hS.2 q1⟩
  refine ⟨_, rfl, hS1, ?_⟩
  simp only [Act.put, List.setIfInBounds_toArray, List.set_cons_zero, List.set_cons_succ]
  refine any_call 8 (some 13) 25 #[.agg (uN (nm (cf x))).toArray, .agg (uN (nm (cf s))).toArray] rfl rfl (by kernel_rfl) (by kernel_rfl) (by kernel_rfl) ?_
  refine (minus_un (nm_bd (byt_cf hx)) (nm_bd (byt_cf hs)) _).mono ?_
  rintro e u2 ⟨rfl, q2⟩
  have hS2 : (fun w' : World => w'.heap[p]? = some (.cells (tsc s h vi vt vr).toArray 43 (0, 0)) ∧ w'.rangeAt b o (ic x)) u2 := ⟨keep_blk q2 hS1.1 (by simp), range_kept hS1.2 q2⟩
  refine ⟨_, rfl, hS2, ?_⟩
  simp only [Act.put, List.setIfInBounds_toArray, List.set_cons_zero, List.set_cons_succ]
  have x2 := keep_blk q2 (keep_blk q1 x1 (by simp)) (by simp)
  have g2 : w.grownBy u2 none := grown_trans g1 (grown_trans q1 q2)
  have hp : p < w.heap.size := (Array.getElem?_eq_some_iff.1 hb).1
  have hbl := range_lt hr
  refine any_store_blk 9 rfl rfl (by kernel_rfl) (by kernel_rfl) 41 (.tmp 4) (.tmp 13) rfl w.heap.size (uN (D s x)) (by kernel_rfl) (by kernel_rfl) _ _ x2 rfl (size41n _) (un_one _) ?_
  intro u3 x3 q3
  have g3 : w.grownBy u3 none := ⟨q3.os.trans g2.os, q3.tape.trans g2.tape, q3.output.trans g2.output, Nat.le_trans g2.size q3.size, fun q hq _ => (q3.block q (by have := g2.size; omega) (by simp; omega)).trans (g2.block q hq (by simp))⟩
  refine ⟨⟨keep_blk q3 hS2.1 (by simp; omega), range_keep q3 hS2.2 (by have := g2.size; omega) (by simp; omega)⟩, ?_⟩
  simp only [Act.put]
  refine wpAnyH_done (by kernel_rfl) ?_ _
  go_wp2_with fail
  refine bodyPost_ret (v := .agg (uN (D s x)).toArray) ?_ rfl ⟨rfl, g3⟩
  have hld := run_load_blk (P := Ybaf.prog) x3 Ybaf.underlying41 rfl (size41n _)
  simp only [results, Ybaf.results23]
  simp [asAddr, Result.andThen, Act.put, hld]

end Go.Proofs.YbulkdspqFmt
