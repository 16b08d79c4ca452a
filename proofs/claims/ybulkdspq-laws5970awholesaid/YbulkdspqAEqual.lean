/-
  LawS5970AWhole: slices.Equal at identifiers (13) and tidings (14), where both hold the same.
-/
import Derived.Test.YbulkdspqAEq
namespace Go.Proofs.Ybulkdspq
open Go.RowKit
set_option linter.unusedSimpArgs false
set_option linter.unusedVariables false

theorem range_keep {w w' : World} {row : Option Nat} {b o : Nat} {cs : List Value} (hg : w.grownBy w' row) (h : w.rangeAt b o cs) (hb : b < w.heap.size) (hne : some b ≠ row) : w'.rangeAt b o cs := by
  intro j v hv
  have := h j v hv
  simp only [World.cell?] at this ⊢
  rw [hg.block b hb hne]
  exact this
theorem range_heap {w w' : World} {b o : Nat} {cs : List Value} (he : w'.heap = w.heap) (h : w.rangeAt b o cs) : w'.rangeAt b o cs := by
  intro j v hv
  have := h j v hv
  simp only [World.cell?] at this ⊢
  rw [he]
  exact this
theorem grown_drew (w : World) : w.grownBy { w with drawn := w.drawn + 1 } none := ⟨rfl, rfl, rfl, Nat.le_refl _, fun _ _ _ => rfl⟩

set_option maxRecDepth 100000 in
theorem equal13_any {w : World} {g1 g2 n c1 c2 : Nat} {xs : List Int} (hn : xs.length = n) (hm : n ≤ 65536) (hb1 : 0 < n → g1 < w.heap.size) (hb2 : 0 < n → g2 < w.heap.size) (h1 : ∀ i x, xs[i]? = some x → w.rangeAt g1 (i * 20) (idc x)) (h2 : ∀ i x, xs[i]? = some x → w.rangeAt g2 (i * 20) (idc x)) (hwf : ∀ x ∈ xs, (Lit.int .u8 x).wf = true) :
    Calls Yba.prog 13 #[.slice (some ⟨g1, 0, none⟩) n c1, .slice (some ⟨g2, 0, none⟩) n c2] w fun e w' => e = .returned (.bool true) ∧ w.grownBy w' none := by
  obtain ⟨ti, hti, _, hts, _⟩ := info_parts info26
  go_enter Yba.func13, Yba.ntmps13
  go_wp2_with fail
  go_loopg [13] n (fun g v wr => ∃ i : Nat, i + g = n ∧ v = .int .i64 i ∧ w.grownBy wr none)
  case atStart => exact ⟨0, by omega, rfl, World.grownBy.refl w none⟩
  case round =>
    obtain ⟨i, hi, rfl, hg⟩ := hrel
    by_cases hin : i < n
    · obtain ⟨x, hx⟩ : ∃ x, xs[i]? = some x := ⟨_, List.getElem?_eq_getElem (by omega)⟩
      have hwx : (Lit.int .u8 x).wf = true := hwf x (List.mem_of_getElem? hx)
      have hin' : (i : Int) < (n : Int) := by omega
      have r1 : wr.rangeAt g1 (i * 20) (idc x) := range_keep hg (h1 i x hx) (hb1 (by omega)) (by simp)
      have r2 : wr.rangeAt g2 (i * 20) (idc x) := range_keep hg (h2 i x hx) (hb2 (by omega)) (by simp)
      go_upto_region 6 with fail
      refine wp_region_held (S := fun w' : World => w'.heap = wr.heap) (by kernel_rfl) ?_
      have hS : (fun w' : World => w'.heap = wr.heap) { wr with drawn := wr.drawn + 1 } := rfl
      refine any_take 0 (some 16) (.slice (some ⟨g1, 0, none⟩) n c1) rfl rfl (by kernel_rfl) (by kernel_rfl) (by kernel_rfl) (fun _ _ _ h => h) (.inl ⟨by kernel_rfl, fun _ _ => by kernel_rfl⟩) (by assumption) ?_
      simp only [Act.put, List.setIfInBounds_toArray, List.set_cons_zero, List.set_cons_succ]
      refine any_take 1 (some 17) (.int .i64 i) rfl rfl (by kernel_rfl) (by kernel_rfl) (by kernel_rfl) (fun _ _ _ h => h) (.inl ⟨by kernel_rfl, fun _ _ => by kernel_rfl⟩) (by assumption) ?_
      simp only [Act.put, List.setIfInBounds_toArray, List.set_cons_zero, List.set_cons_succ]
      refine any_take 2 (some 18) (.pointer (some ⟨g1, i * 20, none⟩)) rfl rfl (by kernel_rfl) (by kernel_rfl) (by kernel_rfl) (fun _ _ _ h => h) (.inl ⟨by kernel_rfl, fun w' _ => exec_index (.tmp 16) (.tmp 17) rfl Yba.underlying31 hti hts g1 n c1 i hin (by kernel_rfl) (by kernel_rfl)⟩) (by assumption) ?_
      simp only [Act.put, List.setIfInBounds_toArray, List.set_cons_zero, List.set_cons_succ]
      refine any_take 3 (some 19) (.agg (idc x).toArray) rfl rfl (by kernel_rfl) (by kernel_rfl) (by kernel_rfl) (fun _ _ _ h => h) (yieldsIf_load_mid (by kernel_rfl) 26 (.tmp 18) rfl g1 (i * 20) (by kernel_rfl) (idc x) _ (fun w' e => range_heap e r1) Yba.underlying26 rfl (size26 x)) (by assumption) ?_
      simp only [Act.put, List.setIfInBounds_toArray, List.set_cons_zero, List.set_cons_succ]
      refine any_take 4 (some 20) (.slice (some ⟨g2, 0, none⟩) n c2) rfl rfl (by kernel_rfl) (by kernel_rfl) (by kernel_rfl) (fun _ _ _ h => h) (.inl ⟨by kernel_rfl, fun _ _ => by kernel_rfl⟩) (by assumption) ?_
      simp only [Act.put, List.setIfInBounds_toArray, List.set_cons_zero, List.set_cons_succ]
      refine any_take 5 (some 21) (.int .i64 i) rfl rfl (by kernel_rfl) (by kernel_rfl) (by kernel_rfl) (fun _ _ _ h => h) (.inl ⟨by kernel_rfl, fun _ _ => by kernel_rfl⟩) (by assumption) ?_
      simp only [Act.put, List.setIfInBounds_toArray, List.set_cons_zero, List.set_cons_succ]
      refine any_take 6 (some 22) (.pointer (some ⟨g2, i * 20, none⟩)) rfl rfl (by kernel_rfl) (by kernel_rfl) (by kernel_rfl) (fun _ _ _ h => h) (.inl ⟨by kernel_rfl, fun w' _ => exec_index (.tmp 20) (.tmp 21) rfl Yba.underlying31 hti hts g2 n c2 i hin (by kernel_rfl) (by kernel_rfl)⟩) (by assumption) ?_
      simp only [Act.put, List.setIfInBounds_toArray, List.set_cons_zero, List.set_cons_succ]
      refine any_take 7 (some 23) (.agg (idc x).toArray) rfl rfl (by kernel_rfl) (by kernel_rfl) (by kernel_rfl) (fun _ _ _ h => h) (yieldsIf_load_mid (by kernel_rfl) 26 (.tmp 22) rfl g2 (i * 20) (by kernel_rfl) (idc x) _ (fun w' e => range_heap e r2) Yba.underlying26 rfl (size26 x)) (by assumption) ?_
      simp only [Act.put, List.setIfInBounds_toArray, List.set_cons_zero, List.set_cons_succ]
      refine any_take 8 (some 24) (.bool false) rfl rfl (by kernel_rfl) (by kernel_rfl) (by kernel_rfl) (fun _ _ _ h => h) (.inl ⟨by kernel_rfl, fun w' _ => (exec_neq26 (.tmp 19) (.tmp 23) rfl hwx hwx (by kernel_rfl) (by kernel_rfl)).trans (by simp)⟩) (by assumption) ?_
      simp only [Act.put, List.setIfInBounds_toArray, List.set_cons_zero, List.set_cons_succ]
      refine wpAnyH_done (by kernel_rfl) ?_ _
      have hg' : w.grownBy { wr with drawn := wr.drawn + 1 } none := grown_trans hg (grown_drew wr)
      clear hS r1 r2
      go_wp2_with fail
      go_roundg (n - (i + 1))
      case measure => omega
      case rel => exact ⟨i + 1, by omega, by go_num, hg'⟩
    · have hin' : n = i := by omega
      subst hin'
      go_wp2_with fail
      refine bodyPost_ret (v := .bool true) (by kernel_rfl) rfl ⟨rfl, hg⟩

set_option maxRecDepth 100000 in
theorem equal14_any {w : World} {g1 g2 n c1 c2 : Nat} {xs : List Tid} (hn : xs.length = n) (hm : n ≤ 65536) (hb1 : 0 < n → g1 < w.heap.size) (hb2 : 0 < n → g2 < w.heap.size) (h1 : ∀ i x, xs[i]? = some x → w.rangeAt g1 (i * 23) (tc x)) (h2 : ∀ i x, xs[i]? = some x → w.rangeAt g2 (i * 23) (tc x)) (hwf : ∀ x ∈ xs, (Lit.int .u8 x.b).wf = true) :
    Calls Yba.prog 14 #[.slice (some ⟨g1, 0, none⟩) n c1, .slice (some ⟨g2, 0, none⟩) n c2] w fun e w' => e = .returned (.bool true) ∧ w.grownBy w' none := by
  obtain ⟨ti, hti, _, hts, _⟩ := info_parts info45
  go_enter Yba.func14, Yba.ntmps14
  go_wp2_with fail
  go_loopg [13] n (fun g v wr => ∃ i : Nat, i + g = n ∧ v = .int .i64 i ∧ w.grownBy wr none)
  case atStart => exact ⟨0, by omega, rfl, World.grownBy.refl w none⟩
  case round =>
    obtain ⟨i, hi, rfl, hg⟩ := hrel
    by_cases hin : i < n
    · obtain ⟨x, hx⟩ : ∃ x, xs[i]? = some x := ⟨_, List.getElem?_eq_getElem (by omega)⟩
      have hwx : (Lit.int .u8 x.b).wf = true := hwf x (List.mem_of_getElem? hx)
      have hin' : (i : Int) < (n : Int) := by omega
      have r1 : wr.rangeAt g1 (i * 23) (tc x) := range_keep hg (h1 i x hx) (hb1 (by omega)) (by simp)
      have r2 : wr.rangeAt g2 (i * 23) (tc x) := range_keep hg (h2 i x hx) (hb2 (by omega)) (by simp)
      go_upto_region 6 with fail
      refine wp_region_held (S := fun w' : World => w'.heap = wr.heap) (by kernel_rfl) ?_
      have hS : (fun w' : World => w'.heap = wr.heap) { wr with drawn := wr.drawn + 1 } := rfl
      refine any_take 0 (some 16) (.slice (some ⟨g1, 0, none⟩) n c1) rfl rfl (by kernel_rfl) (by kernel_rfl) (by kernel_rfl) (fun _ _ _ h => h) (.inl ⟨by kernel_rfl, fun _ _ => by kernel_rfl⟩) (by assumption) ?_
      simp only [Act.put, List.setIfInBounds_toArray, List.set_cons_zero, List.set_cons_succ]
      refine any_take 1 (some 17) (.int .i64 i) rfl rfl (by kernel_rfl) (by kernel_rfl) (by kernel_rfl) (fun _ _ _ h => h) (.inl ⟨by kernel_rfl, fun _ _ => by kernel_rfl⟩) (by assumption) ?_
      simp only [Act.put, List.setIfInBounds_toArray, List.set_cons_zero, List.set_cons_succ]
      refine any_take 2 (some 18) (.pointer (some ⟨g1, i * 23, none⟩)) rfl rfl (by kernel_rfl) (by kernel_rfl) (by kernel_rfl) (fun _ _ _ h => h) (.inl ⟨by kernel_rfl, fun w' _ => exec_index (.tmp 16) (.tmp 17) rfl Yba.underlying37 hti hts g1 n c1 i hin (by kernel_rfl) (by kernel_rfl)⟩) (by assumption) ?_
      simp only [Act.put, List.setIfInBounds_toArray, List.set_cons_zero, List.set_cons_succ]
      refine any_take 3 (some 19) (.agg (tc x).toArray) rfl rfl (by kernel_rfl) (by kernel_rfl) (by kernel_rfl) (fun _ _ _ h => h) (yieldsIf_load_mid (by kernel_rfl) 45 (.tmp 18) rfl g1 (i * 23) (by kernel_rfl) (tc x) _ (fun w' e => range_heap e r1) Yba.underlying45 rfl (size45 x)) (by assumption) ?_
      simp only [Act.put, List.setIfInBounds_toArray, List.set_cons_zero, List.set_cons_succ]
      refine any_take 4 (some 20) (.slice (some ⟨g2, 0, none⟩) n c2) rfl rfl (by kernel_rfl) (by kernel_rfl) (by kernel_rfl) (fun _ _ _ h => h) (.inl ⟨by kernel_rfl, fun _ _ => by kernel_rfl⟩) (by assumption) ?_
      simp only [Act.put, List.setIfInBounds_toArray, List.set_cons_zero, List.set_cons_succ]
      refine any_take 5 (some 21) (.int .i64 i) rfl rfl (by kernel_rfl) (by kernel_rfl) (by kernel_rfl) (fun _ _ _ h => h) (.inl ⟨by kernel_rfl, fun _ _ => by kernel_rfl⟩) (by assumption) ?_
      simp only [Act.put, List.setIfInBounds_toArray, List.set_cons_zero, List.set_cons_succ]
      refine any_take 6 (some 22) (.pointer (some ⟨g2, i * 23, none⟩)) rfl rfl (by kernel_rfl) (by kernel_rfl) (by kernel_rfl) (fun _ _ _ h => h) (.inl ⟨by kernel_rfl, fun w' _ => exec_index (.tmp 20) (.tmp 21) rfl Yba.underlying37 hti hts g2 n c2 i hin (by kernel_rfl) (by kernel_rfl)⟩) (by assumption) ?_
      simp only [Act.put, List.setIfInBounds_toArray, List.set_cons_zero, List.set_cons_succ]
      refine any_take 7 (some 23) (.agg (tc x).toArray) rfl rfl (by kernel_rfl) (by kernel_rfl) (by kernel_rfl) (fun _ _ _ h => h) (yieldsIf_load_mid (by kernel_rfl) 45 (.tmp 22) rfl g2 (i * 23) (by kernel_rfl) (tc x) _ (fun w' e => range_heap e r2) Yba.underlying45 rfl (size45 x)) (by assumption) ?_
      simp only [Act.put, List.setIfInBounds_toArray, List.set_cons_zero, List.set_cons_succ]
      refine any_take 8 (some 24) (.bool false) rfl rfl (by kernel_rfl) (by kernel_rfl) (by kernel_rfl) (fun _ _ _ h => h) (.inl ⟨by kernel_rfl, fun w' _ => exec_neq45 (.tmp 19) (.tmp 23) rfl x hwx (by kernel_rfl) (by kernel_rfl)⟩) (by assumption) ?_
      simp only [Act.put, List.setIfInBounds_toArray, List.set_cons_zero, List.set_cons_succ]
      refine wpAnyH_done (by kernel_rfl) ?_ _
      have hg' : w.grownBy { wr with drawn := wr.drawn + 1 } none := grown_trans hg (grown_drew wr)
      clear hS r1 r2
      go_wp2_with fail
      go_roundg (n - (i + 1))
      case measure => omega
      case rel => exact ⟨i + 1, by omega, by go_num, hg'⟩
    · have hin' : n = i := by omega
      subst hin'
      go_wp2_with fail
      refine bodyPost_ret (v := .bool true) (by kernel_rfl) rfl ⟨rfl, hg⟩

end Go.Proofs.Ybulkdspq
