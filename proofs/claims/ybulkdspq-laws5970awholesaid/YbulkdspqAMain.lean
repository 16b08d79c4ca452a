/-
  LawS5970AWhole: the walk of the law itself.
-/
import Derived.Test.YbulkdspqAT10
namespace Go.Proofs.Ybulkdspq
open Go.RowKit
set_option linter.unusedSimpArgs false
set_option linter.unusedVariables false

theorem exec_build34 {a : Act} {o : Oper} {w : World} (ho : o.op = .build 34 #[]) : (execOp a.eval o).run Yba.prog w = .ok (.value (.agg (setc (.slice none 0 0) (.slice none 0 0)).toArray)) w := by
  have hb : (Instr.build 34 #[]).run Yba.prog w = .ok (.agg (setc (.slice none 0 0) (.slice none 0 0)).toArray) w := by kernel_rfl
  unfold execOp
  simp only [ho, List.map_toArray, List.map_nil, Sem.run_bind, hb, Result.andThen_ok, Sem.run_pure]
theorem box34 (u v : Value) (w : World) : (Instr.box 34 (.agg (setc u v).toArray)).run Yba.prog w = .ok (.pointer (some ⟨w.heap.size, 0, none⟩)) (w.alloc (.cells (setc u v).toArray 34)) := by kernel_rfl

set_option maxRecDepth 1000000 in
set_option maxHeartbeats 8000000 in
theorem main_any (w : World) (a1 a2 a3 a4 : Option Addr) (n1 c10 n2 c20 n3 c30 n4 c40 : Nat) (ms rs ps : List Int) (hd : List Hd) (sB sf su uB : Int) (m1 : n1 ≤ 140737488351232) (m2 : n2 ≤ 140737488351232) (m3 : n3 ≤ 140737488351232) (m4 : n4 ≤ 140737488351232) (l1 : ms.length = n1) (l2 : rs.length = n2) (l3 : hd.length = n3) (l4 : ps.length = n4) (r1 : Rd1 w a1 ms) (r2 : Rd1 w a2 rs) (r3 : Rd3 w a3 hd) (r4 : Rd1 w a4 ps)
    (z1 : a1 = none → n1 = 0 ∧ c10 = 0) (z2 : a2 = none → n2 = 0 ∧ c20 = 0) (f1 : ∀ b ∈ ms, (Lit.int .u8 b).wf = true) (f2 : ∀ b ∈ rs, (Lit.int .u8 b).wf = true) (f3 : ∀ h ∈ hd, (Lit.int .u8 h.b).wf = true) (fs : (Lit.int .u8 sB).wf = true) (fu : (Lit.int .u8 uB).wf = true) :
    Calls Yba.prog 3 #[.slice a1 n1 c10, .slice a2 n2 c20, .slice a3 n3 c30, .slice a4 n4 c40, .int .i64 sf, .int .u8 sB, .int .i64 su, .int .u8 uB] w fun e w' => e = .returned (.bool true) ∧ Below w.heap.size w w' := by
  go_enter Yba.func3, Yba.ntmps3
  by_cases hbig : 8192 < n1 + n2 + n3 + n4
  · have hb1 : (8192 : Int) < (n1 : Int) + (n2 : Int) + (n3 : Int) + (n4 : Int) := by omega
    go_wp2_with fail
    refine bodyPost_ret (v := .bool true) (by kernel_rfl) rfl ⟨rfl, Below.refl _ _⟩
  · have hsm : n1 + n2 + n3 + n4 ≤ 8192 := by omega
    have hb1 : ¬ (8192 : Int) < (n1 : Int) + (n2 : Int) + (n3 : Int) + (n4 : Int) := by omega
    have h0 := Hs.start w
    obtain ⟨i26, hi26, _, hs26, _⟩ := info_parts info26
    go_upto_region 5 with (first
      | (refine wpList_is (.build 34 #[]) rfl ?_; refine wpList_exec rfl _ (exec_build34 rfl) ?_)
      | (refine wpList_is (.box 34 (.tmp 61)) rfl ?_; refine wpList_boxC rfl 34 (.tmp 61) _ rfl rfl (box34 _ _) h0 ?_; intro sb v1 hS0)
      | (refine wpList_is (.makeSlice 31 (.tmp 65) (.tmp 65)) rfl ?_; refine wpList_makeF rfl (0 : Int) idc_len (by omega) rfl Yba.underlying31 info26 (by omega) (.tmp 65) rfl n1 (by omega) rfl hS0 ?_; intro g1 v2 h2)
      | (refine wpList_is (.store 31 (.tmp 68) (.tmp 66)) rfl ?_; refine wpList_storeC rfl 31 (.tmp 68) (.tmp 66) rfl h2 1 sb 24 (.slice (some ⟨g1, 0, none⟩) n1 n1) _ 34 rfl rfl rfl size31 (by simp [setc, idc]) rfl [(g1, .cells ((List.replicate n1 (0 : Int)).flatMap idc).toArray 26), (sb, .cells (setc (.slice (some ⟨g1, 0, none⟩) n1 n1) (.slice none 0 0)).toArray 34)] rfl ?_; intro v3 h3))
    clear h2 hS0
    have h4 : Hs w.heap.size w v3 ([(g1, .cells ((pre (0 : Int) ms 0).flatMap idc).toArray 26), (sb, .cells (setc (.slice (some ⟨g1, 0, none⟩) n1 n1) (.slice none 0 0)).toArray 34)]) := by
      have e := pre_zero (0 : Int) ms
      rw [l1] at e
      rw [e]; exact h3
    clear h3
    go_wp2_with fail
    go_loopg [71] n1 (fun g v wr => ∃ i : Nat, i + g = n1 ∧ v = .int .i64 i ∧ Hs w.heap.size w wr ([(g1, .cells ((pre (0 : Int) ms i).flatMap idc).toArray 26), (sb, .cells (setc (.slice (some ⟨g1, 0, none⟩) n1 n1) (.slice none 0 0)).toArray 34)]))
    case atStart => exact ⟨0, by omega, rfl, h4⟩
    case round =>
      clear h4
      obtain ⟨i, hi, rfl, h⟩ := hrel
      by_cases hin : i < n1
      · obtain ⟨p, hp⟩ : ∃ p, ms[i]? = some p := ⟨_, List.getElem?_eq_getElem (by omega)⟩
        obtain ⟨b, o, rfl, hb, hc0⟩ := r1 i p hp
        have hin' : (i : Int) < (n1 : Int) := by omega
        have hc : wr.cell? ⟨b, o + i, none⟩ = some (.int .u8 p) := (h.below.cell (p := ⟨b, _, none⟩) hb).trans hc0
        have HF : Hid (Hs w.heap.size w wr _) := h
        clear h
        go_upto_region 8 with fail
        have h1 := Hs.grow HF (grown_drew wr)
        clear HF hc
        refine wp_region_held (S := fun w' : World => w'.heap[sb]? = some (.cells (setc (.slice (some ⟨g1, 0, none⟩) n1 n1) (.slice none 0 0)).toArray 34 (0, 0))) (by kernel_rfl) ?_
        generalize ({ wr with drawn := wr.drawn + 1 } : World) = v1 at *
        have hS : (fun w' : World => w'.heap[sb]? = some (.cells (setc (.slice (some ⟨g1, 0, none⟩) n1 n1) (.slice none 0 0)).toArray 34 (0, 0))) v1 := h1.get 1 rfl
        refine any_take 0 (some 76) (.pointer (some ⟨sb, 0, none⟩)) rfl rfl (by kernel_rfl) (by kernel_rfl) (by kernel_rfl) (fun _ _ _ h => h) (.inl ⟨by kernel_rfl, fun _ _ => by kernel_rfl⟩) (by assumption) ?_
        simp only [Act.put, List.setIfInBounds_toArray, List.set_cons_zero, List.set_cons_succ]
        refine any_take 1 (some 77) (.pointer (some ⟨sb, 0, none⟩)) rfl rfl (by kernel_rfl) (by kernel_rfl) (by kernel_rfl) (fun _ _ _ h => h) (.inl ⟨by kernel_rfl, fun _ _ => by kernel_rfl⟩) (by assumption) ?_
        simp only [Act.put, List.setIfInBounds_toArray, List.set_cons_zero, List.set_cons_succ]
        refine any_take 2 (some 78) (.pointer (some ⟨sb, 24, none⟩)) rfl rfl (by kernel_rfl) (by kernel_rfl) (by kernel_rfl) (fun _ _ _ h => h) (.inl ⟨by kernel_rfl, fun _ _ => by kernel_rfl⟩) (by assumption) ?_
        simp only [Act.put, List.setIfInBounds_toArray, List.set_cons_zero, List.set_cons_succ]
        refine any_take 3 (some 79) (.slice (some ⟨g1, 0, none⟩) n1 n1) rfl rfl (by kernel_rfl) (by kernel_rfl) (by kernel_rfl) (fun _ _ _ h => h) (yld_cell (by kernel_rfl) 31 (.tmp 78) rfl sb 24 (by kernel_rfl) _ 34 (fun w' e => e) _ Yba.underlying31 rfl _ rfl) (by assumption) ?_
        simp only [Act.put, List.setIfInBounds_toArray, List.set_cons_zero, List.set_cons_succ]
        refine any_take 4 (some 80) (.int .i64 i) rfl rfl (by kernel_rfl) (by kernel_rfl) (by kernel_rfl) (fun _ _ _ h => h) (.inl ⟨by kernel_rfl, fun _ _ => by kernel_rfl⟩) (by assumption) ?_
        simp only [Act.put, List.setIfInBounds_toArray, List.set_cons_zero, List.set_cons_succ]
        refine any_take 5 (some 81) (.int .u8 p) rfl rfl (by kernel_rfl) (by kernel_rfl) (by kernel_rfl) (fun _ _ _ h => h) (.inl ⟨by kernel_rfl, fun _ _ => by kernel_rfl⟩) (by assumption) ?_
        simp only [Act.put, List.setIfInBounds_toArray, List.set_cons_zero, List.set_cons_succ]
        refine any_call 6 (some 82) 5 #[.int .u8 p] rfl rfl (by kernel_rfl) (by kernel_rfl) (by kernel_rfl) ?_
        refine (aid_any p _).mono ?_
        rintro e v2 ⟨rfl, q2⟩
        have h2 := h1.grow q2
        refine ⟨_, rfl, h2.get 1 rfl, ?_⟩
        simp only [Act.put, List.setIfInBounds_toArray, List.set_cons_zero, List.set_cons_succ]
        clear hS h1 q2
        have hS : (fun w' : World => w'.heap[sb]? = some (.cells (setc (.slice (some ⟨g1, 0, none⟩) n1 n1) (.slice none 0 0)).toArray 34 (0, 0))) v2 := h2.get 1 rfl
        refine any_take 7 (some 83) (.pointer (some ⟨g1, i * 20, none⟩)) rfl rfl (by kernel_rfl) (by kernel_rfl) (by kernel_rfl) (fun _ _ _ h => h) (.inl ⟨by kernel_rfl, fun w' _ => exec_index (.tmp 79) (.tmp 80) rfl Yba.underlying31 hi26 hs26 g1 n1 n1 i hin (by kernel_rfl) (by kernel_rfl)⟩) (by assumption) ?_
        simp only [Act.put, List.setIfInBounds_toArray, List.set_cons_zero, List.set_cons_succ]
        have hblk : Blk idc v2 g1 26 (pre (0 : Int) ms i) := h2.get 0 rfl
        refine any_store_row 8 rfl rfl (by kernel_rfl) (by kernel_rfl) 26 (.tmp 83) (.tmp 82) rfl g1 i (.agg (idc p).toArray) (by kernel_rfl) (by kernel_rfl) hblk idc_len size26' idc_one (by rw [pre_len _ _ (by omega)]; omega) p rfl ?_
        intro v7 hb7 k7
        rw [pre_set (0 : Int) ms hp] at hb7
        have h7 := h2.upd 0 rfl k7 hb7
        simp only [List.set_cons_zero] at h7
        refine ⟨h7.get 1 rfl, ?_⟩
        simp only [Act.put, List.setIfInBounds_toArray, List.set_cons_zero, List.set_cons_succ]
        refine wpAnyH_done (by kernel_rfl) ?_ _
        clear h2 hb7 k7 hblk hS
        go_wp2_with fail
        go_roundg (n1 - (i + 1))
        case measure => omega
        case rel => exact ⟨i + 1, by omega, by go_num, h7⟩
      · have hin' : n1 = i := by omega
        subst hin'
        have h' : Hs w.heap.size w wr [(g1, .cells (ms.flatMap idc).toArray 26), (sb, .cells (setc (.slice (some ⟨g1, 0, none⟩) n1 n1) (.slice none 0 0)).toArray 34)] := by
          have e : pre (0 : Int) ms n1 = ms := by rw [← l1]; exact pre_full _ _
          rw [e] at h; exact h
        clear h
        go_upto_if 72 with fail
        go_step
        go_step
        go_step
        refine by_K (c := ?cc) (Q := ?QQ) ?hr ?ht
        case hr => assumption
        exact tail10 w wr a1 a2 a3 a4 n1 c10 n2 c20 n3 c30 n4 c40 sb g1 ms rs ps hd sB sf su uB hsm l1 l2 l3 l4 r1 r2 r3 r4 z1 z2 f1 f2 f3 fs fu h' _ _ _ _ _ _ _ _ _ _ _ _ _ _ _ _ _ _ _ _ _ _ _ _ _ _ _ _ _ _ _ _ _ _ _ _ _ _ _ _ _ _ _ _ _ _ _ _ _ _ _ _ _ _ _ _ _ _ _ _ _ _ _ _ _ _ _ _ _ _ _ _ _ _ _ _ _ _ _ _ _ _ _ _ _ _ _ _ _ _ _ _ _ _ _ _ _ _ _ _ _ _ _ _ _ _ _ _ _ _ _ _ _ _ _ _ _ _ _ _ _ _ _ _ _ _ _ _ _ _ _ _ _ _ _ _ _ _ _ _ _ _ _ _ _ _ _ _ _ _ _ _ _ _ _ _ _ _ _ _ _ _ _ _ _ _ _ _ _ _ _ _ _ _ _ _ _ _ _ _ _ _ _ _ _ _ _ _ _ _ _ _ _ _ _ _ _ _ _ _ _ _ _ _ _ _ _ _ _ _ _ _ _ _ _ _ _ _ _ _ _ _ _ _ _ _ _ _ _ _ _ _ _ _ _ _ _ _ _ _ _ _ _ _ _ _ _ _ _ _ _ _ _ _ _ _ _ _ _ _ _ _ _ _ _ _ _ _ _ _ _ _ _ _ _ _ _ _ _ _ _ _ _ _ _ _ _ _ _ _ _ _ _ _ _ _ _ _ _ _ _ _ _ _ _ _ _ _ _ _ _ _ _ _ _ _ _ _ _ _ _ _ _ _ _ _ _ _ _ _ _ _ _ _ _ _ _ _ _ _ _ _ _ _ _ _ _ _ _ _ _ _ _ _ _ _ _ _ _ _ _ _ _ _ _ _ _ _ _ _ _ _ _ _ _ _ _ _ _ _ _ _ _ _ _ _ _ _ _ _ _ _ _ _ _ _

end Go.Proofs.Ybulkdspq
