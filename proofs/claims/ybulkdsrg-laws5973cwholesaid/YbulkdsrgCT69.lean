/-
  LawS5973CWhole: the last stretch of the law (from region 69 on).
-/
import Derived.Test.YbulkdsrgCTail
namespace Go.Proofs.Ybulkdsrg
open Go.RowKit
set_option linter.unusedSimpArgs false
set_option linter.unusedVariables false

set_option maxRecDepth 1000000 in
set_option maxHeartbeats 4000000 in
theorem tail69 {k : Ky} (hk : k.Wf) (w w6 wr : World) (f db mb B N : Nat) (x ts : Int) (D' : DataW Unit) (a19 a20 : Option Addr) (c19 c20 : Nat) (L : List Nd) (hst6 : St w6 k (w.heap.size + 2) w6.heap.size f (L ++ [⟨db, x, ts⟩]) (some mb) D' (N + 1)) (hL : L.length ≤ 65536)
    (hns6 : w6.ownsRow B 27 1 (.slice a19 L.length c19) L.length (nRow L L.length)) (hds6 : w6.ownsRow B 60 86 (.slice a20 L.length c20) L.length (dRow k L L.length)) (hw6 : Below w.heap.size w w6) (hw6s : w.heap.size ≤ w6.heap.size) (hB : Below w6.heap.size w6 wr) (s0 s1 s2 s3 s4 s5 s6 s7 s8 s9 s10 s11 s12 s13 s14 s16 s17 s18 s21 s22 s23 s24 s25 s26 s27 s28 s29 s30 s31 s32 s34 s35 s36 s37 s38 s39 s40 s41 s42 s43 s44 s45 s46 s47 s48 s49 s50 s51 s52 s53 s54 s55 s56 s57 s58 s59 s60 s61 s62 s63 s64 s65 s66 s67 s68 s69 s70 s71 s72 s73 s74 s75 s76 s77 s78 s79 s80 s81 s82 s83 s84 s85 s86 s87 s88 s89 s90 s91 s92 s93 s94 s95 s96 s97 s98 s99 s100 s101 s102 s103 s104 s105 s106 s107 s108 s109 s110 s111 s112 s113 s114 s115 s116 s117 s118 s119 s120 s121 s122 s123 s124 s125 s126 s127 s128 s129 s130 s131 s132 s133 s134 s135 s136 s137 s138 s139 s140 s141 s142 s143 s144 s145 s146 s147 s148 s149 s150 s151 s152 s153 s154 s155 s156 s157 s158 s159 s160 s161 s162 s163 s164 s165 s166 s167 s168 s169 s170 s171 s172 s173 s174 s175 s176 s177 s178 s179 s180 s181 s182 s183 s184 s185 s186 s187 s188 s189 s190 s191 s192 s193 s194 s195 s196 s197 s198 s199 s200 s201 s202 s203 s204 s205 s206 s207 s208 s209 s210 s211 s212 s213 s214 s215 s216 s217 s218 s219 s220 s221 s222 s223 s224 s225 s226 s227 s228 s229 s230 s231 s232 s233 s234 s235 s236 s237 s238 s239 s240 s241 s242 s243 s244 s245 s246 s247 s248 s249 s250 s251 s252 s253 s254 s255 s256 s257 s258 s259 s260 s261 s262 s263 s264 s265 s266 s267 s268 s269 s270 s271 s272 s273 s274 s275 s276 s277 s278 s279 s280 s281 s282 s283 s284 s285 s286 s287 s288 s289 s290 s291 s292 s293 s294 s295 s296 s297 s298 s299 s300 s301 s302 s303 s304 s305 s306 s307 s308 s309 s310 s311 s312 s313 s314 s315 : Value) :
    Code.wp Yba.prog (tailAt 69) (bodyPost Yba.prog Yba.f3 fun e w' => e = .returned (.bool true) ∧ Below w.heap.size w w') ⟨#[s0, s1, s2, s3, s4, s5, s6, s7, s8, s9, s10, s11, s12, s13, s14, .pointer (some ⟨f, 0, none⟩), s16, s17, s18, .slice a19 L.length c19, .slice a20 L.length c20, s21, s22, s23, s24, s25, s26, s27, s28, s29, s30, s31, s32, .pointer (some ⟨db, 0, none⟩), s34, s35, s36, s37, s38, s39, s40, s41, s42, s43, s44, s45, s46, s47, s48, s49, s50, s51, s52, s53, s54, s55, s56, s57, s58, s59, s60, s61, s62, s63, s64, s65, s66, s67, s68, s69, s70, s71, s72, s73, s74, s75, s76, s77, s78, s79, s80, s81, s82, s83, s84, s85, s86, s87, s88, s89, s90, s91, s92, s93, s94, s95, s96, s97, s98, s99, s100, s101, s102, s103, s104, s105, s106, s107, s108, s109, s110, s111, s112, s113, s114, s115, s116, s117, s118, s119, s120, s121, s122, s123, s124, s125, s126, s127, s128, s129, s130, s131, s132, s133, s134, s135, s136, s137, s138, s139, s140, s141, s142, s143, s144, s145, s146, s147, s148, s149, s150, s151, s152, s153, s154, s155, s156, s157, s158, s159, s160, s161, s162, s163, s164, s165, s166, s167, s168, s169, s170, s171, s172, s173, s174, s175, s176, s177, s178, s179, s180, s181, s182, s183, s184, s185, s186, s187, s188, s189, s190, s191, s192, s193, s194, s195, s196, s197, s198, s199, s200, s201, s202, s203, s204, s205, s206, s207, s208, s209, s210, s211, s212, s213, s214, s215, s216, s217, s218, s219, s220, s221, s222, s223, s224, s225, s226, s227, s228, s229, s230, s231, s232, s233, s234, s235, s236, s237, s238, s239, s240, s241, s242, s243, s244, s245, s246, s247, s248, s249, s250, s251, s252, s253, s254, s255, s256, s257, s258, s259, s260, s261, s262, s263, s264, s265, s266, s267, s268, s269, s270, s271, s272, s273, s274, s275, s276, s277, s278, s279, s280, s281, s282, s283, s284, s285, s286, s287, s288, s289, s290, s291, s292, s293, s294, s295, s296, s297, s298, s299, s300, s301, s302, s303, s304, s305, s306, s307, s308, s309, s310, s311, s312, s313, s314, s315], []⟩ wr := by
  conv => arg 2; whnf
  have hfr6 := hst6.fr
  have hfsR : wr.heap[f]? = some (.cells (fc (some mb) (hd (L ++ [⟨db, x, ts⟩])) (lt (L ++ [⟨db, x, ts⟩]))).toArray 29 (0, 0)) := (hB.block _ hfr6.2).trans hst6.fs
  go_wp2_with (refine wpList_is (.load 27 (.tmp 279)) rfl ?_; refine wpList_load_cell rfl 27 (.tmp 279) rfl f 1 rfl _ _ hfsR _ Yba.underlying27 rfl (vp (hd (L ++ [⟨db, x, ts⟩]))) (fc1 _ _ _) ?_)
  clear hfsR
  go_loopg [21, 40] L.length (fun g v21 v40 wy => ∃ i : Nat, i + g = L.length ∧ v40 = .int .i64 i ∧ v21 = vp (((L ++ [(⟨db, x, ts⟩ : Nd)])[i]?).map (·.b)) ∧ Below w6.heap.size w6 wy)
  case atStart => exact ⟨0, by omega, rfl, rfl, hB⟩
  case round =>
    clear hB
    obtain ⟨i, hi, rfl, rfl, hB⟩ := hrel
    by_cases hiL : i < L.length
    · obtain ⟨nd, hnd⟩ : ∃ nd, L[i]? = some nd := ⟨_, List.getElem?_eq_getElem hiL⟩
      have hnd' : (L ++ [(⟨db, x, ts⟩ : Nd)])[i]? = some nd := by rw [List.getElem?_append_left hiL]; exact hnd
      have e21 : vp (((L ++ [(⟨db, x, ts⟩ : Nd)])[i]?).map (·.b)) = .pointer (some ⟨nd.b, 0, none⟩) := by rw [hnd']; rfl
      simp only [e21]
      clear e21
      have hnsR : wr.ownsRow B 27 1 (.slice a19 L.length c19) L.length (nRow L L.length) := own_move hns6 (fun q _ hq => hB.block q hq)
      have hdsR : wr.ownsRow B 60 86 (.slice a20 L.length c20) L.length (dRow k L L.length) := own_move hds6 (fun q _ hq => hB.block q hq)
      obtain ⟨a1, c1, e1, hf1⟩ := own_form hnsR
      obtain ⟨a2, c2, e2, hf2⟩ := own_form hdsR
      cases e1
      cases e2
      obtain ⟨g19, rfl⟩ := hf1 (by omega)
      obtain ⟨g20, rfl⟩ := hf2 (by omega)
      have hcell := row27 hnsR hiL
      rw [hnd] at hcell
      replace hcell : wr.cell? ⟨g19, i, none⟩ = some (.pointer (some ⟨nd.b, 0, none⟩)) := hcell
      have hrng := row60 hdsR (Nat.le_refl _) hiL
      rw [dAt_some hnd] at hrng
      have hnb : wr.heap[nd.b]? = some (.cells (dc k nd.x nd.t (pv L i) (nx (L ++ [⟨db, x, ts⟩]) i)).toArray 60 (0, 0)) := by
        have := hst6.node i nd hnd'
        rw [pv_snoc L _ (by omega)] at this
        exact (hB.block _ (hst6.nr i nd hnd').2.1).trans this
      have hnwf := (hst6.nr i nd hnd').2.2
      have hnP := nePP nd.b
      have hiL' : (i : Int) < (L.length : Int) := by omega
      clear hnsR hdsR
      go_upto_region 75 with fail
      go_upto_region 76 with (first
        | (refine wpList_is (.indexAddr 38 (.tmp 293) (.tmp 294)) rfl ?_; refine wpList_index60 rfl (.tmp 293) (.tmp 294) rfl g20 L.length _ i hiL rfl rfl ?_)
        | (refine wpList_is (.load 60 (.tmp 295)) rfl ?_; refine wpList_load_mid rfl 60 (.tmp 295) rfl g20 (i * 86) rfl _ _ hrng Yba.underlying60 rfl (size60 _ _ _ _ _) ?_)
        | (refine wpList_is (.alloc 60) rfl ?_; refine wpList_alloc60 rfl rfl ?_)
        | (refine wpList_is (.store 60 (.tmp 41) (.tmp 296)) rfl ?_; refine wpList_store_blk rfl 60 (.tmp 41) (.tmp 296) rfl wr.heap.size (dc k nd.x nd.t (pv L i) (nx L i)) rfl rfl _ _ (blk_new _ _ _ _ rfl) rfl (size60 _ _ _ _ _) (dc_one _ _ _ _ _) ?_; intro w7 hb7 hg7))
      have hg8 := grown_new hg7
      have hB7 : Below w6.heap.size w6 w7 := hB.grown hg8 hB.size (by simp)
      have hnb7 : w7.heap[nd.b]? = some (.cells (dc k nd.x nd.t (pv L i) (nx (L ++ [⟨db, x, ts⟩]) i)).toArray 60 (0, 0)) := keep_blk hg8 hnb (by simp)
      have hndl : nd.b < wr.heap.size := (Array.getElem?_eq_some_iff.1 hnb).1
      have hsW := hB.size
      have hs7 : wr.heap.size < w7.heap.size := by have := hg7.size; simp at this; omega
      clear hg7 hg8 hB hnb hrng hcell
      go_upto_if 301 with fail
      go_cut [] (fun wx => wx.heap[wr.heap.size]? = some (.cells (dc k nd.x nd.t (pv L i) (nx (L ++ [⟨db, x, ts⟩]) i)).toArray 60 (0, 0)) ∧ wx.heap[nd.b]? = some (.cells (dc k nd.x nd.t (pv L i) (nx (L ++ [⟨db, x, ts⟩]) i)).toArray 60 (0, 0)) ∧ Below w6.heap.size w6 wx)
      case first =>
        have hnx := nx_snoc L ⟨db, x, ts⟩ hiL
        have HN : Hid (nx (L ++ [(⟨db, x, ts⟩ : Nd)]) i = if i + 1 = L.length then some db else nx L i) := hnx
        clear hnx
        go_wp2_with (refine wpList_is (.store 27 (.tmp 303) (.tmp 302)) rfl ?_; refine wpList_store_cell rfl 27 (.tmp 303) (.tmp 302) rfl wr.heap.size 85 (vp (some db)) rfl rfl _ _ hb7 size27 (by rw [dc_len]; omega) rfl _ (dcs85 _ _ _ _ _ _) ?_; intro w8 hb8 hg8)
        · go_meet
          case rel =>
            rename_i hh
            have hh' : i + 1 = L.length := by simp at hh; omega
            have hnx : nx (L ++ [(⟨db, x, ts⟩ : Nd)]) i = some db := (show nx (L ++ [(⟨db, x, ts⟩ : Nd)]) i = if i + 1 = L.length then some db else nx L i from HN).trans (by rw [if_pos hh'])
            exact ⟨by rw [hnx]; exact hb8, keep_blk hg8 hnb7 (by simp; omega), hB7.grown hg8 hB7.size (fun q e => by cases e; omega)⟩
        · go_meet
          case rel =>
            rename_i hh
            have hh' : ¬ i + 1 = L.length := by simp at hh; omega
            have hnx : nx (L ++ [(⟨db, x, ts⟩ : Nd)]) i = nx L i := (show nx (L ++ [(⟨db, x, ts⟩ : Nd)]) i = if i + 1 = L.length then some db else nx L i from HN).trans (by rw [if_neg hh'])
            exact ⟨by rw [hnx]; exact hb7, hnb7, hB7⟩
      case rest =>
        obtain ⟨hc1, hc2, hBc⟩ := hcut
        clear hB7 hb7 hnb7
        go_upto_region 78 with fail
        refine wp_region_held (S := fun w' : World => w'.heap = wc.heap) (by kernel_rfl) ?_
        have hS : (fun w' : World => w'.heap = wc.heap) { wc with drawn := wc.drawn + 1 } := rfl
        refine any_take 0 (some 304) (.pointer (some ⟨nd.b, 0, none⟩)) rfl rfl (by kernel_rfl) (by kernel_rfl) (by kernel_rfl) (fun _ _ _ h => h) (.inl ⟨by kernel_rfl, fun _ _ => by kernel_rfl⟩) (by assumption) ?_
        simp only [Act.put, List.setIfInBounds_toArray, List.set_cons_zero, List.set_cons_succ]
        refine any_take 1 (some 305) (.pointer (some ⟨nd.b, 0, none⟩)) rfl rfl (by kernel_rfl) (by kernel_rfl) (by kernel_rfl) (fun _ _ _ h => h) (.inl ⟨by kernel_rfl, fun _ _ => by kernel_rfl⟩) (by assumption) ?_
        simp only [Act.put, List.setIfInBounds_toArray, List.set_cons_zero, List.set_cons_succ]
        refine any_take 2 (some 306) (.agg (dc k nd.x nd.t (pv L i) (nx (L ++ [⟨db, x, ts⟩]) i)).toArray) rfl rfl (by kernel_rfl) (by kernel_rfl) (by kernel_rfl) (fun _ _ _ h => h) (yld_blk (by kernel_rfl) 60 (.tmp 305) rfl nd.b rfl _ 60 (fun w' e => by rw [show w'.heap = wc.heap from e]; exact hc2) _ Yba.underlying60 rfl (size60 _ _ _ _ _)) (by assumption) ?_
        simp only [Act.put, List.setIfInBounds_toArray, List.set_cons_zero, List.set_cons_succ]
        refine any_take 3 (some 307) (.agg (dc k nd.x nd.t (pv L i) (nx (L ++ [⟨db, x, ts⟩]) i)).toArray) rfl rfl (by kernel_rfl) (by kernel_rfl) (by kernel_rfl) (fun _ _ _ h => h) (yld_blk (by kernel_rfl) 60 (.tmp 41) rfl wr.heap.size rfl _ 60 (fun w' e => by rw [show w'.heap = wc.heap from e]; exact hc1) _ Yba.underlying60 rfl (size60 _ _ _ _ _)) (by assumption) ?_
        simp only [Act.put, List.setIfInBounds_toArray, List.set_cons_zero, List.set_cons_succ]
        refine any_take 4 (some 308) (.bool false) rfl rfl (by kernel_rfl) (by kernel_rfl) (by kernel_rfl) (fun _ _ _ h => h) (.inl ⟨by kernel_rfl, fun w' _ => exec_neq60 (.tmp 306) (.tmp 307) rfl hk hnwf nd.t (pv L i) (nx (L ++ [⟨db, x, ts⟩]) i) (by kernel_rfl) (by kernel_rfl)⟩) (by assumption) ?_
        simp only [Act.put, List.setIfInBounds_toArray, List.set_cons_zero, List.set_cons_succ]
        refine wpAnyH_done (by kernel_rfl) ?_ _
        have hB8 : Below w6.heap.size w6 { wc with drawn := wc.drawn + 1 } := ⟨hBc.os, hBc.tape, hBc.output, hBc.size, hBc.block⟩
        have hc3 : { wc with drawn := wc.drawn + 1 }.heap[nd.b]? = some (.cells (dc k nd.x nd.t (pv L i) (nx (L ++ [⟨db, x, ts⟩]) i)).toArray 60 (0, 0)) := hc2
        clear hS hBc hc1 hc2
        generalize { wc with drawn := wc.drawn + 1 } = w9 at hB8 hc3 ⊢
        go_wp2_with (refine wpList_is (.load 27 (.tmp 311)) rfl ?_; refine wpList_load_cell rfl 27 (.tmp 311) rfl nd.b 85 rfl _ _ hc3 _ Yba.underlying27 rfl _ (dc85 _ _ _ _ _) ?_)
        go_roundg (L.length - (i + 1))
        case measure => omega
        case rel => exact ⟨i + 1, by omega, by go_num, rfl, hB8⟩
    · have hin : L.length = i := by omega
      subst hin
      have e21 : vp (((L ++ [(⟨db, x, ts⟩ : Nd)])[L.length]?).map (·.b)) = .pointer (some ⟨db, 0, none⟩) := by rw [get_last]; rfl
      simp only [e21]
      clear e21 hiL hi
      have heP := eqPP db
      go_wp2_with fail
      refine bodyPost_ret (v := .bool true) (by kernel_rfl) rfl ⟨rfl, hw6.trans (hB.mono hw6s)⟩

end Go.Proofs.Ybulkdsrg
