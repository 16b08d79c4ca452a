/-
  LawS5970AWhole: the stretch from region 10 on.
-/
import Derived.Test.YbulkdspqAT16
namespace Go.Proofs.Ybulkdspq
open Go.RowKit
set_option linter.unusedSimpArgs false
set_option linter.unusedVariables false

set_option maxRecDepth 1000000 in
set_option maxHeartbeats 8000000 in
theorem tail10 (w wz : World) (a1 a2 a3 a4 : Option Addr) (n1 c10 n2 c20 n3 c30 n4 c40 sb g1 : Nat) (ms rs ps : List Int) (hd : List Hd) (sB sf su uB : Int) (hsm : n1 + n2 + n3 + n4 ≤ 8192) (l1 : ms.length = n1) (l2 : rs.length = n2) (l3 : hd.length = n3) (l4 : ps.length = n4) (r1 : Rd1 w a1 ms) (r2 : Rd1 w a2 rs) (r3 : Rd3 w a3 hd) (r4 : Rd1 w a4 ps)
    (z1 : a1 = none → n1 = 0 ∧ c10 = 0) (z2 : a2 = none → n2 = 0 ∧ c20 = 0) (f1 : ∀ b ∈ ms, (Lit.int .u8 b).wf = true) (f2 : ∀ b ∈ rs, (Lit.int .u8 b).wf = true) (f3 : ∀ h ∈ hd, (Lit.int .u8 h.b).wf = true) (fs : (Lit.int .u8 sB).wf = true) (fu : (Lit.int .u8 uB).wf = true) (hS0 : Hs w.heap.size w wz [(g1, .cells (ms.flatMap idc).toArray 26), (sb, .cells (setc (.slice (some ⟨g1, 0, none⟩) n1 n1) (.slice none 0 0)).toArray 34)]) (s8 s9 s10 s11 s12 s13 s14 s15 s16 s18 s19 s20 s21 s22 s23 s24 s25 s26 s27 s28 s29 s30 s31 s32 s33 s34 s35 s36 s37 s38 s39 s40 s41 s42 s43 s44 s45 s46 s47 s48 s49 s50 s51 s52 s53 s54 s55 s56 s57 s58 s59 s60 s61 s62 s63 s64 s65 s66 s67 s68 s69 s70 s71 s72 s73 s74 s75 s76 s77 s78 s79 s80 s81 s82 s83 s84 s85 s86 s87 s88 s89 s90 s91 s92 s93 s94 s95 s96 s97 s98 s99 s100 s101 s102 s103 s104 s105 s106 s107 s108 s109 s110 s111 s112 s113 s114 s115 s116 s117 s118 s119 s120 s121 s122 s123 s124 s125 s126 s127 s128 s129 s130 s131 s132 s133 s134 s135 s136 s137 s138 s139 s140 s141 s142 s143 s144 s145 s146 s147 s148 s149 s150 s151 s152 s153 s154 s155 s156 s157 s158 s159 s160 s161 s162 s163 s164 s165 s166 s167 s168 s169 s170 s171 s172 s173 s174 s175 s176 s177 s178 s179 s180 s181 s182 s183 s184 s185 s186 s187 s188 s189 s190 s191 s192 s193 s194 s195 s196 s197 s198 s199 s200 s201 s202 s203 s204 s205 s206 s207 s208 s209 s210 s211 s212 s213 s214 s215 s216 s217 s218 s219 s220 s221 s222 s223 s224 s225 s226 s227 s228 s229 s230 s231 s232 s233 s234 s235 s236 s237 s238 s239 s240 s241 s242 s243 s244 s245 s246 s247 s248 s249 s250 s251 s252 s253 s254 s255 s256 s257 s258 s259 s260 s261 s262 s263 s264 s265 s266 s267 s268 s269 s270 s271 s272 s273 s274 s275 s276 s277 s278 s279 s280 s281 s282 s283 s284 s285 s286 s287 s288 s289 s290 s291 s292 s293 s294 s295 s296 s297 s298 s299 s300 s301 s302 s303 s304 s305 s306 s307 s308 s309 s310 s311 s312 s313 s314 s315 s316 s317 s318 s319 s320 s321 s322 s323 s324 s325 s326 s327 s328 s329 s330 s331 s332 s333 s334 s335 s336 s337 s338 s339 s340 s341 s342 s343 s344 s345 s346 s347 s348 s349 s350 s351 s352 s353 s354 s355 s356 s357 s358 s359 s360 s361 s362 s363 s364 s365 s366 s367 s368 s369 s370 s371 s372 s373 s374 s375 s376 s377 s378 s379 s380 s381 s382 s383 s384 s385 s386 s387 s388 s389 s390 s391 s392 s393 s394 s395 s396 s397 s398 s399 s400 s401 s402 s403 s404 : Value) :
    Code.wp Yba.prog (tailAt 10) (bodyPost Yba.prog Yba.f3 fun e w' => e = .returned (.bool true) ∧ Below w.heap.size w w') ⟨#[.slice a1 n1 c10, .slice a2 n2 c20, .slice a3 n3 c30, .slice a4 n4 c40, .int .i64 sf, .int .u8 sB, .int .i64 su, .int .u8 uB, s8, s9, s10, s11, s12, s13, s14, s15, s16, .pointer (some ⟨sb, 0, none⟩), s18, s19, s20, s21, s22, s23, s24, s25, s26, s27, s28, s29, s30, s31, s32, s33, s34, s35, s36, s37, s38, s39, s40, s41, s42, s43, s44, s45, s46, s47, s48, s49, s50, s51, s52, s53, s54, s55, s56, s57, s58, s59, s60, s61, s62, s63, s64, s65, s66, s67, s68, s69, s70, s71, s72, s73, s74, s75, s76, s77, s78, s79, s80, s81, s82, s83, s84, s85, s86, s87, s88, s89, s90, s91, s92, s93, s94, s95, s96, s97, s98, s99, s100, s101, s102, s103, s104, s105, s106, s107, s108, s109, s110, s111, s112, s113, s114, s115, s116, s117, s118, s119, s120, s121, s122, s123, s124, s125, s126, s127, s128, s129, s130, s131, s132, s133, s134, s135, s136, s137, s138, s139, s140, s141, s142, s143, s144, s145, s146, s147, s148, s149, s150, s151, s152, s153, s154, s155, s156, s157, s158, s159, s160, s161, s162, s163, s164, s165, s166, s167, s168, s169, s170, s171, s172, s173, s174, s175, s176, s177, s178, s179, s180, s181, s182, s183, s184, s185, s186, s187, s188, s189, s190, s191, s192, s193, s194, s195, s196, s197, s198, s199, s200, s201, s202, s203, s204, s205, s206, s207, s208, s209, s210, s211, s212, s213, s214, s215, s216, s217, s218, s219, s220, s221, s222, s223, s224, s225, s226, s227, s228, s229, s230, s231, s232, s233, s234, s235, s236, s237, s238, s239, s240, s241, s242, s243, s244, s245, s246, s247, s248, s249, s250, s251, s252, s253, s254, s255, s256, s257, s258, s259, s260, s261, s262, s263, s264, s265, s266, s267, s268, s269, s270, s271, s272, s273, s274, s275, s276, s277, s278, s279, s280, s281, s282, s283, s284, s285, s286, s287, s288, s289, s290, s291, s292, s293, s294, s295, s296, s297, s298, s299, s300, s301, s302, s303, s304, s305, s306, s307, s308, s309, s310, s311, s312, s313, s314, s315, s316, s317, s318, s319, s320, s321, s322, s323, s324, s325, s326, s327, s328, s329, s330, s331, s332, s333, s334, s335, s336, s337, s338, s339, s340, s341, s342, s343, s344, s345, s346, s347, s348, s349, s350, s351, s352, s353, s354, s355, s356, s357, s358, s359, s360, s361, s362, s363, s364, s365, s366, s367, s368, s369, s370, s371, s372, s373, s374, s375, s376, s377, s378, s379, s380, s381, s382, s383, s384, s385, s386, s387, s388, s389, s390, s391, s392, s393, s394, s395, s396, s397, s398, s399, s400, s401, s402, s403, s404], []⟩ wz := by
  conv => arg 2; whnf
  obtain ⟨i26, hi26, _, hs26, _⟩ := info_parts info26
  go_upto_region 11 with (first
    | (refine wpList_is (.makeSlice 31 (.tmp 87) (.tmp 87)) rfl ?_; refine wpList_makeF rfl (0 : Int) idc_len (by omega) rfl Yba.underlying31 info26 (by omega) (.tmp 87) rfl n2 (by omega) rfl hS0 ?_; intro g2 v2 h2)
    | (refine wpList_is (.store 31 (.tmp 90) (.tmp 88)) rfl ?_; refine wpList_storeC rfl 31 (.tmp 90) (.tmp 88) rfl h2 2 sb 26 (.slice (some ⟨g2, 0, none⟩) n2 n2) _ 34 rfl rfl rfl size31 (by simp [setc, idc]) rfl [(g2, .cells ((List.replicate n2 (0 : Int)).flatMap idc).toArray 26), (g1, .cells (ms.flatMap idc).toArray 26), (sb, .cells (setc (.slice (some ⟨g1, 0, none⟩) n1 n1) (.slice (some ⟨g2, 0, none⟩) n2 n2)).toArray 34)] rfl ?_; intro v3 h3))
  clear h2 hS0
  have h4 : Hs w.heap.size w v3 ([(g2, .cells ((pre (0 : Int) rs 0).flatMap idc).toArray 26), (g1, .cells (ms.flatMap idc).toArray 26), (sb, .cells (setc (.slice (some ⟨g1, 0, none⟩) n1 n1) (.slice (some ⟨g2, 0, none⟩) n2 n2)).toArray 34)]) := by
    have e := pre_zero (0 : Int) rs
    rw [l2] at e
    rw [e]; exact h3
  clear h3
  go_wp2_with fail
  go_loopg [93] n2 (fun g v wr => ∃ i : Nat, i + g = n2 ∧ v = .int .i64 i ∧ Hs w.heap.size w wr ([(g2, .cells ((pre (0 : Int) rs i).flatMap idc).toArray 26), (g1, .cells (ms.flatMap idc).toArray 26), (sb, .cells (setc (.slice (some ⟨g1, 0, none⟩) n1 n1) (.slice (some ⟨g2, 0, none⟩) n2 n2)).toArray 34)]))
  case atStart => exact ⟨0, by omega, rfl, h4⟩
  case round =>
    clear h4
    obtain ⟨i, hi, rfl, h⟩ := hrel
    by_cases hin : i < n2
    · obtain ⟨p, hp⟩ : ∃ p, rs[i]? = some p := ⟨_, List.getElem?_eq_getElem (by omega)⟩
      obtain ⟨b, o, rfl, hb, hc0⟩ := r2 i p hp
      have hin' : (i : Int) < (n2 : Int) := by omega
      have hc : wr.cell? ⟨b, o + i, none⟩ = some (.int .u8 p) := (h.below.cell (p := ⟨b, _, none⟩) hb).trans hc0
      have HF : Hid (Hs w.heap.size w wr _) := h
      clear h
      go_upto_region 14 with fail
      have h1 := Hs.grow HF (grown_drew wr)
      clear HF hc
      refine wp_region_held (S := fun w' : World => w'.heap[sb]? = some (.cells (setc (.slice (some ⟨g1, 0, none⟩) n1 n1) (.slice (some ⟨g2, 0, none⟩) n2 n2)).toArray 34 (0, 0))) (by kernel_rfl) ?_
      generalize ({ wr with drawn := wr.drawn + 1 } : World) = v1 at *
      have hS : (fun w' : World => w'.heap[sb]? = some (.cells (setc (.slice (some ⟨g1, 0, none⟩) n1 n1) (.slice (some ⟨g2, 0, none⟩) n2 n2)).toArray 34 (0, 0))) v1 := h1.get 2 rfl
      refine any_take 0 (some 98) (.pointer (some ⟨sb, 0, none⟩)) rfl rfl (by kernel_rfl) (by kernel_rfl) (by kernel_rfl) (fun _ _ _ h => h) (.inl ⟨by kernel_rfl, fun _ _ => by kernel_rfl⟩) (by assumption) ?_
      simp only [Act.put, List.setIfInBounds_toArray, List.set_cons_zero, List.set_cons_succ]
      refine any_take 1 (some 99) (.pointer (some ⟨sb, 0, none⟩)) rfl rfl (by kernel_rfl) (by kernel_rfl) (by kernel_rfl) (fun _ _ _ h => h) (.inl ⟨by kernel_rfl, fun _ _ => by kernel_rfl⟩) (by assumption) ?_
      simp only [Act.put, List.setIfInBounds_toArray, List.set_cons_zero, List.set_cons_succ]
      refine any_take 2 (some 100) (.pointer (some ⟨sb, 26, none⟩)) rfl rfl (by kernel_rfl) (by kernel_rfl) (by kernel_rfl) (fun _ _ _ h => h) (.inl ⟨by kernel_rfl, fun _ _ => by kernel_rfl⟩) (by assumption) ?_
      simp only [Act.put, List.setIfInBounds_toArray, List.set_cons_zero, List.set_cons_succ]
      refine any_take 3 (some 101) (.slice (some ⟨g2, 0, none⟩) n2 n2) rfl rfl (by kernel_rfl) (by kernel_rfl) (by kernel_rfl) (fun _ _ _ h => h) (yld_cell (by kernel_rfl) 31 (.tmp 100) rfl sb 26 (by kernel_rfl) _ 34 (fun w' e => e) _ Yba.underlying31 rfl _ rfl) (by assumption) ?_
      simp only [Act.put, List.setIfInBounds_toArray, List.set_cons_zero, List.set_cons_succ]
      refine any_take 4 (some 102) (.int .i64 i) rfl rfl (by kernel_rfl) (by kernel_rfl) (by kernel_rfl) (fun _ _ _ h => h) (.inl ⟨by kernel_rfl, fun _ _ => by kernel_rfl⟩) (by assumption) ?_
      simp only [Act.put, List.setIfInBounds_toArray, List.set_cons_zero, List.set_cons_succ]
      refine any_take 5 (some 103) (.int .u8 p) rfl rfl (by kernel_rfl) (by kernel_rfl) (by kernel_rfl) (fun _ _ _ h => h) (.inl ⟨by kernel_rfl, fun _ _ => by kernel_rfl⟩) (by assumption) ?_
      simp only [Act.put, List.setIfInBounds_toArray, List.set_cons_zero, List.set_cons_succ]
      refine any_call 6 (some 104) 5 #[.int .u8 p] rfl rfl (by kernel_rfl) (by kernel_rfl) (by kernel_rfl) ?_
      refine (aid_any p _).mono ?_
      rintro e v2 ⟨rfl, q2⟩
      have h2 := h1.grow q2
      refine ⟨_, rfl, h2.get 2 rfl, ?_⟩
      simp only [Act.put, List.setIfInBounds_toArray, List.set_cons_zero, List.set_cons_succ]
      clear hS h1 q2
      have hS : (fun w' : World => w'.heap[sb]? = some (.cells (setc (.slice (some ⟨g1, 0, none⟩) n1 n1) (.slice (some ⟨g2, 0, none⟩) n2 n2)).toArray 34 (0, 0))) v2 := h2.get 2 rfl
      refine any_take 7 (some 105) (.pointer (some ⟨g2, i * 20, none⟩)) rfl rfl (by kernel_rfl) (by kernel_rfl) (by kernel_rfl) (fun _ _ _ h => h) (.inl ⟨by kernel_rfl, fun w' _ => exec_index (.tmp 101) (.tmp 102) rfl Yba.underlying31 hi26 hs26 g2 n2 n2 i hin (by kernel_rfl) (by kernel_rfl)⟩) (by assumption) ?_
      simp only [Act.put, List.setIfInBounds_toArray, List.set_cons_zero, List.set_cons_succ]
      have hblk : Blk idc v2 g2 26 (pre (0 : Int) rs i) := h2.get 0 rfl
      refine any_store_row 8 rfl rfl (by kernel_rfl) (by kernel_rfl) 26 (.tmp 105) (.tmp 104) rfl g2 i (.agg (idc p).toArray) (by kernel_rfl) (by kernel_rfl) hblk idc_len size26' idc_one (by rw [pre_len _ _ (by omega)]; omega) p rfl ?_
      intro v7 hb7 k7
      rw [pre_set (0 : Int) rs hp] at hb7
      have h7 := h2.upd 0 rfl k7 hb7
      simp only [List.set_cons_zero] at h7
      refine ⟨h7.get 2 rfl, ?_⟩
      simp only [Act.put, List.setIfInBounds_toArray, List.set_cons_zero, List.set_cons_succ]
      refine wpAnyH_done (by kernel_rfl) ?_ _
      clear h2 hb7 k7 hblk hS
      go_wp2_with fail
      go_roundg (n2 - (i + 1))
      case measure => omega
      case rel => exact ⟨i + 1, by omega, by go_num, h7⟩
    · have hin' : n2 = i := by omega
      subst hin'
      have h' : Hs w.heap.size w wr [(g2, .cells (rs.flatMap idc).toArray 26), (g1, .cells (ms.flatMap idc).toArray 26), (sb, .cells (setc (.slice (some ⟨g1, 0, none⟩) n1 n1) (.slice (some ⟨g2, 0, none⟩) n2 n2)).toArray 34)] := by
        have e : pre (0 : Int) rs n2 = rs := by rw [← l2]; exact pre_full _ _
        rw [e] at h; exact h
      clear h
      go_upto_if 94 with fail
      go_step
      go_step
      go_step
      refine by_K (c := ?cc) (Q := ?QQ) ?hr ?ht
      case hr => assumption
      exact tail16 w wr a1 a2 a3 a4 n1 c10 n2 c20 n3 c30 n4 c40 sb g1 g2 ms rs ps hd sB sf su uB hsm l1 l2 l3 l4 r1 r2 r3 r4 z1 z2 f1 f2 f3 fs fu h' _ _ _ _ _ _ _ _ _ _ _ _ _ _ _ _ _ _ _ _ _ _ _ _ _ _ _ _ _ _ _ _ _ _ _ _ _ _ _ _ _ _ _ _ _ _ _ _ _ _ _ _ _ _ _ _ _ _ _ _ _ _ _ _ _ _ _ _ _ _ _ _ _ _ _ _ _ _ _ _ _ _ _ _ _ _ _ _ _ _ _ _ _ _ _ _ _ _ _ _ _ _ _ _ _ _ _ _ _ _ _ _ _ _ _ _ _ _ _ _ _ _ _ _ _ _ _ _ _ _ _ _ _ _ _ _ _ _ _ _ _ _ _ _ _ _ _ _ _ _ _ _ _ _ _ _ _ _ _ _ _ _ _ _ _ _ _ _ _ _ _ _ _ _ _ _ _ _ _ _ _ _ _ _ _ _ _ _ _ _ _ _ _ _ _ _ _ _ _ _ _ _ _ _ _ _ _ _ _ _ _ _ _ _ _ _ _ _ _ _ _ _ _ _ _ _ _ _ _ _ _ _ _ _ _ _ _ _ _ _ _ _ _ _ _ _ _ _ _ _ _ _ _ _ _ _ _ _ _ _ _ _ _ _ _ _ _ _ _ _ _ _ _ _ _ _ _ _ _ _ _ _ _ _ _ _ _ _ _ _ _ _ _ _ _ _ _ _ _ _ _ _ _ _ _ _ _ _ _ _ _ _ _ _ _ _ _ _ _ _ _ _ _ _ _ _ _ _ _ _ _ _ _ _ _ _ _ _ _ _ _ _ _ _ _ _ _ _ _ _ _ _ _ _ _ _ _ _ _ _ _ _ _ _ _ _ _ _ _ _ _ _ _ _ _ _ _ _ _ _ _ _ _ _ _ _ _ _ _ _ _ _ _ _ _ _

end Go.Proofs.Ybulkdspq
