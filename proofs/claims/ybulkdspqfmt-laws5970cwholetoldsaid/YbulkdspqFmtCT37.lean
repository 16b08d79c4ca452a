/-
  LawS5970CWhole: from region 37 on: the subject.
-/
import Derived.Test.YbulkdspqFmtCT44
namespace Go.Proofs.YbulkdspqFmt
open Go.RowKit
set_option linter.unusedSimpArgs false
set_option linter.unusedVariables false

attribute [local irreducible] wpList in
set_option maxRecDepth 1000000 in
set_option maxHeartbeats 16000000 in
theorem tail37 (w wz : World) (s h : Int) (b17 p b33 : Nat) (vi0 vt0 vr0 vi vt vr : Value) (ids refs : List Int) (gd : Good s ids refs) (hh : 1 ≤ h) (hh4 : h ≤ 4) (m : MS w wz s h b17 p b33 vi0 vt0 vr0 vi vt vr ids refs) (su ss al0 asl : Int) (hsu : Sm su) (hss : 0 ≤ ss ∧ ss < 256) (hal0 : Sm al0) (has : 0 ≤ asl ∧ asl < 256) (s0 s1 s2 s3 s8 s9 s10 s11 s12 s13 s14 s15 s16 s20 s21 s22 s23 s24 s26 s27 s28 s30 s31 s34 s35 s36 s37 s38 s39 s40 s41 s42 s43 s44 s45 s46 s47 s48 s49 s50 s51 s52 s53 s54 s55 s56 s57 s58 s59 s60 s61 s62 s63 s64 s65 s66 s67 s68 s69 s70 s71 s72 s73 s74 s75 s76 s77 s78 s79 s80 s81 s82 s83 s84 s85 s86 s87 s88 s89 s90 s91 s92 s93 s94 s95 s96 s97 s98 s99 s100 s101 s102 s103 s104 s105 s106 s107 s108 s109 s110 s111 s112 s113 s114 s115 s116 s117 s118 s119 s120 s121 s122 s123 s124 s125 s126 s127 s128 s129 s130 s131 s132 s133 s134 s135 s136 s137 s138 s139 s140 s141 s142 s143 s144 s145 s146 s147 s148 s149 s150 s151 s152 s153 s154 s155 s156 s157 s158 s159 s160 s161 s162 s163 s164 s165 s166 s167 s168 s169 s170 s171 s172 s173 s174 s175 s176 s177 s178 s179 s180 s181 s182 s183 s184 s185 s186 s187 s188 s189 s190 s191 s192 s193 s194 s195 s196 s197 s198 s199 s200 s201 s202 s203 s204 s205 s206 s207 s208 s209 s210 s211 s212 s213 s214 s215 s216 s217 s218 s219 s220 s221 s222 s223 s224 s225 s226 s227 s228 s229 s230 s231 s232 s233 s234 s235 s236 s237 s238 s239 s240 s241 s242 s243 s244 s245 s246 s247 s248 s249 s250 s251 s252 s253 s254 s255 s256 s257 s258 s259 s260 s261 s262 s263 s264 s265 s266 s267 s268 s269 s270 s271 s272 s273 s274 s275 s276 s277 s278 s279 s280 s281 s282 s283 s284 s285 s286 s287 s288 s289 s290 s291 s292 s293 s294 s295 s296 s297 s298 s299 s300 s301 s302 s303 s304 s305 s306 s307 s308 s309 s310 s311 s312 s313 s314 s315 s316 s317 s318 s319 s320 s321 s322 s323 s324 s325 s326 s327 s328 s329 s330 s331 s332 s333 s334 s335 s336 s337 s338 s339 s340 s341 s342 s343 s344 s345 s346 s347 s348 s349 s350 s351 s352 s353 s354 s355 s356 s357 s358 s359 s360 s361 s362 s363 s364 s365 s366 s367 s368 s369 s370 s371 s372 s373 s374 s375 s376 s377 s378 s379 s380 s381 s382 s383 s384 s385 s386 s387 s388 s389 s390 s391 s392 s393 s394 s395 s396 s397 s398 s399 s400 s401 s402 s403 s404 s405 s406 s407 : Value) : Code.wp Ybaf.prog (tailAt 37) (bodyPost Ybaf.prog Ybaf.f3 fun e w' => e = .returned (.bool true) ∧ w.grownBy w' none) ⟨[s0, s1, s2, s3, .int .u16 su, .int .u8 ss, .int .u16 al0, .int .u8 asl, s8, s9, s10, s11, s12, s13, s14, s15, s16, .pointer (some ⟨b17, 0, none⟩), .int .i64 h, vi0, s20, s21, s22, s23, s24, vt0, s26, s27, s28, vr0, s30, s31, .pointer (some ⟨p, 0, none⟩), .pointer (some ⟨b33, 0, none⟩), s34, s35, s36, s37, s38, s39, s40, s41, s42, s43, s44, s45, s46, s47, s48, s49, s50, s51, s52, s53, s54, s55, s56, s57, s58, s59, s60, s61, s62, s63, s64, s65, s66, s67, s68, s69, s70, s71, s72, s73, s74, s75, s76, s77, s78, s79, s80, s81, s82, s83, s84, s85, s86, s87, s88, s89, s90, s91, s92, s93, s94, s95, s96, s97, s98, s99, s100, s101, s102, s103, s104, s105, s106, s107, s108, s109, s110, s111, s112, s113, s114, s115, s116, s117, s118, s119, s120, s121, s122, s123, s124, s125, s126, s127, s128, s129, s130, s131, s132, s133, s134, s135, s136, s137, s138, s139, s140, s141, s142, s143, s144, s145, s146, s147, s148, s149, s150, s151, s152, s153, s154, s155, s156, s157, s158, s159, s160, s161, s162, s163, s164, s165, s166, s167, s168, s169, s170, s171, s172, s173, s174, s175, s176, s177, s178, s179, s180, s181, s182, s183, s184, s185, s186, s187, s188, s189, s190, s191, s192, s193, s194, s195, s196, s197, s198, s199, s200, s201, s202, s203, s204, s205, s206, s207, s208, s209, s210, s211, s212, s213, s214, s215, s216, s217, s218, s219, s220, s221, s222, s223, s224, s225, s226, s227, s228, s229, s230, s231, s232, s233, s234, s235, s236, s237, s238, s239, s240, s241, s242, s243, s244, s245, s246, s247, s248, s249, s250, s251, s252, s253, s254, s255, s256, s257, s258, s259, s260, s261, s262, s263, s264, s265, s266, s267, s268, s269, s270, s271, s272, s273, s274, s275, s276, s277, s278, s279, s280, s281, s282, s283, s284, s285, s286, s287, s288, s289, s290, s291, s292, s293, s294, s295, s296, s297, s298, s299, s300, s301, s302, s303, s304, s305, s306, s307, s308, s309, s310, s311, s312, s313, s314, s315, s316, s317, s318, s319, s320, s321, s322, s323, s324, s325, s326, s327, s328, s329, s330, s331, s332, s333, s334, s335, s336, s337, s338, s339, s340, s341, s342, s343, s344, s345, s346, s347, s348, s349, s350, s351, s352, s353, s354, s355, s356, s357, s358, s359, s360, s361, s362, s363, s364, s365, s366, s367, s368, s369, s370, s371, s372, s373, s374, s375, s376, s377, s378, s379, s380, s381, s382, s383, s384, s385, s386, s387, s388, s389, s390, s391, s392, s393, s394, s395, s396, s397, s398, s399, s400, s401, s402, s403, s404, s405, s406, s407].toArray, []⟩ wz := by
  conv => arg 2; whnf
  try dsimp only
  obtain ⟨ti, hti, _, hts, _⟩ := info_parts info25
  obtain ⟨ai, ci, evi, fi⟩ := own_form m.oi
  subst evi
  have hli := gd.li
  have hlr := gd.lr
  go_wp2_with fail
  refine (cid_any su hsu.1 hsu.2 _).mono ?_
  rintro e wx ⟨rfl, q1⟩
  have m1 := m.kept q1
  clear m q1
  go_upto_region 38 with (first
    | (refine wpList_is (.alloc 25) rfl ?_; refine wpList_alloc25 rfl rfl ?_)
    | (refine wpList_is (.store 25 (.tmp 34) (.tmp 183)) rfl ?_; refine wpList_store_blk rfl 25 (.tmp 34) (.tmp 183) rfl wx.heap.size (ic su) rfl rfl _ _ (heap_alloc_new wx _) rfl (size25 _) (ic_one _) ?_; intro u1 y34 q1; have k1 : wx.grownBy u1 none := grown_new q1; clear q1))
  go_upto_block 8 with (first
    | (refine wpList_isD 184 (.move (.tmp 5)) rfl rfl ?_; refine wpList_valG (by kernel_rfl) (.int .u8 ss) (by kernel_rfl) ?_; simp only [Act.put, List.setIfInBounds_toArray, List.set_cons_zero, List.set_cons_succ])
    | (refine wpList_isD 185 (.binOp .rem 5 (.tmp 184) (.const (.int .u8 3)) 5) rfl rfl ?_; refine wpList_valG (by kernel_rfl) (.int .u8 (ss % 3)) (exec_rem5 (.tmp 184) 3 rfl ss hss.1 (.inr (.inl rfl)) (by kernel_rfl) hss.2) ?_; simp only [Act.put, List.setIfInBounds_toArray, List.set_cons_zero, List.set_cons_succ]))
  rename_i K hK
  have HK : Hid _ := hK
  clear hK
  by_cases h1 : ss % 3 = 1
  · have h1d : decide (ss % 3 = 1) = true := by simp [h1]
    clear h1
    by_cases hp : 0 < ids.length
    · have hn0 : 0 < (ids.length : Int) := by omega
      have hps : decide (0 < (ids.length : Int)) = true := decide_eq_true hn0
      obtain ⟨j, ej⟩ : ∃ j : Nat, (j : Int) = su % (ids.length : Int) := ⟨(su % (ids.length : Int)).toNat, Int.toNat_of_nonneg (Int.emod_nonneg _ (by omega))⟩
      have hj : su % (ids.length : Int) = (j : Int) := ej.symm
      have hjb : (j : Int) < (ids.length : Int) := by rw [ej]; exact Int.emod_lt_of_pos _ hn0
      have hjl : j < ids.length := by omega
      obtain ⟨gi, rfl⟩ := fi hp
      obtain ⟨y, hy⟩ : ∃ y, ids[j]? = some y := ⟨_, List.getElem?_eq_getElem hjl⟩
      have hsy := (gd.mi y (List.mem_of_getElem? hy)).1
      have ry : u1.rangeAt gi (j * 20) (ic y) := own_ti (m1.kept k1).oi hy
      clear ej hp
      go_wp2_with (first
        | (refine wpList_isD 187 (.binOp .eql 5 (.tmp 185) (.const (.int .u8 1)) 5) rfl rfl ?_; refine wpList_valG (by kernel_rfl) (.bool true) (h1d ▸ exec_eql5 (.tmp 185) (.const (.int .u8 1)) rfl (ss % 3) 1 (by kernel_rfl) (by kernel_rfl)) ?_; simp only [Act.put, List.setIfInBounds_toArray, List.set_cons_zero, List.set_cons_succ])
        | (refine wpList_isD 190 (.binOp .gtr 3 (.tmp 189) (.const (.int .i64 0)) 3) rfl rfl ?_; refine wpList_valG (by kernel_rfl) (.bool true) (hps ▸ exec_gtr3 (.tmp 189) (.const (.int .i64 0)) rfl (ids.length : Int) 0 (by kernel_rfl) (by kernel_rfl)) ?_; simp only [Act.put, List.setIfInBounds_toArray, List.set_cons_zero, List.set_cons_succ])
        | (refine wpList_isD 191 (.move (.tmp 19)) rfl rfl ?_; refine wpList_valG (by kernel_rfl) (.slice (some ⟨gi, 0, none⟩) ids.length ci) (by kernel_rfl) ?_; simp only [Act.put, List.setIfInBounds_toArray, List.set_cons_zero, List.set_cons_succ])
        | (refine wpList_isD 192 (.move (.tmp 4)) rfl rfl ?_; refine wpList_valG (by kernel_rfl) (.int .u16 su) (by kernel_rfl) ?_; simp only [Act.put, List.setIfInBounds_toArray, List.set_cons_zero, List.set_cons_succ])
        | (refine wpList_isD 193 (.convert 22 3 (.tmp 192)) rfl rfl ?_; refine wpList_valG (by kernel_rfl) (.int .i64 su) (exec_conv223 (.tmp 192) rfl su hsu (by kernel_rfl)) ?_; simp only [Act.put, List.setIfInBounds_toArray, List.set_cons_zero, List.set_cons_succ])
        | (refine wpList_isD 194 (.move (.tmp 19)) rfl rfl ?_; refine wpList_valG (by kernel_rfl) (.slice (some ⟨gi, 0, none⟩) ids.length ci) (by kernel_rfl) ?_; simp only [Act.put, List.setIfInBounds_toArray, List.set_cons_zero, List.set_cons_succ])
        | (refine wpList_isD 195 (.call { callee := .builtin .len, args := #[.tmp 194], argTypes := #[27] }) rfl rfl ?_; refine wpList_valG (by kernel_rfl) (.int .i64 ids.length) (by kernel_rfl) ?_; simp only [Act.put, List.setIfInBounds_toArray, List.set_cons_zero, List.set_cons_succ])
        | (refine wpList_isD 196 (.binOp .rem 3 (.tmp 193) (.tmp 195) 3) rfl rfl ?_; refine wpList_valG (by kernel_rfl) (.int .i64 (j : Nat)) (hj ▸ exec_rem3 (.tmp 193) (.tmp 195) rfl su (ids.length : Int) hsu.1 hn0 (by kernel_rfl) (by kernel_rfl) (by omega)) ?_; simp only [Act.put, List.setIfInBounds_toArray, List.set_cons_zero, List.set_cons_succ])
        | (refine wpList_isD 197 (.indexAddr 27 (.tmp 191) (.tmp 196)) rfl rfl ?_; refine wpList_valG (by kernel_rfl) (.pointer (some ⟨gi, j * 20, none⟩)) (exec_index (.tmp 191) (.tmp 196) rfl Ybaf.underlying27 hti hts gi ids.length ci j hjl (by kernel_rfl) (by kernel_rfl)) ?_; simp only [Act.put, List.setIfInBounds_toArray, List.set_cons_zero, List.set_cons_succ])
        | (refine wpList_isD 198 (.load 25 (.tmp 197)) rfl rfl ?_; refine wpList_valG (by kernel_rfl) (.agg (ic y).toArray) (exec_load_row 25 (.tmp 197) rfl gi (j * 20) (by kernel_rfl) (ic y) _ ry Ybaf.underlying25 rfl (size25 _)) ?_; simp only [Act.put, List.setIfInBounds_toArray, List.set_cons_zero, List.set_cons_succ])
        | (refine wpList_is (.store 25 (.tmp 34) (.tmp 198)) rfl ?_; refine wpList_store_blk rfl 25 (.tmp 34) (.tmp 198) rfl wx.heap.size (ic y) (by kernel_rfl) (by kernel_rfl) _ _ y34 rfl (size25 _) (ic_one _) ?_; intro u9 y9 q9; have k9 : wx.grownBy u9 none := grow_own k1 q9 (fun z hz => by simp at hz; omega); clear q9))
      unfold Hid at HK
      refine HK _ _ ?_
      exact tail44 w u9 s h b17 p b33 _ vt0 _ vi vt vr ids refs gd hh hh4 (m1.kept k9) wx.heap.size _ al0 asl hsy hal0 has y9 _ _ _ _ _ _ _ _ _ _ _ _ _ _ _ _ _ _ _ _ _ _ _ _ _ _ _ _ _ _ _ _ _ _ _ _ _ _ _ _ _ _ _ _ _ _ _ _ _ _ _ _ _ _ _ _ _ _ _ _ _ _ _ _ _ _ _ _ _ _ _ _ _ _ _ _ _ _ _ _ _ _ _ _ _ _ _ _ _ _ _ _ _ _ _ _ _ _ _ _ _ _ _ _ _ _ _ _ _ _ _ _ _ _ _ _ _ _ _ _ _ _ _ _ _ _ _ _ _ _ _ _ _ _ _ _ _ _ _ _ _ _ _ _ _ _ _ _ _ _ _ _ _ _ _ _ _ _ _ _ _ _ _ _ _ _ _ _ _ _ _ _ _ _ _ _ _ _ _ _ _ _ _ _ _ _ _ _ _ _ _ _ _ _ _ _ _ _ _ _ _ _ _ _ _ _ _ _ _ _ _ _ _ _ _ _ _ _ _ _ _ _ _ _ _ _ _ _ _ _ _ _ _ _ _ _ _ _ _ _ _ _ _ _ _ _ _ _ _ _ _ _ _ _ _ _ _ _ _ _ _ _ _ _ _ _ _ _ _ _ _ _ _ _ _ _ _ _ _ _ _ _ _ _ _ _ _ _ _ _ _ _ _ _ _ _ _ _ _ _ _ _ _ _ _ _ _ _ _ _ _ _ _ _ _ _ _ _ _ _ _ _ _ _ _ _ _ _ _ _ _ _ _ _ _ _ _ _ _ _ _ _ _ _ _ _ _ _ _ _ _ _ _ _ _ _ _ _ _ _ _ _ _ _ _ _ _ _ _ _ _ _ _ _ _ _ _ _ _ _ _ _ _ _ _ _ _ _ _ _ _ _ _ _ _ _ _ _
    · have hps : decide (0 < (ids.length : Int)) = false := decide_eq_false (by omega)
      go_wp2_with (first
        | (refine wpList_isD 187 (.binOp .eql 5 (.tmp 185) (.const (.int .u8 1)) 5) rfl rfl ?_; refine wpList_valG (by kernel_rfl) (.bool true) (h1d ▸ exec_eql5 (.tmp 185) (.const (.int .u8 1)) rfl (ss % 3) 1 (by kernel_rfl) (by kernel_rfl)) ?_; simp only [Act.put, List.setIfInBounds_toArray, List.set_cons_zero, List.set_cons_succ])
        | (refine wpList_isD 190 (.binOp .gtr 3 (.tmp 189) (.const (.int .i64 0)) 3) rfl rfl ?_; refine wpList_valG (by kernel_rfl) (.bool false) (hps ▸ exec_gtr3 (.tmp 189) (.const (.int .i64 0)) rfl (ids.length : Int) 0 (by kernel_rfl) (by kernel_rfl)) ?_; simp only [Act.put, List.setIfInBounds_toArray, List.set_cons_zero, List.set_cons_succ]))
      unfold Hid at HK
      refine HK _ _ ?_
      exact tail44 w u1 s h b17 p b33 _ vt0 _ vi vt vr ids refs gd hh hh4 (m1.kept k1) wx.heap.size _ al0 asl hsu hal0 has y34 _ _ _ _ _ _ _ _ _ _ _ _ _ _ _ _ _ _ _ _ _ _ _ _ _ _ _ _ _ _ _ _ _ _ _ _ _ _ _ _ _ _ _ _ _ _ _ _ _ _ _ _ _ _ _ _ _ _ _ _ _ _ _ _ _ _ _ _ _ _ _ _ _ _ _ _ _ _ _ _ _ _ _ _ _ _ _ _ _ _ _ _ _ _ _ _ _ _ _ _ _ _ _ _ _ _ _ _ _ _ _ _ _ _ _ _ _ _ _ _ _ _ _ _ _ _ _ _ _ _ _ _ _ _ _ _ _ _ _ _ _ _ _ _ _ _ _ _ _ _ _ _ _ _ _ _ _ _ _ _ _ _ _ _ _ _ _ _ _ _ _ _ _ _ _ _ _ _ _ _ _ _ _ _ _ _ _ _ _ _ _ _ _ _ _ _ _ _ _ _ _ _ _ _ _ _ _ _ _ _ _ _ _ _ _ _ _ _ _ _ _ _ _ _ _ _ _ _ _ _ _ _ _ _ _ _ _ _ _ _ _ _ _ _ _ _ _ _ _ _ _ _ _ _ _ _ _ _ _ _ _ _ _ _ _ _ _ _ _ _ _ _ _ _ _ _ _ _ _ _ _ _ _ _ _ _ _ _ _ _ _ _ _ _ _ _ _ _ _ _ _ _ _ _ _ _ _ _ _ _ _ _ _ _ _ _ _ _ _ _ _ _ _ _ _ _ _ _ _ _ _ _ _ _ _ _ _ _ _ _ _ _ _ _ _ _ _ _ _ _ _ _ _ _ _ _ _ _ _ _ _ _ _ _ _ _ _ _ _ _ _ _ _ _ _ _ _ _ _ _ _ _ _ _ _ _ _ _ _ _ _ _ _ _ _ _ _ _
  · have h1d : decide (ss % 3 = 1) = false := by simp [h1]
    clear h1
    by_cases h2 : ss % 3 = 2
    · have h2d : decide (ss % 3 = 2) = true := by simp [h2]
      clear h2
      go_wp2_with (first
        | (refine wpList_isD 187 (.binOp .eql 5 (.tmp 185) (.const (.int .u8 1)) 5) rfl rfl ?_; refine wpList_valG (by kernel_rfl) (.bool false) (h1d ▸ exec_eql5 (.tmp 185) (.const (.int .u8 1)) rfl (ss % 3) 1 (by kernel_rfl) (by kernel_rfl)) ?_; simp only [Act.put, List.setIfInBounds_toArray, List.set_cons_zero, List.set_cons_succ])
        | (refine wpList_isD 200 (.binOp .eql 5 (.tmp 185) (.const (.int .u8 2)) 5) rfl rfl ?_; refine wpList_valG (by kernel_rfl) (.bool true) (h2d ▸ exec_eql5 (.tmp 185) (.const (.int .u8 2)) rfl (ss % 3) 2 (by kernel_rfl) (by kernel_rfl)) ?_; simp only [Act.put, List.setIfInBounds_toArray, List.set_cons_zero, List.set_cons_succ])
        | (refine wpList_isD 201 (.load 25 (.tmp 17)) rfl rfl ?_; refine wpList_valG (by kernel_rfl) (.agg (ic s).toArray) (exec_load_row 25 (.tmp 17) rfl b17 0 (by kernel_rfl) (ic s) _ (range_of_blk (m1.kept k1).x17) Ybaf.underlying25 rfl (size25 _)) ?_; simp only [Act.put, List.setIfInBounds_toArray, List.set_cons_zero, List.set_cons_succ])
        | (refine wpList_is (.store 25 (.tmp 34) (.tmp 201)) rfl ?_; refine wpList_store_blk rfl 25 (.tmp 34) (.tmp 201) rfl wx.heap.size (ic s) (by kernel_rfl) (by kernel_rfl) _ _ y34 rfl (size25 _) (ic_one _) ?_; intro u9 y9 q9; have k9 : wx.grownBy u9 none := grow_own k1 q9 (fun z hz => by simp at hz; omega); clear q9))
      unfold Hid at HK
      refine HK _ _ ?_
      exact tail44 w u9 s h b17 p b33 _ vt0 _ vi vt vr ids refs gd hh hh4 (m1.kept k9) wx.heap.size _ al0 asl gd.sm hal0 has y9 _ _ _ _ _ _ _ _ _ _ _ _ _ _ _ _ _ _ _ _ _ _ _ _ _ _ _ _ _ _ _ _ _ _ _ _ _ _ _ _ _ _ _ _ _ _ _ _ _ _ _ _ _ _ _ _ _ _ _ _ _ _ _ _ _ _ _ _ _ _ _ _ _ _ _ _ _ _ _ _ _ _ _ _ _ _ _ _ _ _ _ _ _ _ _ _ _ _ _ _ _ _ _ _ _ _ _ _ _ _ _ _ _ _ _ _ _ _ _ _ _ _ _ _ _ _ _ _ _ _ _ _ _ _ _ _ _ _ _ _ _ _ _ _ _ _ _ _ _ _ _ _ _ _ _ _ _ _ _ _ _ _ _ _ _ _ _ _ _ _ _ _ _ _ _ _ _ _ _ _ _ _ _ _ _ _ _ _ _ _ _ _ _ _ _ _ _ _ _ _ _ _ _ _ _ _ _ _ _ _ _ _ _ _ _ _ _ _ _ _ _ _ _ _ _ _ _ _ _ _ _ _ _ _ _ _ _ _ _ _ _ _ _ _ _ _ _ _ _ _ _ _ _ _ _ _ _ _ _ _ _ _ _ _ _ _ _ _ _ _ _ _ _ _ _ _ _ _ _ _ _ _ _ _ _ _ _ _ _ _ _ _ _ _ _ _ _ _ _ _ _ _ _ _ _ _ _ _ _ _ _ _ _ _ _ _ _ _ _ _ _ _ _ _ _ _ _ _ _ _ _ _ _ _ _ _ _ _ _ _ _ _ _ _ _ _ _ _ _ _ _ _ _ _ _ _ _ _ _ _ _ _ _ _ _ _ _ _ _ _ _ _ _ _ _ _ _ _ _ _ _ _ _ _ _ _ _ _ _ _ _ _ _ _ _ _ _ _
    · have h2d : decide (ss % 3 = 2) = false := by simp [h2]
      clear h2
      go_wp2_with (first
        | (refine wpList_isD 187 (.binOp .eql 5 (.tmp 185) (.const (.int .u8 1)) 5) rfl rfl ?_; refine wpList_valG (by kernel_rfl) (.bool false) (h1d ▸ exec_eql5 (.tmp 185) (.const (.int .u8 1)) rfl (ss % 3) 1 (by kernel_rfl) (by kernel_rfl)) ?_; simp only [Act.put, List.setIfInBounds_toArray, List.set_cons_zero, List.set_cons_succ])
        | (refine wpList_isD 200 (.binOp .eql 5 (.tmp 185) (.const (.int .u8 2)) 5) rfl rfl ?_; refine wpList_valG (by kernel_rfl) (.bool false) (h2d ▸ exec_eql5 (.tmp 185) (.const (.int .u8 2)) rfl (ss % 3) 2 (by kernel_rfl) (by kernel_rfl)) ?_; simp only [Act.put, List.setIfInBounds_toArray, List.set_cons_zero, List.set_cons_succ]))
      unfold Hid at HK
      refine HK _ _ ?_
      exact tail44 w u1 s h b17 p b33 _ vt0 _ vi vt vr ids refs gd hh hh4 (m1.kept k1) wx.heap.size _ al0 asl hsu hal0 has y34 _ _ _ _ _ _ _ _ _ _ _ _ _ _ _ _ _ _ _ _ _ _ _ _ _ _ _ _ _ _ _ _ _ _ _ _ _ _ _ _ _ _ _ _ _ _ _ _ _ _ _ _ _ _ _ _ _ _ _ _ _ _ _ _ _ _ _ _ _ _ _ _ _ _ _ _ _ _ _ _ _ _ _ _ _ _ _ _ _ _ _ _ _ _ _ _ _ _ _ _ _ _ _ _ _ _ _ _ _ _ _ _ _ _ _ _ _ _ _ _ _ _ _ _ _ _ _ _ _ _ _ _ _ _ _ _ _ _ _ _ _ _ _ _ _ _ _ _ _ _ _ _ _ _ _ _ _ _ _ _ _ _ _ _ _ _ _ _ _ _ _ _ _ _ _ _ _ _ _ _ _ _ _ _ _ _ _ _ _ _ _ _ _ _ _ _ _ _ _ _ _ _ _ _ _ _ _ _ _ _ _ _ _ _ _ _ _ _ _ _ _ _ _ _ _ _ _ _ _ _ _ _ _ _ _ _ _ _ _ _ _ _ _ _ _ _ _ _ _ _ _ _ _ _ _ _ _ _ _ _ _ _ _ _ _ _ _ _ _ _ _ _ _ _ _ _ _ _ _ _ _ _ _ _ _ _ _ _ _ _ _ _ _ _ _ _ _ _ _ _ _ _ _ _ _ _ _ _ _ _ _ _ _ _ _ _ _ _ _ _ _ _ _ _ _ _ _ _ _ _ _ _ _ _ _ _ _ _ _ _ _ _ _ _ _ _ _ _ _ _ _ _ _ _ _ _ _ _ _ _ _ _ _ _ _ _ _ _ _ _ _ _ _ _ _ _ _ _ _ _ _ _ _ _ _ _ _ _ _ _ _ _ _ _ _ _ _ _
end Go.Proofs.YbulkdspqFmt
