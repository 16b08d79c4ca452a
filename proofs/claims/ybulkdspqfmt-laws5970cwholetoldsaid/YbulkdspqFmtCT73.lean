/-
  LawS5970CWhole: from region 73 on: the answers that the law wants.
-/
import Derived.Test.YbulkdspqFmtCT94
namespace Go.Proofs.YbulkdspqFmt
open Go.RowKit
set_option linter.unusedSimpArgs false
set_option linter.unusedVariables false

theorem wpList_isD {P : Program} {ops : Array Oper} {rest : List Oper} {op : Oper} {a : Act} {w : World} {Q : Exit → Act → World → Prop} (d : Nat) (o : Op) (hd : op.dst = some d) (ho : op.op = o) (h : wpList P ops Q (op :: rest) a w) : wpList P ops Q (op :: rest) a w := h

attribute [local irreducible] wpList in
set_option maxRecDepth 1000000 in
set_option maxHeartbeats 16000000 in
theorem tail73 (w wz : World) (s h : Int) (b17 p b33 : Nat) (vi0 vt0 vr0 vi vt vr : Value) (ids refs : List Int) (gd : Good s ids refs) (hh : 1 ≤ h) (hh4 : h ≤ 4) (m : MS w wz s h b17 p b33 vi0 vt0 vr0 vi vt vr ids refs) (b34 b35 b40 : Nat) (x al c : Int) (ok g1 g2 : Bool) (hx : Sm x) (hal : Sm al) (hc : Sm c) (x34 : wz.heap[b34]? = some (.cells (ic x).toArray 25 (0, 0))) (x35 : wz.heap[b35]? = some (.cells (ic al).toArray 25 (0, 0))) (x40 : wz.heap[b40]? = some (.cells (ic c).toArray 25 (0, 0))) (eok : Aside (ok = nearOk ids refs)) (ec : Aside (ok = true → c = nearC s ids refs)) (eg : Aside ((g1, g2) = alert s h ids refs x al)) (s0 s1 s2 s3 s4 s5 s6 s7 s8 s9 s10 s11 s12 s13 s14 s15 s16 s20 s21 s22 s23 s24 s26 s27 s28 s30 s31 s36 s41 s42 s43 s44 s45 s46 s47 s48 s49 s50 s51 s52 s53 s54 s55 s56 s57 s58 s59 s60 s61 s62 s63 s64 s65 s66 s67 s68 s69 s70 s71 s72 s73 s74 s75 s76 s77 s78 s79 s80 s81 s82 s83 s84 s85 s86 s87 s88 s89 s90 s91 s92 s93 s94 s95 s96 s97 s98 s99 s100 s101 s102 s103 s104 s105 s106 s107 s108 s109 s110 s111 s112 s113 s114 s115 s116 s117 s118 s119 s120 s121 s122 s123 s124 s125 s126 s127 s128 s129 s130 s131 s132 s133 s134 s135 s136 s137 s138 s139 s140 s141 s142 s143 s144 s145 s146 s147 s148 s149 s150 s151 s152 s153 s154 s155 s156 s157 s158 s159 s160 s161 s162 s163 s164 s165 s166 s167 s168 s169 s170 s171 s172 s173 s174 s175 s176 s177 s178 s179 s180 s181 s182 s183 s184 s185 s186 s187 s188 s189 s190 s191 s192 s193 s194 s195 s196 s197 s198 s199 s200 s201 s202 s203 s204 s205 s206 s207 s208 s209 s210 s211 s212 s213 s214 s215 s216 s217 s218 s219 s220 s221 s222 s223 s224 s225 s226 s227 s228 s229 s230 s231 s232 s233 s234 s235 s236 s237 s238 s239 s240 s241 s242 s243 s244 s245 s246 s247 s248 s249 s250 s251 s252 s253 s254 s255 s256 s257 s258 s259 s260 s261 s262 s263 s264 s265 s266 s267 s268 s269 s270 s271 s272 s273 s274 s275 s276 s277 s278 s279 s280 s281 s282 s283 s284 s285 s286 s287 s288 s289 s290 s291 s292 s293 s294 s295 s296 s297 s298 s299 s300 s301 s302 s303 s304 s305 s306 s307 s308 s309 s310 s311 s312 s313 s314 s315 s316 s317 s318 s319 s320 s321 s322 s323 s324 s325 s326 s327 s328 s329 s330 s331 s332 s333 s334 s335 s336 s337 s338 s339 s340 s341 s342 s343 s344 s345 s346 s347 s348 s349 s350 s351 s352 s353 s354 s355 s356 s357 s358 s359 s360 s361 s362 s363 s364 s365 s366 s367 s368 s369 s370 s371 s372 s373 s374 s375 s376 s377 s378 s379 s380 s381 s382 s383 s384 s385 s386 s387 s388 s389 s390 s391 s392 s393 s394 s395 s396 s397 s398 s399 s400 s401 s402 s403 s404 s405 s406 s407 : Value) : Code.wp Ybaf.prog (tailAt 73) (bodyPost Ybaf.prog Ybaf.f3 fun e w' => e = .returned (.bool true) ∧ w.grownBy w' none) ⟨[s0, s1, s2, s3, s4, s5, s6, s7, s8, s9, s10, s11, s12, s13, s14, s15, s16, .pointer (some ⟨b17, 0, none⟩), .int .i64 h, vi0, s20, s21, s22, s23, s24, vt0, s26, s27, s28, vr0, s30, s31, .pointer (some ⟨p, 0, none⟩), .pointer (some ⟨b33, 0, none⟩), .pointer (some ⟨b34, 0, none⟩), .pointer (some ⟨b35, 0, none⟩), s36, .bool g1, .bool g2, .bool ok, .pointer (some ⟨b40, 0, none⟩), s41, s42, s43, s44, s45, s46, s47, s48, s49, s50, s51, s52, s53, s54, s55, s56, s57, s58, s59, s60, s61, s62, s63, s64, s65, s66, s67, s68, s69, s70, s71, s72, s73, s74, s75, s76, s77, s78, s79, s80, s81, s82, s83, s84, s85, s86, s87, s88, s89, s90, s91, s92, s93, s94, s95, s96, s97, s98, s99, s100, s101, s102, s103, s104, s105, s106, s107, s108, s109, s110, s111, s112, s113, s114, s115, s116, s117, s118, s119, s120, s121, s122, s123, s124, s125, s126, s127, s128, s129, s130, s131, s132, s133, s134, s135, s136, s137, s138, s139, s140, s141, s142, s143, s144, s145, s146, s147, s148, s149, s150, s151, s152, s153, s154, s155, s156, s157, s158, s159, s160, s161, s162, s163, s164, s165, s166, s167, s168, s169, s170, s171, s172, s173, s174, s175, s176, s177, s178, s179, s180, s181, s182, s183, s184, s185, s186, s187, s188, s189, s190, s191, s192, s193, s194, s195, s196, s197, s198, s199, s200, s201, s202, s203, s204, s205, s206, s207, s208, s209, s210, s211, s212, s213, s214, s215, s216, s217, s218, s219, s220, s221, s222, s223, s224, s225, s226, s227, s228, s229, s230, s231, s232, s233, s234, s235, s236, s237, s238, s239, s240, s241, s242, s243, s244, s245, s246, s247, s248, s249, s250, s251, s252, s253, s254, s255, s256, s257, s258, s259, s260, s261, s262, s263, s264, s265, s266, s267, s268, s269, s270, s271, s272, s273, s274, s275, s276, s277, s278, s279, s280, s281, s282, s283, s284, s285, s286, s287, s288, s289, s290, s291, s292, s293, s294, s295, s296, s297, s298, s299, s300, s301, s302, s303, s304, s305, s306, s307, s308, s309, s310, s311, s312, s313, s314, s315, s316, s317, s318, s319, s320, s321, s322, s323, s324, s325, s326, s327, s328, s329, s330, s331, s332, s333, s334, s335, s336, s337, s338, s339, s340, s341, s342, s343, s344, s345, s346, s347, s348, s349, s350, s351, s352, s353, s354, s355, s356, s357, s358, s359, s360, s361, s362, s363, s364, s365, s366, s367, s368, s369, s370, s371, s372, s373, s374, s375, s376, s377, s378, s379, s380, s381, s382, s383, s384, s385, s386, s387, s388, s389, s390, s391, s392, s393, s394, s395, s396, s397, s398, s399, s400, s401, s402, s403, s404, s405, s406, s407].toArray, []⟩ wz := by
  conv => arg 2; whnf
  try dsimp only
  obtain ⟨ti, hti, _, hts, _⟩ := info_parts info25
  obtain ⟨ai, ci, evi, fi⟩ := own_form m.oi
  subst evi
  have hli := gd.li
  go_upto_block 13 with fail
  rename_i K hK
  have HK : Hid _ := hK
  clear hK
  cases ok with
  | false =>
    obtain ⟨rfl, rfl⟩ : g1 = false ∧ g2 = false := by
      have h1 := eg.out
      unfold alert at h1
      rw [if_pos eok.out.symm] at h1
      simpa using h1
    clear eok ec eg
    go_wp2_with fail
    unfold Hid at HK
    refine HK _ _ ?_
    exact tail94 w wz s h b17 p b33 _ vt0 vr0 vi vt vr ids refs gd hh hh4 m false false _ _ _ _ _ _ _ _ _ _ _ _ _ _ _ _ _ _ _ _ _ _ _ _ _ _ _ _ _ _ _ _ _ _ _ _ _ _ _ _ _ _ _ _ _ _ _ _ _ _ _ _ _ _ _ _ _ _ _ _ _ _ _ _ _ _ _ _ _ _ _ _ _ _ _ _ _ _ _ _ _ _ _ _ _ _ _ _ _ _ _ _ _ _ _ _ _ _ _ _ _ _ _ _ _ _ _ _ _ _ _ _ _ _ _ _ _ _ _ _ _ _ _ _ _ _ _ _ _ _ _ _ _ _ _ _ _ _ _ _ _ _ _ _ _ _ _ _ _ _ _ _ _ _ _ _ _ _ _ _ _ _ _ _ _ _ _ _ _ _ _ _ _ _ _ _ _ _ _ _ _ _ _ _ _ _ _ _ _ _ _ _ _ _ _ _ _ _ _ _ _ _ _ _ _ _ _ _ _ _ _ _ _ _ _ _ _ _ _ _ _ _ _ _ _ _ _ _ _ _ _ _ _ _ _ _ _ _ _ _ _ _ _ _ _ _ _ _ _ _ _ _ _ _ _ _ _ _ _ _ _ _ _ _ _ _ _ _ _ _ _ _ _ _ _ _ _ _ _ _ _ _ _ _ _ _ _ _ _ _ _ _ _ _ _ _ _ _ _ _ _ _ _ _ _ _ _ _ _ _ _ _ _ _ _ _ _ _ _ _ _ _ _ _ _ _ _ _ _ _ _ _ _ _ _ _ _ _ _ _ _ _ _ _ _ _ _ _ _ _ _ _ _ _ _ _ _ _ _ _ _ _ _ _ _ _ _ _ _ _ _ _ _ _ _ _ _ _ _ _ _ _ _ _ _ _ _ _ _ _ _ _ _ _ _ _ _
  | true =>
    have hok : ¬ nearOk ids refs = false := by rw [← eok.out]; simp
    have hcn : c = nearC s ids refs := ec.out rfl
    by_cases hlt : (ids.length : Int) < 2 * h
    · obtain ⟨rfl, rfl⟩ : g1 = !decide (nm (cf c) = nm (cf al)) ∧ g2 = false := by
        have h1 := eg.out
        unfold alert at h1
        rw [if_neg hok, if_pos hlt, ← hcn] at h1
        simp only [Prod.mk.injEq] at h1
        exact ⟨by rw [h1.1, decide_eq_decide.2 (nm_cf hc hal)], h1.2⟩
      clear eok ec eg hok hcn
      go_wp2_with (first
        | (refine wpList_is (.binOp .mul 3 (.const (.int .i64 2)) (.tmp 344) 3) rfl ?_; refine wpList_exec rfl _ (exec_mul3 (.const (.int .i64 2)) (.tmp 344) rfl 2 h (by omega) (by omega) rfl rfl) ?_)
        | (refine wpList_is (.binOp .lss 3 (.tmp 343) (.tmp 345) 3) rfl ?_; refine wpList_exec rfl (.bool true) ((exec_lss3 (w := wz) (.tmp 343) (.tmp 345) rfl (ids.length : Int) (2 * h) rfl rfl).trans (by simp [hlt])) ?_)
        | (refine wpList_is (.load 25 (.tmp 40)) rfl ?_; refine wpList_load_blk rfl 25 (.tmp 40) rfl b40 rfl (ic c) 25 x40 _ Ybaf.underlying25 rfl (size25 _) ?_)
        | (refine wpList_is (.load 25 (.tmp 35)) rfl ?_; refine wpList_load_blk rfl 25 (.tmp 35) rfl b35 rfl (ic al) 25 x35 _ Ybaf.underlying25 rfl (size25 _) ?_)
        | (refine wpList_is (.binOp .neq 25 (.tmp 347) (.tmp 348) 25) rfl ?_; refine wpList_exec rfl _ (exec_neq25 (.tmp 347) (.tmp 348) rfl (byt_cf hc) (byt_cf hal) rfl rfl) ?_))
      unfold Hid at HK
      refine HK _ _ ?_
      exact tail94 w wz s h b17 p b33 _ vt0 vr0 vi vt vr ids refs gd hh hh4 m (!decide (nm (cf c) = nm (cf al))) false _ _ _ _ _ _ _ _ _ _ _ _ _ _ _ _ _ _ _ _ _ _ _ _ _ _ _ _ _ _ _ _ _ _ _ _ _ _ _ _ _ _ _ _ _ _ _ _ _ _ _ _ _ _ _ _ _ _ _ _ _ _ _ _ _ _ _ _ _ _ _ _ _ _ _ _ _ _ _ _ _ _ _ _ _ _ _ _ _ _ _ _ _ _ _ _ _ _ _ _ _ _ _ _ _ _ _ _ _ _ _ _ _ _ _ _ _ _ _ _ _ _ _ _ _ _ _ _ _ _ _ _ _ _ _ _ _ _ _ _ _ _ _ _ _ _ _ _ _ _ _ _ _ _ _ _ _ _ _ _ _ _ _ _ _ _ _ _ _ _ _ _ _ _ _ _ _ _ _ _ _ _ _ _ _ _ _ _ _ _ _ _ _ _ _ _ _ _ _ _ _ _ _ _ _ _ _ _ _ _ _ _ _ _ _ _ _ _ _ _ _ _ _ _ _ _ _ _ _ _ _ _ _ _ _ _ _ _ _ _ _ _ _ _ _ _ _ _ _ _ _ _ _ _ _ _ _ _ _ _ _ _ _ _ _ _ _ _ _ _ _ _ _ _ _ _ _ _ _ _ _ _ _ _ _ _ _ _ _ _ _ _ _ _ _ _ _ _ _ _ _ _ _ _ _ _ _ _ _ _ _ _ _ _ _ _ _ _ _ _ _ _ _ _ _ _ _ _ _ _ _ _ _ _ _ _ _ _ _ _ _ _ _ _ _ _ _ _ _ _ _ _ _ _ _ _ _ _ _ _ _ _ _ _ _ _ _ _ _ _ _ _ _ _ _ _ _ _ _ _ _ _ _ _ _ _ _ _ _ _ _ _ _ _ _ _ _
    · by_cases hxs : x = s
      · obtain ⟨rfl, rfl⟩ : g1 = true ∧ g2 = true := by
          have h1 := eg.out
          unfold alert at h1
          rw [if_neg hok, if_neg hlt, if_pos hxs] at h1
          simpa using h1
        have hde : decide (nm (cf x) = nm (cf s)) = true := by simp [hxs]
        clear eok ec eg hok hcn hxs
        go_wp2_with (first
          | (refine wpList_is (.binOp .mul 3 (.const (.int .i64 2)) (.tmp 344) 3) rfl ?_; refine wpList_exec rfl _ (exec_mul3 (.const (.int .i64 2)) (.tmp 344) rfl 2 h (by omega) (by omega) rfl rfl) ?_)
          | (refine wpList_is (.binOp .lss 3 (.tmp 343) (.tmp 345) 3) rfl ?_; refine wpList_exec rfl (.bool false) ((exec_lss3 (w := wz) (.tmp 343) (.tmp 345) rfl (ids.length : Int) (2 * h) rfl rfl).trans (by simp [hlt])) ?_)
          | (refine wpList_is (.load 25 (.tmp 34)) rfl ?_; refine wpList_load_blk rfl 25 (.tmp 34) rfl b34 rfl (ic x) 25 x34 _ Ybaf.underlying25 rfl (size25 _) ?_)
          | (refine wpList_is (.load 25 (.tmp 17)) rfl ?_; refine wpList_load_blk rfl 25 (.tmp 17) rfl b17 rfl (ic s) 25 m.x17 _ Ybaf.underlying25 rfl (size25 _) ?_)
          | (refine wpList_is (.binOp .eql 25 (.tmp 351) (.tmp 352) 25) rfl ?_; refine wpList_exec rfl (.bool true) (hde ▸ exec_eql25 (.tmp 351) (.tmp 352) rfl (p := cf x) (q := cf s) (byt_cf hx) (byt_cf gd.sm) rfl rfl) ?_))
        unfold Hid at HK
        refine HK _ _ ?_
        exact tail94 w wz s h b17 p b33 _ vt0 vr0 vi vt vr ids refs gd hh hh4 m true true _ _ _ _ _ _ _ _ _ _ _ _ _ _ _ _ _ _ _ _ _ _ _ _ _ _ _ _ _ _ _ _ _ _ _ _ _ _ _ _ _ _ _ _ _ _ _ _ _ _ _ _ _ _ _ _ _ _ _ _ _ _ _ _ _ _ _ _ _ _ _ _ _ _ _ _ _ _ _ _ _ _ _ _ _ _ _ _ _ _ _ _ _ _ _ _ _ _ _ _ _ _ _ _ _ _ _ _ _ _ _ _ _ _ _ _ _ _ _ _ _ _ _ _ _ _ _ _ _ _ _ _ _ _ _ _ _ _ _ _ _ _ _ _ _ _ _ _ _ _ _ _ _ _ _ _ _ _ _ _ _ _ _ _ _ _ _ _ _ _ _ _ _ _ _ _ _ _ _ _ _ _ _ _ _ _ _ _ _ _ _ _ _ _ _ _ _ _ _ _ _ _ _ _ _ _ _ _ _ _ _ _ _ _ _ _ _ _ _ _ _ _ _ _ _ _ _ _ _ _ _ _ _ _ _ _ _ _ _ _ _ _ _ _ _ _ _ _ _ _ _ _ _ _ _ _ _ _ _ _ _ _ _ _ _ _ _ _ _ _ _ _ _ _ _ _ _ _ _ _ _ _ _ _ _ _ _ _ _ _ _ _ _ _ _ _ _ _ _ _ _ _ _ _ _ _ _ _ _ _ _ _ _ _ _ _ _ _ _ _ _ _ _ _ _ _ _ _ _ _ _ _ _ _ _ _ _ _ _ _ _ _ _ _ _ _ _ _ _ _ _ _ _ _ _ _ _ _ _ _ _ _ _ _ _ _ _ _ _ _ _ _ _ _ _ _ _ _ _ _ _ _ _ _ _ _ _ _ _ _ _ _ _ _ _ _ _
      · have eg2 : Aside ((g1, g2) = (onCw (rk s ids x) (ncc s ids x) h, onCc (rk s ids x) (ncc s ids x) h)) := by
          have h1 := eg.out
          unfold alert at h1
          rw [if_neg hok, if_neg hlt, if_neg hxs] at h1
          exact h1
        have hde : decide (nm (cf x) = nm (cf s)) = false := by simp [nm_cf hx gd.sm, hxs]
        clear eok ec eg hok hcn hxs
        go_wp2_with (first
          | (refine wpList_is (.binOp .mul 3 (.const (.int .i64 2)) (.tmp 344) 3) rfl ?_; refine wpList_exec rfl _ (exec_mul3 (.const (.int .i64 2)) (.tmp 344) rfl 2 h (by omega) (by omega) rfl rfl) ?_)
          | (refine wpList_is (.binOp .lss 3 (.tmp 343) (.tmp 345) 3) rfl ?_; refine wpList_exec rfl (.bool false) ((exec_lss3 (w := wz) (.tmp 343) (.tmp 345) rfl (ids.length : Int) (2 * h) rfl rfl).trans (by simp [hlt])) ?_)
          | (refine wpList_is (.load 25 (.tmp 34)) rfl ?_; refine wpList_load_blk rfl 25 (.tmp 34) rfl b34 rfl (ic x) 25 x34 _ Ybaf.underlying25 rfl (size25 _) ?_)
          | (refine wpList_is (.load 25 (.tmp 17)) rfl ?_; refine wpList_load_blk rfl 25 (.tmp 17) rfl b17 rfl (ic s) 25 m.x17 _ Ybaf.underlying25 rfl (size25 _) ?_)
          | (refine wpList_is (.binOp .eql 25 (.tmp 351) (.tmp 352) 25) rfl ?_; refine wpList_exec rfl (.bool false) (hde ▸ exec_eql25 (.tmp 351) (.tmp 352) rfl (p := cf x) (q := cf s) (byt_cf hx) (byt_cf gd.sm) rfl rfl) ?_))
        clear hlt hde
        go_loopg [48, 49, 299] ids.length (fun g v48 v49 v299 wr => ∃ i k : Nat, i + g = ids.length ∧ v299 = .int .i64 i ∧ v48 = .int .i64 k ∧ v49 = .bool (decide (x ∈ ids.take i)) ∧ Aside (k = rk s (ids.take i) x) ∧ wz.grownBy wr none)
        case atStart => exact ⟨0, 0, by omega, rfl, rfl, by simp, rfl, World.grownBy.refl _ none⟩
        case round =>
          obtain ⟨i, k, hi, rfl, rfl, rfl, B, gr⟩ := hrel
          by_cases hin : i < ids.length
          · obtain ⟨y, hy⟩ : ∃ y, ids[i]? = some y := ⟨_, List.getElem?_eq_getElem hin⟩
            have hsy := (gd.mi y (List.mem_of_getElem? hy)).1
            have hin' : (i : Int) < (ids.length : Int) := by omega
            obtain ⟨gi, rfl⟩ := fi (by omega)
            have ry : wr.rangeAt gi (i * 20) (ic y) := own_ti (m.kept gr).oi hy
            have etk : ids.take (i + 1) = ids.take i ++ [y] := by rw [List.take_add_one, hy]; rfl
            have hkb : k ≤ 4096 := by have h1 := rk_le s (ids.take i) x; rw [B.out]; have h2 : (ids.take i).length ≤ 4096 := by { rw [List.length_take]; omega }; omega
            have hmem : decide (x ∈ ids.take (i + 1)) = (decide (x ∈ ids.take i) || decide (x = y)) := by rw [etk]; simp
            have hrk : rk s (ids.take (i + 1)) x = rk s (ids.take i) x + (if D s y < D s x then 1 else 0) := by
              rw [etk]
              unfold rk
              rw [List.countP_append]
              simp [List.countP_cons, List.countP_nil]
            clear etk
            by_cases hlt : D s y < D s x
            · have heq : ¬ y = x := by rintro rfl; exact absurd hlt (by omega)
              have B2 : Aside (k + 1 = rk s (ids.take (i + 1)) x) := by unfold Aside; rw [hrk, if_pos hlt, B.out]
              have hm2 : decide (x ∈ ids.take i) = decide (x ∈ ids.take (i + 1)) := by rw [hmem]; simp [Ne.symm heq]
              rw [hm2]
              clear B hrk hmem hm2
              have hde : decide (nm (cf y) = nm (cf x)) = false := by simp [nm_cf hsy hx, heq]
              clear heq
              go_wp2_with (first
                | (refine wpList_isD 301 (.indexAddr 27 (.tmp 297) (.tmp 299)) rfl rfl ?_; refine wpList_valG (by kernel_rfl) (.pointer (some ⟨gi, i * 20, none⟩)) (exec_index (.tmp 297) (.tmp 299) rfl Ybaf.underlying27 hti hts gi ids.length ci i hin (by kernel_rfl) (by kernel_rfl)) ?_; simp only [Act.put, List.setIfInBounds_toArray, List.set_cons_zero, List.set_cons_succ])
                | (refine wpList_isD 302 (.load 25 (.tmp 301)) rfl rfl ?_; refine wpList_valG (by kernel_rfl) (.agg (ic y).toArray) (exec_load_row 25 (.tmp 301) rfl gi (i * 20) (by kernel_rfl) (ic y) _ ry Ybaf.underlying25 rfl (size25 _)) ?_; simp only [Act.put, List.setIfInBounds_toArray, List.set_cons_zero, List.set_cons_succ])
                | (refine wpList_is (.alloc 25) rfl ?_; refine wpList_alloc25 rfl rfl ?_; simp only [Act.put, List.setIfInBounds_toArray, List.set_cons_zero, List.set_cons_succ])
                | (refine wpList_is (.store 25 (.tmp 51) (.tmp 302)) rfl ?_; refine wpList_store_blk rfl 25 (.tmp 51) (.tmp 302) rfl wr.heap.size (ic y) (by kernel_rfl) (by kernel_rfl) _ _ (heap_alloc_new wr _) rfl (size25 _) (ic_one _) ?_; intro u1 y1 q1; have k1 : wr.grownBy u1 none := grown_new q1; clear q1; simp only [Act.put, List.setIfInBounds_toArray, List.set_cons_zero, List.set_cons_succ])
                | (refine wpList_isD 303 (.load 25 (.tmp 51)) rfl rfl ?_; refine wpList_valG (by kernel_rfl) (.agg (ic y).toArray) (exec_load_row 25 (.tmp 51) rfl wr.heap.size 0 (by kernel_rfl) (ic y) _ (range_of_blk y1) Ybaf.underlying25 rfl (size25 _)) ?_; simp only [Act.put, List.setIfInBounds_toArray, List.set_cons_zero, List.set_cons_succ])
                | (refine wpList_isD 304 (.load 25 (.tmp 34)) rfl rfl ?_; refine wpList_valG (by kernel_rfl) (.agg (ic x).toArray) (exec_load_row 25 (.tmp 34) rfl b34 0 (by kernel_rfl) (ic x) _ (range_of_blk (keep_blk (grown_trans gr k1) x34 (by simp))) Ybaf.underlying25 rfl (size25 _)) ?_; simp only [Act.put, List.setIfInBounds_toArray, List.set_cons_zero, List.set_cons_succ])
                | (refine wpList_isD 305 (.load 25 (.tmp 17)) rfl rfl ?_; refine wpList_valG (by kernel_rfl) (.agg (ic s).toArray) (exec_load_row 25 (.tmp 17) rfl b17 0 (by kernel_rfl) (ic s) _ (range_of_blk (m.kept (grown_trans gr k1)).x17) Ybaf.underlying25 rfl (size25 _)) ?_; simp only [Act.put, List.setIfInBounds_toArray, List.set_cons_zero, List.set_cons_succ])
                | (refine wpList_is (.call { callee := .value (.func 6), args := #[.tmp 303, .tmp 304, .tmp 305], argTypes := #[25, 25, 25] }) rfl ?_; refine wpList_callG (by kernel_rfl) 6 #[.agg (ic y).toArray, .agg (ic x).toArray, .agg (ic s).toArray] (by kernel_rfl) ?_))
              refine (less_any (byt_cf hsy) (byt_cf hx) (byt_cf gd.sm) _).mono ?_
              rintro e u2 ⟨rfl, q2⟩
              refine ⟨_, rfl, ?_⟩
              try simp only [Act.put, List.setIfInBounds_toArray, List.set_cons_zero, List.set_cons_succ]
              have g2' : wz.grownBy u2 none := grown_trans gr (grown_trans k1 q2)
              have y2 := keep_blk q2 y1 (by simp)
              have hld : decide (ds (cf s) (cf y) < ds (cf s) (cf x)) = true := decide_eq_true hlt
              rw [hld]
              clear hld q2 k1 y1 ry
              go_wp2_with (first
                | (refine wpList_isD 309 (.load 25 (.tmp 51)) rfl rfl ?_; refine wpList_valG (by kernel_rfl) (.agg (ic y).toArray) (exec_load_row 25 (.tmp 51) rfl wr.heap.size 0 (by kernel_rfl) (ic y) _ (range_of_blk y2) Ybaf.underlying25 rfl (size25 _)) ?_; simp only [Act.put, List.setIfInBounds_toArray, List.set_cons_zero, List.set_cons_succ])
                | (refine wpList_isD 310 (.load 25 (.tmp 34)) rfl rfl ?_; refine wpList_valG (by kernel_rfl) (.agg (ic x).toArray) (exec_load_row 25 (.tmp 34) rfl b34 0 (by kernel_rfl) (ic x) _ (range_of_blk (keep_blk g2' x34 (by simp))) Ybaf.underlying25 rfl (size25 _)) ?_; simp only [Act.put, List.setIfInBounds_toArray, List.set_cons_zero, List.set_cons_succ])
                | (refine wpList_is (.binOp .eql 25 (.tmp 309) (.tmp 310) 25) rfl ?_; refine wpList_valG (by kernel_rfl) (.bool false) (hde ▸ exec_eql25 (.tmp 309) (.tmp 310) rfl (p := cf y) (q := cf x) (byt_cf hsy) (byt_cf hx) (by kernel_rfl) (by kernel_rfl)) ?_; simp only [Act.put, List.setIfInBounds_toArray, List.set_cons_zero, List.set_cons_succ]))
              go_roundg (ids.length - (i + 1))
              case measure => omega
              case rel => exact ⟨i + 1, k + 1, by omega, by go_num, by go_num, rfl, B2.out, g2'⟩
            · by_cases heq : y = x
              · have B2 : Aside (k = rk s (ids.take (i + 1)) x) := by unfold Aside; rw [hrk, if_neg hlt, B.out]; rfl
                have hm2 : decide (x ∈ ids.take (i + 1)) = true := by rw [hmem]; simp [heq]
                clear B hrk hmem
                have hde : decide (nm (cf y) = nm (cf x)) = true := by simp [nm_cf hsy hx, heq]
                clear heq
                go_wp2_with (first
                  | (refine wpList_isD 301 (.indexAddr 27 (.tmp 297) (.tmp 299)) rfl rfl ?_; refine wpList_valG (by kernel_rfl) (.pointer (some ⟨gi, i * 20, none⟩)) (exec_index (.tmp 297) (.tmp 299) rfl Ybaf.underlying27 hti hts gi ids.length ci i hin (by kernel_rfl) (by kernel_rfl)) ?_; simp only [Act.put, List.setIfInBounds_toArray, List.set_cons_zero, List.set_cons_succ])
                  | (refine wpList_isD 302 (.load 25 (.tmp 301)) rfl rfl ?_; refine wpList_valG (by kernel_rfl) (.agg (ic y).toArray) (exec_load_row 25 (.tmp 301) rfl gi (i * 20) (by kernel_rfl) (ic y) _ ry Ybaf.underlying25 rfl (size25 _)) ?_; simp only [Act.put, List.setIfInBounds_toArray, List.set_cons_zero, List.set_cons_succ])
                  | (refine wpList_is (.alloc 25) rfl ?_; refine wpList_alloc25 rfl rfl ?_; simp only [Act.put, List.setIfInBounds_toArray, List.set_cons_zero, List.set_cons_succ])
                  | (refine wpList_is (.store 25 (.tmp 51) (.tmp 302)) rfl ?_; refine wpList_store_blk rfl 25 (.tmp 51) (.tmp 302) rfl wr.heap.size (ic y) (by kernel_rfl) (by kernel_rfl) _ _ (heap_alloc_new wr _) rfl (size25 _) (ic_one _) ?_; intro u1 y1 q1; have k1 : wr.grownBy u1 none := grown_new q1; clear q1; simp only [Act.put, List.setIfInBounds_toArray, List.set_cons_zero, List.set_cons_succ])
                  | (refine wpList_isD 303 (.load 25 (.tmp 51)) rfl rfl ?_; refine wpList_valG (by kernel_rfl) (.agg (ic y).toArray) (exec_load_row 25 (.tmp 51) rfl wr.heap.size 0 (by kernel_rfl) (ic y) _ (range_of_blk y1) Ybaf.underlying25 rfl (size25 _)) ?_; simp only [Act.put, List.setIfInBounds_toArray, List.set_cons_zero, List.set_cons_succ])
                  | (refine wpList_isD 304 (.load 25 (.tmp 34)) rfl rfl ?_; refine wpList_valG (by kernel_rfl) (.agg (ic x).toArray) (exec_load_row 25 (.tmp 34) rfl b34 0 (by kernel_rfl) (ic x) _ (range_of_blk (keep_blk (grown_trans gr k1) x34 (by simp))) Ybaf.underlying25 rfl (size25 _)) ?_; simp only [Act.put, List.setIfInBounds_toArray, List.set_cons_zero, List.set_cons_succ])
                  | (refine wpList_isD 305 (.load 25 (.tmp 17)) rfl rfl ?_; refine wpList_valG (by kernel_rfl) (.agg (ic s).toArray) (exec_load_row 25 (.tmp 17) rfl b17 0 (by kernel_rfl) (ic s) _ (range_of_blk (m.kept (grown_trans gr k1)).x17) Ybaf.underlying25 rfl (size25 _)) ?_; simp only [Act.put, List.setIfInBounds_toArray, List.set_cons_zero, List.set_cons_succ])
                  | (refine wpList_is (.call { callee := .value (.func 6), args := #[.tmp 303, .tmp 304, .tmp 305], argTypes := #[25, 25, 25] }) rfl ?_; refine wpList_callG (by kernel_rfl) 6 #[.agg (ic y).toArray, .agg (ic x).toArray, .agg (ic s).toArray] (by kernel_rfl) ?_))
                refine (less_any (byt_cf hsy) (byt_cf hx) (byt_cf gd.sm) _).mono ?_
                rintro e u2 ⟨rfl, q2⟩
                refine ⟨_, rfl, ?_⟩
                try simp only [Act.put, List.setIfInBounds_toArray, List.set_cons_zero, List.set_cons_succ]
                have g2' : wz.grownBy u2 none := grown_trans gr (grown_trans k1 q2)
                have y2 := keep_blk q2 y1 (by simp)
                have hld : decide (ds (cf s) (cf y) < ds (cf s) (cf x)) = false := decide_eq_false (show ¬ D s y < D s x by omega)
                rw [hld]
                clear hld q2 k1 y1 ry
                go_wp2_with (first
                  | (refine wpList_isD 309 (.load 25 (.tmp 51)) rfl rfl ?_; refine wpList_valG (by kernel_rfl) (.agg (ic y).toArray) (exec_load_row 25 (.tmp 51) rfl wr.heap.size 0 (by kernel_rfl) (ic y) _ (range_of_blk y2) Ybaf.underlying25 rfl (size25 _)) ?_; simp only [Act.put, List.setIfInBounds_toArray, List.set_cons_zero, List.set_cons_succ])
                  | (refine wpList_isD 310 (.load 25 (.tmp 34)) rfl rfl ?_; refine wpList_valG (by kernel_rfl) (.agg (ic x).toArray) (exec_load_row 25 (.tmp 34) rfl b34 0 (by kernel_rfl) (ic x) _ (range_of_blk (keep_blk g2' x34 (by simp))) Ybaf.underlying25 rfl (size25 _)) ?_; simp only [Act.put, List.setIfInBounds_toArray, List.set_cons_zero, List.set_cons_succ])
                  | (refine wpList_is (.binOp .eql 25 (.tmp 309) (.tmp 310) 25) rfl ?_; refine wpList_valG (by kernel_rfl) (.bool true) (hde ▸ exec_eql25 (.tmp 309) (.tmp 310) rfl (p := cf y) (q := cf x) (byt_cf hsy) (byt_cf hx) (by kernel_rfl) (by kernel_rfl)) ?_; simp only [Act.put, List.setIfInBounds_toArray, List.set_cons_zero, List.set_cons_succ]))
                go_roundg (ids.length - (i + 1))
                case measure => omega
                case rel => exact ⟨i + 1, k, by omega, by go_num, rfl, by rw [hm2], B2.out, g2'⟩
              · have B2 : Aside (k = rk s (ids.take (i + 1)) x) := by unfold Aside; rw [hrk, if_neg hlt, B.out]; rfl
                have hm2 : decide (x ∈ ids.take i) = decide (x ∈ ids.take (i + 1)) := by rw [hmem]; simp [Ne.symm heq]
                rw [hm2]
                clear B hrk hmem hm2
                have hde : decide (nm (cf y) = nm (cf x)) = false := by simp [nm_cf hsy hx, heq]
                clear heq
                go_wp2_with (first
                  | (refine wpList_isD 301 (.indexAddr 27 (.tmp 297) (.tmp 299)) rfl rfl ?_; refine wpList_valG (by kernel_rfl) (.pointer (some ⟨gi, i * 20, none⟩)) (exec_index (.tmp 297) (.tmp 299) rfl Ybaf.underlying27 hti hts gi ids.length ci i hin (by kernel_rfl) (by kernel_rfl)) ?_; simp only [Act.put, List.setIfInBounds_toArray, List.set_cons_zero, List.set_cons_succ])
                  | (refine wpList_isD 302 (.load 25 (.tmp 301)) rfl rfl ?_; refine wpList_valG (by kernel_rfl) (.agg (ic y).toArray) (exec_load_row 25 (.tmp 301) rfl gi (i * 20) (by kernel_rfl) (ic y) _ ry Ybaf.underlying25 rfl (size25 _)) ?_; simp only [Act.put, List.setIfInBounds_toArray, List.set_cons_zero, List.set_cons_succ])
                  | (refine wpList_is (.alloc 25) rfl ?_; refine wpList_alloc25 rfl rfl ?_; simp only [Act.put, List.setIfInBounds_toArray, List.set_cons_zero, List.set_cons_succ])
                  | (refine wpList_is (.store 25 (.tmp 51) (.tmp 302)) rfl ?_; refine wpList_store_blk rfl 25 (.tmp 51) (.tmp 302) rfl wr.heap.size (ic y) (by kernel_rfl) (by kernel_rfl) _ _ (heap_alloc_new wr _) rfl (size25 _) (ic_one _) ?_; intro u1 y1 q1; have k1 : wr.grownBy u1 none := grown_new q1; clear q1; simp only [Act.put, List.setIfInBounds_toArray, List.set_cons_zero, List.set_cons_succ])
                  | (refine wpList_isD 303 (.load 25 (.tmp 51)) rfl rfl ?_; refine wpList_valG (by kernel_rfl) (.agg (ic y).toArray) (exec_load_row 25 (.tmp 51) rfl wr.heap.size 0 (by kernel_rfl) (ic y) _ (range_of_blk y1) Ybaf.underlying25 rfl (size25 _)) ?_; simp only [Act.put, List.setIfInBounds_toArray, List.set_cons_zero, List.set_cons_succ])
                  | (refine wpList_isD 304 (.load 25 (.tmp 34)) rfl rfl ?_; refine wpList_valG (by kernel_rfl) (.agg (ic x).toArray) (exec_load_row 25 (.tmp 34) rfl b34 0 (by kernel_rfl) (ic x) _ (range_of_blk (keep_blk (grown_trans gr k1) x34 (by simp))) Ybaf.underlying25 rfl (size25 _)) ?_; simp only [Act.put, List.setIfInBounds_toArray, List.set_cons_zero, List.set_cons_succ])
                  | (refine wpList_isD 305 (.load 25 (.tmp 17)) rfl rfl ?_; refine wpList_valG (by kernel_rfl) (.agg (ic s).toArray) (exec_load_row 25 (.tmp 17) rfl b17 0 (by kernel_rfl) (ic s) _ (range_of_blk (m.kept (grown_trans gr k1)).x17) Ybaf.underlying25 rfl (size25 _)) ?_; simp only [Act.put, List.setIfInBounds_toArray, List.set_cons_zero, List.set_cons_succ])
                  | (refine wpList_is (.call { callee := .value (.func 6), args := #[.tmp 303, .tmp 304, .tmp 305], argTypes := #[25, 25, 25] }) rfl ?_; refine wpList_callG (by kernel_rfl) 6 #[.agg (ic y).toArray, .agg (ic x).toArray, .agg (ic s).toArray] (by kernel_rfl) ?_))
                refine (less_any (byt_cf hsy) (byt_cf hx) (byt_cf gd.sm) _).mono ?_
                rintro e u2 ⟨rfl, q2⟩
                refine ⟨_, rfl, ?_⟩
                try simp only [Act.put, List.setIfInBounds_toArray, List.set_cons_zero, List.set_cons_succ]
                have g2' : wz.grownBy u2 none := grown_trans gr (grown_trans k1 q2)
                have y2 := keep_blk q2 y1 (by simp)
                have hld : decide (ds (cf s) (cf y) < ds (cf s) (cf x)) = false := decide_eq_false (show ¬ D s y < D s x by omega)
                rw [hld]
                clear hld q2 k1 y1 ry
                go_wp2_with (first
                  | (refine wpList_isD 309 (.load 25 (.tmp 51)) rfl rfl ?_; refine wpList_valG (by kernel_rfl) (.agg (ic y).toArray) (exec_load_row 25 (.tmp 51) rfl wr.heap.size 0 (by kernel_rfl) (ic y) _ (range_of_blk y2) Ybaf.underlying25 rfl (size25 _)) ?_; simp only [Act.put, List.setIfInBounds_toArray, List.set_cons_zero, List.set_cons_succ])
                  | (refine wpList_isD 310 (.load 25 (.tmp 34)) rfl rfl ?_; refine wpList_valG (by kernel_rfl) (.agg (ic x).toArray) (exec_load_row 25 (.tmp 34) rfl b34 0 (by kernel_rfl) (ic x) _ (range_of_blk (keep_blk g2' x34 (by simp))) Ybaf.underlying25 rfl (size25 _)) ?_; simp only [Act.put, List.setIfInBounds_toArray, List.set_cons_zero, List.set_cons_succ])
                  | (refine wpList_is (.binOp .eql 25 (.tmp 309) (.tmp 310) 25) rfl ?_; refine wpList_valG (by kernel_rfl) (.bool false) (hde ▸ exec_eql25 (.tmp 309) (.tmp 310) rfl (p := cf y) (q := cf x) (byt_cf hsy) (byt_cf hx) (by kernel_rfl) (by kernel_rfl)) ?_; simp only [Act.put, List.setIfInBounds_toArray, List.set_cons_zero, List.set_cons_succ]))
                go_roundg (ids.length - (i + 1))
                case measure => omega
                case rel => exact ⟨i + 1, k, by omega, by go_num, rfl, rfl, B2.out, g2'⟩
          · have ei : i = ids.length := by omega
            subst ei
            have hin' : ¬ (ids.length : Int) < (ids.length : Int) := by omega
            rw [List.take_length] at B ⊢
            have hrl := rk_le s ids x
            have hnc : ncc s ids x = (ids.length : Int) - (rk s ids x : Int) - (if x ∈ ids then 1 else 0) := rfl
            rw [← B.out] at eg2 hrl hnc
            obtain ⟨r, er⟩ : ∃ r, r = k := ⟨_, rfl⟩
            subst er
            obtain ⟨n, en⟩ : ∃ n, n = ncc s ids x := ⟨_, rfl⟩
            rw [← en] at eg2 hnc
            clear en B
            by_cases hm : x ∈ ids
            · have hd : decide (x ∈ ids) = true := by simp [hm]
              rw [if_pos hm] at hnc
              have hnb : (ids.length : Int) - (r : Int) - 1 = n := hnc.symm
              have b1 : -9223372036854775808 ≤ (ids.length : Int) - (r : Int) := by omega
              have b2 : (ids.length : Int) - (r : Int) < 9223372036854775808 := by omega
              have b3 : -9223372036854775808 ≤ (ids.length : Int) - (r : Int) - 1 := by omega
              have b4 : (ids.length : Int) - (r : Int) - 1 < 9223372036854775808 := by omega
              have HN : Aside ((ids.length : Int) - (r : Int) - 1 = n) := hnb
              rw [hd]
              clear hd hm hnc hnb
              go_upto_region 87 with (first
                | (refine wpList_is (.binOp .sub 3 (.tmp 314) (.tmp 315) 3) rfl ?_; refine wpList_exec rfl _ (exec_sub3 (.tmp 314) (.tmp 315) rfl (ids.length : Int) (r : Int) b1 b2 rfl rfl) ?_)
                | (refine wpList_is (.binOp .sub 3 (.tmp 318) (.const (.int .i64 1)) 3) rfl ?_; refine wpList_exec rfl (.int .i64 n) (HN.out ▸ exec_sub3 (.tmp 318) (.const (.int .i64 1)) rfl ((ids.length : Int) - (r : Int)) 1 b3 b4 rfl rfl) ?_))
              clear b1 b2 b3 b4 HN
              by_cases hA : (r : Int) < h
              · by_cases hB : n < h
                · obtain ⟨rfl, rfl⟩ : g1 = true ∧ g2 = true := by
                    have := eg2.out
                    simp only [Prod.mk.injEq] at this
                    rw [this.1, this.2]
                    simp [onCw, onCc, hA, hB]
                  go_wp2_with (first
                    | (refine wpList_isD 320 (.move (.tmp 48)) rfl rfl ?_; refine wpList_valG (by kernel_rfl) (.int .i64 (r : Nat)) (by kernel_rfl) ?_; simp only [Act.put, List.setIfInBounds_toArray, List.set_cons_zero, List.set_cons_succ])
                    | (refine wpList_isD 321 (.move (.tmp 18)) rfl rfl ?_; refine wpList_valG (by kernel_rfl) (.int .i64 h) (by kernel_rfl) ?_; simp only [Act.put, List.setIfInBounds_toArray, List.set_cons_zero, List.set_cons_succ])
                    | (refine wpList_isD 322 (.binOp .lss 3 (.tmp 320) (.tmp 321) 3) rfl rfl ?_; refine wpList_valG (by kernel_rfl) (.bool true) ((exec_lss3 (.tmp 320) (.tmp 321) rfl (r : Int) h (by kernel_rfl) (by kernel_rfl)).trans (by simp [hA])) ?_; simp only [Act.put, List.setIfInBounds_toArray, List.set_cons_zero, List.set_cons_succ])
                    | (refine wpList_isD 323 (.move (.tmp 322)) rfl rfl ?_; refine wpList_valG (by kernel_rfl) (.bool true) (by kernel_rfl) ?_; simp only [Act.put, List.setIfInBounds_toArray, List.set_cons_zero, List.set_cons_succ])
                    | (refine wpList_isD 329 (.move (.tmp 52)) rfl rfl ?_; refine wpList_valG (by kernel_rfl) (.int .i64 n) (by kernel_rfl) ?_; simp only [Act.put, List.setIfInBounds_toArray, List.set_cons_zero, List.set_cons_succ])
                    | (refine wpList_isD 330 (.move (.tmp 18)) rfl rfl ?_; refine wpList_valG (by kernel_rfl) (.int .i64 h) (by kernel_rfl) ?_; simp only [Act.put, List.setIfInBounds_toArray, List.set_cons_zero, List.set_cons_succ])
                    | (refine wpList_isD 331 (.binOp .lss 3 (.tmp 329) (.tmp 330) 3) rfl rfl ?_; refine wpList_valG (by kernel_rfl) (.bool true) ((exec_lss3 (.tmp 329) (.tmp 330) rfl n h (by kernel_rfl) (by kernel_rfl)).trans (by simp [hB])) ?_; simp only [Act.put, List.setIfInBounds_toArray, List.set_cons_zero, List.set_cons_succ])
                    | (refine wpList_isD 332 (.move (.tmp 331)) rfl rfl ?_; refine wpList_valG (by kernel_rfl) (.bool true) (by kernel_rfl) ?_; simp only [Act.put, List.setIfInBounds_toArray, List.set_cons_zero, List.set_cons_succ])
                    | (refine wpList_isD 324 (.move (.tmp 52)) rfl rfl ?_; refine wpList_skipG (by kernel_rfl) ?_; simp only [Act.put, List.setIfInBounds_toArray, List.set_cons_zero, List.set_cons_succ])
                    | (refine wpList_isD 325 (.move (.tmp 18)) rfl rfl ?_; refine wpList_skipG (by kernel_rfl) ?_; simp only [Act.put, List.setIfInBounds_toArray, List.set_cons_zero, List.set_cons_succ])
                    | (refine wpList_isD 326 (.binOp .sub 3 (.tmp 325) (.const (.int .i64 1)) 3) rfl rfl ?_; refine wpList_skipG (by kernel_rfl) ?_; simp only [Act.put, List.setIfInBounds_toArray, List.set_cons_zero, List.set_cons_succ])
                    | (refine wpList_isD 327 (.binOp .lss 3 (.tmp 324) (.tmp 326) 3) rfl rfl ?_; refine wpList_skipG (by kernel_rfl) ?_; simp only [Act.put, List.setIfInBounds_toArray, List.set_cons_zero, List.set_cons_succ])
                    | (refine wpList_isD 333 (.move (.tmp 48)) rfl rfl ?_; refine wpList_skipG (by kernel_rfl) ?_; simp only [Act.put, List.setIfInBounds_toArray, List.set_cons_zero, List.set_cons_succ])
                    | (refine wpList_isD 334 (.move (.tmp 18)) rfl rfl ?_; refine wpList_skipG (by kernel_rfl) ?_; simp only [Act.put, List.setIfInBounds_toArray, List.set_cons_zero, List.set_cons_succ])
                    | (refine wpList_isD 335 (.binOp .sub 3 (.tmp 334) (.const (.int .i64 1)) 3) rfl rfl ?_; refine wpList_skipG (by kernel_rfl) ?_; simp only [Act.put, List.setIfInBounds_toArray, List.set_cons_zero, List.set_cons_succ])
                    | (refine wpList_isD 336 (.binOp .lss 3 (.tmp 333) (.tmp 335) 3) rfl rfl ?_; refine wpList_skipG (by kernel_rfl) ?_; simp only [Act.put, List.setIfInBounds_toArray, List.set_cons_zero, List.set_cons_succ])
                    | (refine wpList_isD 328 (.pick (.tmp 323) (.const (.bool true)) (.tmp 327)) rfl rfl ?_; refine wpList_valG (by kernel_rfl) (.bool true) (by kernel_rfl) ?_; simp only [Act.put, List.setIfInBounds_toArray, List.set_cons_zero, List.set_cons_succ])
                    | (refine wpList_isD 337 (.pick (.tmp 332) (.const (.bool true)) (.tmp 336)) rfl rfl ?_; refine wpList_valG (by kernel_rfl) (.bool true) (by kernel_rfl) ?_; simp only [Act.put, List.setIfInBounds_toArray, List.set_cons_zero, List.set_cons_succ]))
                  clear hA hB
                  unfold Hid at HK
                  refine HK _ _ ?_
                  exact tail94 w wr s h b17 p b33 _ vt0 vr0 vi vt vr ids refs gd hh hh4 (m.kept gr) true true _ _ _ _ _ _ _ _ _ _ _ _ _ _ _ _ _ _ _ _ _ _ _ _ _ _ _ _ _ _ _ _ _ _ _ _ _ _ _ _ _ _ _ _ _ _ _ _ _ _ _ _ _ _ _ _ _ _ _ _ _ _ _ _ _ _ _ _ _ _ _ _ _ _ _ _ _ _ _ _ _ _ _ _ _ _ _ _ _ _ _ _ _ _ _ _ _ _ _ _ _ _ _ _ _ _ _ _ _ _ _ _ _ _ _ _ _ _ _ _ _ _ _ _ _ _ _ _ _ _ _ _ _ _ _ _ _ _ _ _ _ _ _ _ _ _ _ _ _ _ _ _ _ _ _ _ _ _ _ _ _ _ _ _ _ _ _ _ _ _ _ _ _ _ _ _ _ _ _ _ _ _ _ _ _ _ _ _ _ _ _ _ _ _ _ _ _ _ _ _ _ _ _ _ _ _ _ _ _ _ _ _ _ _ _ _ _ _ _ _ _ _ _ _ _ _ _ _ _ _ _ _ _ _ _ _ _ _ _ _ _ _ _ _ _ _ _ _ _ _ _ _ _ _ _ _ _ _ _ _ _ _ _ _ _ _ _ _ _ _ _ _ _ _ _ _ _ _ _ _ _ _ _ _ _ _ _ _ _ _ _ _ _ _ _ _ _ _ _ _ _ _ _ _ _ _ _ _ _ _ _ _ _ _ _ _ _ _ _ _ _ _ _ _ _ _ _ _ _ _ _ _ _ _ _ _ _ _ _ _ _ _ _ _ _ _ _ _ _ _ _ _ _ _ _ _ _ _ _ _ _ _ _ _ _ _ _ _ _ _ _ _ _ _ _ _ _ _ _ _ _ _ _ _ _ _ _ _ _ _ _ _ _ _ _ _ _
                · obtain ⟨rfl, rfl⟩ : g1 = true ∧ g2 = (decide ((r : Int) < h - 1)) := by
                    have := eg2.out
                    simp only [Prod.mk.injEq] at this
                    rw [this.1, this.2]
                    simp [onCw, onCc, hA, hB]
                  go_wp2_with (first
                    | (refine wpList_isD 320 (.move (.tmp 48)) rfl rfl ?_; refine wpList_valG (by kernel_rfl) (.int .i64 (r : Nat)) (by kernel_rfl) ?_; simp only [Act.put, List.setIfInBounds_toArray, List.set_cons_zero, List.set_cons_succ])
                    | (refine wpList_isD 321 (.move (.tmp 18)) rfl rfl ?_; refine wpList_valG (by kernel_rfl) (.int .i64 h) (by kernel_rfl) ?_; simp only [Act.put, List.setIfInBounds_toArray, List.set_cons_zero, List.set_cons_succ])
                    | (refine wpList_isD 322 (.binOp .lss 3 (.tmp 320) (.tmp 321) 3) rfl rfl ?_; refine wpList_valG (by kernel_rfl) (.bool true) ((exec_lss3 (.tmp 320) (.tmp 321) rfl (r : Int) h (by kernel_rfl) (by kernel_rfl)).trans (by simp [hA])) ?_; simp only [Act.put, List.setIfInBounds_toArray, List.set_cons_zero, List.set_cons_succ])
                    | (refine wpList_isD 323 (.move (.tmp 322)) rfl rfl ?_; refine wpList_valG (by kernel_rfl) (.bool true) (by kernel_rfl) ?_; simp only [Act.put, List.setIfInBounds_toArray, List.set_cons_zero, List.set_cons_succ])
                    | (refine wpList_isD 329 (.move (.tmp 52)) rfl rfl ?_; refine wpList_valG (by kernel_rfl) (.int .i64 n) (by kernel_rfl) ?_; simp only [Act.put, List.setIfInBounds_toArray, List.set_cons_zero, List.set_cons_succ])
                    | (refine wpList_isD 330 (.move (.tmp 18)) rfl rfl ?_; refine wpList_valG (by kernel_rfl) (.int .i64 h) (by kernel_rfl) ?_; simp only [Act.put, List.setIfInBounds_toArray, List.set_cons_zero, List.set_cons_succ])
                    | (refine wpList_isD 331 (.binOp .lss 3 (.tmp 329) (.tmp 330) 3) rfl rfl ?_; refine wpList_valG (by kernel_rfl) (.bool false) ((exec_lss3 (.tmp 329) (.tmp 330) rfl n h (by kernel_rfl) (by kernel_rfl)).trans (by simp [hB])) ?_; simp only [Act.put, List.setIfInBounds_toArray, List.set_cons_zero, List.set_cons_succ])
                    | (refine wpList_isD 332 (.move (.tmp 331)) rfl rfl ?_; refine wpList_valG (by kernel_rfl) (.bool false) (by kernel_rfl) ?_; simp only [Act.put, List.setIfInBounds_toArray, List.set_cons_zero, List.set_cons_succ])
                    | (refine wpList_isD 324 (.move (.tmp 52)) rfl rfl ?_; refine wpList_skipG (by kernel_rfl) ?_; simp only [Act.put, List.setIfInBounds_toArray, List.set_cons_zero, List.set_cons_succ])
                    | (refine wpList_isD 325 (.move (.tmp 18)) rfl rfl ?_; refine wpList_skipG (by kernel_rfl) ?_; simp only [Act.put, List.setIfInBounds_toArray, List.set_cons_zero, List.set_cons_succ])
                    | (refine wpList_isD 326 (.binOp .sub 3 (.tmp 325) (.const (.int .i64 1)) 3) rfl rfl ?_; refine wpList_skipG (by kernel_rfl) ?_; simp only [Act.put, List.setIfInBounds_toArray, List.set_cons_zero, List.set_cons_succ])
                    | (refine wpList_isD 327 (.binOp .lss 3 (.tmp 324) (.tmp 326) 3) rfl rfl ?_; refine wpList_skipG (by kernel_rfl) ?_; simp only [Act.put, List.setIfInBounds_toArray, List.set_cons_zero, List.set_cons_succ])
                    | (refine wpList_isD 333 (.move (.tmp 48)) rfl rfl ?_; refine wpList_valG (by kernel_rfl) (.int .i64 (r : Nat)) (by kernel_rfl) ?_; simp only [Act.put, List.setIfInBounds_toArray, List.set_cons_zero, List.set_cons_succ])
                    | (refine wpList_isD 334 (.move (.tmp 18)) rfl rfl ?_; refine wpList_valG (by kernel_rfl) (.int .i64 h) (by kernel_rfl) ?_; simp only [Act.put, List.setIfInBounds_toArray, List.set_cons_zero, List.set_cons_succ])
                    | (refine wpList_isD 335 (.binOp .sub 3 (.tmp 334) (.const (.int .i64 1)) 3) rfl rfl ?_; refine wpList_valG (by kernel_rfl) (.int .i64 (h - 1)) (exec_sub3 (.tmp 334) (.const (.int .i64 1)) rfl h 1 (by omega) (by omega) (by kernel_rfl) (by kernel_rfl)) ?_; simp only [Act.put, List.setIfInBounds_toArray, List.set_cons_zero, List.set_cons_succ])
                    | (refine wpList_isD 336 (.binOp .lss 3 (.tmp 333) (.tmp 335) 3) rfl rfl ?_; refine wpList_valG (by kernel_rfl) (.bool (decide ((r : Int) < h - 1))) (exec_lss3 (.tmp 333) (.tmp 335) rfl (r : Int) (h - 1) (by kernel_rfl) (by kernel_rfl)) ?_; simp only [Act.put, List.setIfInBounds_toArray, List.set_cons_zero, List.set_cons_succ])
                    | (refine wpList_isD 328 (.pick (.tmp 323) (.const (.bool true)) (.tmp 327)) rfl rfl ?_; refine wpList_valG (by kernel_rfl) (.bool true) (by kernel_rfl) ?_; simp only [Act.put, List.setIfInBounds_toArray, List.set_cons_zero, List.set_cons_succ])
                    | (refine wpList_isD 337 (.pick (.tmp 332) (.const (.bool true)) (.tmp 336)) rfl rfl ?_; refine wpList_valG (by kernel_rfl) (.bool (decide ((r : Int) < h - 1))) (by kernel_rfl) ?_; simp only [Act.put, List.setIfInBounds_toArray, List.set_cons_zero, List.set_cons_succ]))
                  clear hA hB
                  unfold Hid at HK
                  refine HK _ _ ?_
                  exact tail94 w wr s h b17 p b33 _ vt0 vr0 vi vt vr ids refs gd hh hh4 (m.kept gr) true (decide ((r : Int) < h - 1)) _ _ _ _ _ _ _ _ _ _ _ _ _ _ _ _ _ _ _ _ _ _ _ _ _ _ _ _ _ _ _ _ _ _ _ _ _ _ _ _ _ _ _ _ _ _ _ _ _ _ _ _ _ _ _ _ _ _ _ _ _ _ _ _ _ _ _ _ _ _ _ _ _ _ _ _ _ _ _ _ _ _ _ _ _ _ _ _ _ _ _ _ _ _ _ _ _ _ _ _ _ _ _ _ _ _ _ _ _ _ _ _ _ _ _ _ _ _ _ _ _ _ _ _ _ _ _ _ _ _ _ _ _ _ _ _ _ _ _ _ _ _ _ _ _ _ _ _ _ _ _ _ _ _ _ _ _ _ _ _ _ _ _ _ _ _ _ _ _ _ _ _ _ _ _ _ _ _ _ _ _ _ _ _ _ _ _ _ _ _ _ _ _ _ _ _ _ _ _ _ _ _ _ _ _ _ _ _ _ _ _ _ _ _ _ _ _ _ _ _ _ _ _ _ _ _ _ _ _ _ _ _ _ _ _ _ _ _ _ _ _ _ _ _ _ _ _ _ _ _ _ _ _ _ _ _ _ _ _ _ _ _ _ _ _ _ _ _ _ _ _ _ _ _ _ _ _ _ _ _ _ _ _ _ _ _ _ _ _ _ _ _ _ _ _ _ _ _ _ _ _ _ _ _ _ _ _ _ _ _ _ _ _ _ _ _ _ _ _ _ _ _ _ _ _ _ _ _ _ _ _ _ _ _ _ _ _ _ _ _ _ _ _ _ _ _ _ _ _ _ _ _ _ _ _ _ _ _ _ _ _ _ _ _ _ _ _ _ _ _ _ _ _ _ _ _ _ _ _ _ _ _ _ _ _ _ _ _ _ _ _ _ _ _ _ _ _
              · by_cases hB : n < h
                · obtain ⟨rfl, rfl⟩ : g1 = (decide (n < h - 1)) ∧ g2 = true := by
                    have := eg2.out
                    simp only [Prod.mk.injEq] at this
                    rw [this.1, this.2]
                    simp [onCw, onCc, hA, hB]
                  go_wp2_with (first
                    | (refine wpList_isD 320 (.move (.tmp 48)) rfl rfl ?_; refine wpList_valG (by kernel_rfl) (.int .i64 (r : Nat)) (by kernel_rfl) ?_; simp only [Act.put, List.setIfInBounds_toArray, List.set_cons_zero, List.set_cons_succ])
                    | (refine wpList_isD 321 (.move (.tmp 18)) rfl rfl ?_; refine wpList_valG (by kernel_rfl) (.int .i64 h) (by kernel_rfl) ?_; simp only [Act.put, List.setIfInBounds_toArray, List.set_cons_zero, List.set_cons_succ])
                    | (refine wpList_isD 322 (.binOp .lss 3 (.tmp 320) (.tmp 321) 3) rfl rfl ?_; refine wpList_valG (by kernel_rfl) (.bool false) ((exec_lss3 (.tmp 320) (.tmp 321) rfl (r : Int) h (by kernel_rfl) (by kernel_rfl)).trans (by simp [hA])) ?_; simp only [Act.put, List.setIfInBounds_toArray, List.set_cons_zero, List.set_cons_succ])
                    | (refine wpList_isD 323 (.move (.tmp 322)) rfl rfl ?_; refine wpList_valG (by kernel_rfl) (.bool false) (by kernel_rfl) ?_; simp only [Act.put, List.setIfInBounds_toArray, List.set_cons_zero, List.set_cons_succ])
                    | (refine wpList_isD 329 (.move (.tmp 52)) rfl rfl ?_; refine wpList_valG (by kernel_rfl) (.int .i64 n) (by kernel_rfl) ?_; simp only [Act.put, List.setIfInBounds_toArray, List.set_cons_zero, List.set_cons_succ])
                    | (refine wpList_isD 330 (.move (.tmp 18)) rfl rfl ?_; refine wpList_valG (by kernel_rfl) (.int .i64 h) (by kernel_rfl) ?_; simp only [Act.put, List.setIfInBounds_toArray, List.set_cons_zero, List.set_cons_succ])
                    | (refine wpList_isD 331 (.binOp .lss 3 (.tmp 329) (.tmp 330) 3) rfl rfl ?_; refine wpList_valG (by kernel_rfl) (.bool true) ((exec_lss3 (.tmp 329) (.tmp 330) rfl n h (by kernel_rfl) (by kernel_rfl)).trans (by simp [hB])) ?_; simp only [Act.put, List.setIfInBounds_toArray, List.set_cons_zero, List.set_cons_succ])
                    | (refine wpList_isD 332 (.move (.tmp 331)) rfl rfl ?_; refine wpList_valG (by kernel_rfl) (.bool true) (by kernel_rfl) ?_; simp only [Act.put, List.setIfInBounds_toArray, List.set_cons_zero, List.set_cons_succ])
                    | (refine wpList_isD 324 (.move (.tmp 52)) rfl rfl ?_; refine wpList_valG (by kernel_rfl) (.int .i64 n) (by kernel_rfl) ?_; simp only [Act.put, List.setIfInBounds_toArray, List.set_cons_zero, List.set_cons_succ])
                    | (refine wpList_isD 325 (.move (.tmp 18)) rfl rfl ?_; refine wpList_valG (by kernel_rfl) (.int .i64 h) (by kernel_rfl) ?_; simp only [Act.put, List.setIfInBounds_toArray, List.set_cons_zero, List.set_cons_succ])
                    | (refine wpList_isD 326 (.binOp .sub 3 (.tmp 325) (.const (.int .i64 1)) 3) rfl rfl ?_; refine wpList_valG (by kernel_rfl) (.int .i64 (h - 1)) (exec_sub3 (.tmp 325) (.const (.int .i64 1)) rfl h 1 (by omega) (by omega) (by kernel_rfl) (by kernel_rfl)) ?_; simp only [Act.put, List.setIfInBounds_toArray, List.set_cons_zero, List.set_cons_succ])
                    | (refine wpList_isD 327 (.binOp .lss 3 (.tmp 324) (.tmp 326) 3) rfl rfl ?_; refine wpList_valG (by kernel_rfl) (.bool (decide (n < h - 1))) (exec_lss3 (.tmp 324) (.tmp 326) rfl n (h - 1) (by kernel_rfl) (by kernel_rfl)) ?_; simp only [Act.put, List.setIfInBounds_toArray, List.set_cons_zero, List.set_cons_succ])
                    | (refine wpList_isD 333 (.move (.tmp 48)) rfl rfl ?_; refine wpList_skipG (by kernel_rfl) ?_; simp only [Act.put, List.setIfInBounds_toArray, List.set_cons_zero, List.set_cons_succ])
                    | (refine wpList_isD 334 (.move (.tmp 18)) rfl rfl ?_; refine wpList_skipG (by kernel_rfl) ?_; simp only [Act.put, List.setIfInBounds_toArray, List.set_cons_zero, List.set_cons_succ])
                    | (refine wpList_isD 335 (.binOp .sub 3 (.tmp 334) (.const (.int .i64 1)) 3) rfl rfl ?_; refine wpList_skipG (by kernel_rfl) ?_; simp only [Act.put, List.setIfInBounds_toArray, List.set_cons_zero, List.set_cons_succ])
                    | (refine wpList_isD 336 (.binOp .lss 3 (.tmp 333) (.tmp 335) 3) rfl rfl ?_; refine wpList_skipG (by kernel_rfl) ?_; simp only [Act.put, List.setIfInBounds_toArray, List.set_cons_zero, List.set_cons_succ])
                    | (refine wpList_isD 328 (.pick (.tmp 323) (.const (.bool true)) (.tmp 327)) rfl rfl ?_; refine wpList_valG (by kernel_rfl) (.bool (decide (n < h - 1))) (by kernel_rfl) ?_; simp only [Act.put, List.setIfInBounds_toArray, List.set_cons_zero, List.set_cons_succ])
                    | (refine wpList_isD 337 (.pick (.tmp 332) (.const (.bool true)) (.tmp 336)) rfl rfl ?_; refine wpList_valG (by kernel_rfl) (.bool true) (by kernel_rfl) ?_; simp only [Act.put, List.setIfInBounds_toArray, List.set_cons_zero, List.set_cons_succ]))
                  clear hA hB
                  unfold Hid at HK
                  refine HK _ _ ?_
                  exact tail94 w wr s h b17 p b33 _ vt0 vr0 vi vt vr ids refs gd hh hh4 (m.kept gr) (decide (n < h - 1)) true _ _ _ _ _ _ _ _ _ _ _ _ _ _ _ _ _ _ _ _ _ _ _ _ _ _ _ _ _ _ _ _ _ _ _ _ _ _ _ _ _ _ _ _ _ _ _ _ _ _ _ _ _ _ _ _ _ _ _ _ _ _ _ _ _ _ _ _ _ _ _ _ _ _ _ _ _ _ _ _ _ _ _ _ _ _ _ _ _ _ _ _ _ _ _ _ _ _ _ _ _ _ _ _ _ _ _ _ _ _ _ _ _ _ _ _ _ _ _ _ _ _ _ _ _ _ _ _ _ _ _ _ _ _ _ _ _ _ _ _ _ _ _ _ _ _ _ _ _ _ _ _ _ _ _ _ _ _ _ _ _ _ _ _ _ _ _ _ _ _ _ _ _ _ _ _ _ _ _ _ _ _ _ _ _ _ _ _ _ _ _ _ _ _ _ _ _ _ _ _ _ _ _ _ _ _ _ _ _ _ _ _ _ _ _ _ _ _ _ _ _ _ _ _ _ _ _ _ _ _ _ _ _ _ _ _ _ _ _ _ _ _ _ _ _ _ _ _ _ _ _ _ _ _ _ _ _ _ _ _ _ _ _ _ _ _ _ _ _ _ _ _ _ _ _ _ _ _ _ _ _ _ _ _ _ _ _ _ _ _ _ _ _ _ _ _ _ _ _ _ _ _ _ _ _ _ _ _ _ _ _ _ _ _ _ _ _ _ _ _ _ _ _ _ _ _ _ _ _ _ _ _ _ _ _ _ _ _ _ _ _ _ _ _ _ _ _ _ _ _ _ _ _ _ _ _ _ _ _ _ _ _ _ _ _ _ _ _ _ _ _ _ _ _ _ _ _ _ _ _ _ _ _ _ _ _ _ _ _ _ _ _ _ _ _ _ _
                · obtain ⟨rfl, rfl⟩ : g1 = (decide (n < h - 1)) ∧ g2 = (decide ((r : Int) < h - 1)) := by
                    have := eg2.out
                    simp only [Prod.mk.injEq] at this
                    rw [this.1, this.2]
                    simp [onCw, onCc, hA, hB]
                  go_wp2_with (first
                    | (refine wpList_isD 320 (.move (.tmp 48)) rfl rfl ?_; refine wpList_valG (by kernel_rfl) (.int .i64 (r : Nat)) (by kernel_rfl) ?_; simp only [Act.put, List.setIfInBounds_toArray, List.set_cons_zero, List.set_cons_succ])
                    | (refine wpList_isD 321 (.move (.tmp 18)) rfl rfl ?_; refine wpList_valG (by kernel_rfl) (.int .i64 h) (by kernel_rfl) ?_; simp only [Act.put, List.setIfInBounds_toArray, List.set_cons_zero, List.set_cons_succ])
                    | (refine wpList_isD 322 (.binOp .lss 3 (.tmp 320) (.tmp 321) 3) rfl rfl ?_; refine wpList_valG (by kernel_rfl) (.bool false) ((exec_lss3 (.tmp 320) (.tmp 321) rfl (r : Int) h (by kernel_rfl) (by kernel_rfl)).trans (by simp [hA])) ?_; simp only [Act.put, List.setIfInBounds_toArray, List.set_cons_zero, List.set_cons_succ])
                    | (refine wpList_isD 323 (.move (.tmp 322)) rfl rfl ?_; refine wpList_valG (by kernel_rfl) (.bool false) (by kernel_rfl) ?_; simp only [Act.put, List.setIfInBounds_toArray, List.set_cons_zero, List.set_cons_succ])
                    | (refine wpList_isD 329 (.move (.tmp 52)) rfl rfl ?_; refine wpList_valG (by kernel_rfl) (.int .i64 n) (by kernel_rfl) ?_; simp only [Act.put, List.setIfInBounds_toArray, List.set_cons_zero, List.set_cons_succ])
                    | (refine wpList_isD 330 (.move (.tmp 18)) rfl rfl ?_; refine wpList_valG (by kernel_rfl) (.int .i64 h) (by kernel_rfl) ?_; simp only [Act.put, List.setIfInBounds_toArray, List.set_cons_zero, List.set_cons_succ])
                    | (refine wpList_isD 331 (.binOp .lss 3 (.tmp 329) (.tmp 330) 3) rfl rfl ?_; refine wpList_valG (by kernel_rfl) (.bool false) ((exec_lss3 (.tmp 329) (.tmp 330) rfl n h (by kernel_rfl) (by kernel_rfl)).trans (by simp [hB])) ?_; simp only [Act.put, List.setIfInBounds_toArray, List.set_cons_zero, List.set_cons_succ])
                    | (refine wpList_isD 332 (.move (.tmp 331)) rfl rfl ?_; refine wpList_valG (by kernel_rfl) (.bool false) (by kernel_rfl) ?_; simp only [Act.put, List.setIfInBounds_toArray, List.set_cons_zero, List.set_cons_succ])
                    | (refine wpList_isD 324 (.move (.tmp 52)) rfl rfl ?_; refine wpList_valG (by kernel_rfl) (.int .i64 n) (by kernel_rfl) ?_; simp only [Act.put, List.setIfInBounds_toArray, List.set_cons_zero, List.set_cons_succ])
                    | (refine wpList_isD 325 (.move (.tmp 18)) rfl rfl ?_; refine wpList_valG (by kernel_rfl) (.int .i64 h) (by kernel_rfl) ?_; simp only [Act.put, List.setIfInBounds_toArray, List.set_cons_zero, List.set_cons_succ])
                    | (refine wpList_isD 326 (.binOp .sub 3 (.tmp 325) (.const (.int .i64 1)) 3) rfl rfl ?_; refine wpList_valG (by kernel_rfl) (.int .i64 (h - 1)) (exec_sub3 (.tmp 325) (.const (.int .i64 1)) rfl h 1 (by omega) (by omega) (by kernel_rfl) (by kernel_rfl)) ?_; simp only [Act.put, List.setIfInBounds_toArray, List.set_cons_zero, List.set_cons_succ])
                    | (refine wpList_isD 327 (.binOp .lss 3 (.tmp 324) (.tmp 326) 3) rfl rfl ?_; refine wpList_valG (by kernel_rfl) (.bool (decide (n < h - 1))) (exec_lss3 (.tmp 324) (.tmp 326) rfl n (h - 1) (by kernel_rfl) (by kernel_rfl)) ?_; simp only [Act.put, List.setIfInBounds_toArray, List.set_cons_zero, List.set_cons_succ])
                    | (refine wpList_isD 333 (.move (.tmp 48)) rfl rfl ?_; refine wpList_valG (by kernel_rfl) (.int .i64 (r : Nat)) (by kernel_rfl) ?_; simp only [Act.put, List.setIfInBounds_toArray, List.set_cons_zero, List.set_cons_succ])
                    | (refine wpList_isD 334 (.move (.tmp 18)) rfl rfl ?_; refine wpList_valG (by kernel_rfl) (.int .i64 h) (by kernel_rfl) ?_; simp only [Act.put, List.setIfInBounds_toArray, List.set_cons_zero, List.set_cons_succ])
                    | (refine wpList_isD 335 (.binOp .sub 3 (.tmp 334) (.const (.int .i64 1)) 3) rfl rfl ?_; refine wpList_valG (by kernel_rfl) (.int .i64 (h - 1)) (exec_sub3 (.tmp 334) (.const (.int .i64 1)) rfl h 1 (by omega) (by omega) (by kernel_rfl) (by kernel_rfl)) ?_; simp only [Act.put, List.setIfInBounds_toArray, List.set_cons_zero, List.set_cons_succ])
                    | (refine wpList_isD 336 (.binOp .lss 3 (.tmp 333) (.tmp 335) 3) rfl rfl ?_; refine wpList_valG (by kernel_rfl) (.bool (decide ((r : Int) < h - 1))) (exec_lss3 (.tmp 333) (.tmp 335) rfl (r : Int) (h - 1) (by kernel_rfl) (by kernel_rfl)) ?_; simp only [Act.put, List.setIfInBounds_toArray, List.set_cons_zero, List.set_cons_succ])
                    | (refine wpList_isD 328 (.pick (.tmp 323) (.const (.bool true)) (.tmp 327)) rfl rfl ?_; refine wpList_valG (by kernel_rfl) (.bool (decide (n < h - 1))) (by kernel_rfl) ?_; simp only [Act.put, List.setIfInBounds_toArray, List.set_cons_zero, List.set_cons_succ])
                    | (refine wpList_isD 337 (.pick (.tmp 332) (.const (.bool true)) (.tmp 336)) rfl rfl ?_; refine wpList_valG (by kernel_rfl) (.bool (decide ((r : Int) < h - 1))) (by kernel_rfl) ?_; simp only [Act.put, List.setIfInBounds_toArray, List.set_cons_zero, List.set_cons_succ]))
                  clear hA hB
                  unfold Hid at HK
                  refine HK _ _ ?_
                  exact tail94 w wr s h b17 p b33 _ vt0 vr0 vi vt vr ids refs gd hh hh4 (m.kept gr) (decide (n < h - 1)) (decide ((r : Int) < h - 1)) _ _ _ _ _ _ _ _ _ _ _ _ _ _ _ _ _ _ _ _ _ _ _ _ _ _ _ _ _ _ _ _ _ _ _ _ _ _ _ _ _ _ _ _ _ _ _ _ _ _ _ _ _ _ _ _ _ _ _ _ _ _ _ _ _ _ _ _ _ _ _ _ _ _ _ _ _ _ _ _ _ _ _ _ _ _ _ _ _ _ _ _ _ _ _ _ _ _ _ _ _ _ _ _ _ _ _ _ _ _ _ _ _ _ _ _ _ _ _ _ _ _ _ _ _ _ _ _ _ _ _ _ _ _ _ _ _ _ _ _ _ _ _ _ _ _ _ _ _ _ _ _ _ _ _ _ _ _ _ _ _ _ _ _ _ _ _ _ _ _ _ _ _ _ _ _ _ _ _ _ _ _ _ _ _ _ _ _ _ _ _ _ _ _ _ _ _ _ _ _ _ _ _ _ _ _ _ _ _ _ _ _ _ _ _ _ _ _ _ _ _ _ _ _ _ _ _ _ _ _ _ _ _ _ _ _ _ _ _ _ _ _ _ _ _ _ _ _ _ _ _ _ _ _ _ _ _ _ _ _ _ _ _ _ _ _ _ _ _ _ _ _ _ _ _ _ _ _ _ _ _ _ _ _ _ _ _ _ _ _ _ _ _ _ _ _ _ _ _ _ _ _ _ _ _ _ _ _ _ _ _ _ _ _ _ _ _ _ _ _ _ _ _ _ _ _ _ _ _ _ _ _ _ _ _ _ _ _ _ _ _ _ _ _ _ _ _ _ _ _ _ _ _ _ _ _ _ _ _ _ _ _ _ _ _ _ _ _ _ _ _ _ _ _ _ _ _ _ _ _ _ _ _ _ _ _ _ _ _ _ _ _ _ _ _ _ _
            · have hd : decide (x ∈ ids) = false := by simp [hm]
              rw [if_neg hm] at hnc
              have hnb : (ids.length : Int) - (r : Int) = n := by omega
              have b1 : -9223372036854775808 ≤ (ids.length : Int) - (r : Int) := by omega
              have b2 : (ids.length : Int) - (r : Int) < 9223372036854775808 := by omega
              have HN : Aside ((ids.length : Int) - (r : Int) = n) := hnb
              rw [hd]
              clear hd hm hnc hnb
              go_upto_region 87 with (first
                | (refine wpList_is (.binOp .sub 3 (.tmp 314) (.tmp 315) 3) rfl ?_; refine wpList_exec rfl (.int .i64 n) (HN.out ▸ exec_sub3 (.tmp 314) (.tmp 315) rfl (ids.length : Int) (r : Int) b1 b2 rfl rfl) ?_))
              clear b1 b2 HN
              by_cases hA : (r : Int) < h
              · by_cases hB : n < h
                · obtain ⟨rfl, rfl⟩ : g1 = true ∧ g2 = true := by
                    have := eg2.out
                    simp only [Prod.mk.injEq] at this
                    rw [this.1, this.2]
                    simp [onCw, onCc, hA, hB]
                  go_wp2_with (first
                    | (refine wpList_isD 320 (.move (.tmp 48)) rfl rfl ?_; refine wpList_valG (by kernel_rfl) (.int .i64 (r : Nat)) (by kernel_rfl) ?_; simp only [Act.put, List.setIfInBounds_toArray, List.set_cons_zero, List.set_cons_succ])
                    | (refine wpList_isD 321 (.move (.tmp 18)) rfl rfl ?_; refine wpList_valG (by kernel_rfl) (.int .i64 h) (by kernel_rfl) ?_; simp only [Act.put, List.setIfInBounds_toArray, List.set_cons_zero, List.set_cons_succ])
                    | (refine wpList_isD 322 (.binOp .lss 3 (.tmp 320) (.tmp 321) 3) rfl rfl ?_; refine wpList_valG (by kernel_rfl) (.bool true) ((exec_lss3 (.tmp 320) (.tmp 321) rfl (r : Int) h (by kernel_rfl) (by kernel_rfl)).trans (by simp [hA])) ?_; simp only [Act.put, List.setIfInBounds_toArray, List.set_cons_zero, List.set_cons_succ])
                    | (refine wpList_isD 323 (.move (.tmp 322)) rfl rfl ?_; refine wpList_valG (by kernel_rfl) (.bool true) (by kernel_rfl) ?_; simp only [Act.put, List.setIfInBounds_toArray, List.set_cons_zero, List.set_cons_succ])
                    | (refine wpList_isD 329 (.move (.tmp 52)) rfl rfl ?_; refine wpList_valG (by kernel_rfl) (.int .i64 n) (by kernel_rfl) ?_; simp only [Act.put, List.setIfInBounds_toArray, List.set_cons_zero, List.set_cons_succ])
                    | (refine wpList_isD 330 (.move (.tmp 18)) rfl rfl ?_; refine wpList_valG (by kernel_rfl) (.int .i64 h) (by kernel_rfl) ?_; simp only [Act.put, List.setIfInBounds_toArray, List.set_cons_zero, List.set_cons_succ])
                    | (refine wpList_isD 331 (.binOp .lss 3 (.tmp 329) (.tmp 330) 3) rfl rfl ?_; refine wpList_valG (by kernel_rfl) (.bool true) ((exec_lss3 (.tmp 329) (.tmp 330) rfl n h (by kernel_rfl) (by kernel_rfl)).trans (by simp [hB])) ?_; simp only [Act.put, List.setIfInBounds_toArray, List.set_cons_zero, List.set_cons_succ])
                    | (refine wpList_isD 332 (.move (.tmp 331)) rfl rfl ?_; refine wpList_valG (by kernel_rfl) (.bool true) (by kernel_rfl) ?_; simp only [Act.put, List.setIfInBounds_toArray, List.set_cons_zero, List.set_cons_succ])
                    | (refine wpList_isD 324 (.move (.tmp 52)) rfl rfl ?_; refine wpList_skipG (by kernel_rfl) ?_; simp only [Act.put, List.setIfInBounds_toArray, List.set_cons_zero, List.set_cons_succ])
                    | (refine wpList_isD 325 (.move (.tmp 18)) rfl rfl ?_; refine wpList_skipG (by kernel_rfl) ?_; simp only [Act.put, List.setIfInBounds_toArray, List.set_cons_zero, List.set_cons_succ])
                    | (refine wpList_isD 326 (.binOp .sub 3 (.tmp 325) (.const (.int .i64 1)) 3) rfl rfl ?_; refine wpList_skipG (by kernel_rfl) ?_; simp only [Act.put, List.setIfInBounds_toArray, List.set_cons_zero, List.set_cons_succ])
                    | (refine wpList_isD 327 (.binOp .lss 3 (.tmp 324) (.tmp 326) 3) rfl rfl ?_; refine wpList_skipG (by kernel_rfl) ?_; simp only [Act.put, List.setIfInBounds_toArray, List.set_cons_zero, List.set_cons_succ])
                    | (refine wpList_isD 333 (.move (.tmp 48)) rfl rfl ?_; refine wpList_skipG (by kernel_rfl) ?_; simp only [Act.put, List.setIfInBounds_toArray, List.set_cons_zero, List.set_cons_succ])
                    | (refine wpList_isD 334 (.move (.tmp 18)) rfl rfl ?_; refine wpList_skipG (by kernel_rfl) ?_; simp only [Act.put, List.setIfInBounds_toArray, List.set_cons_zero, List.set_cons_succ])
                    | (refine wpList_isD 335 (.binOp .sub 3 (.tmp 334) (.const (.int .i64 1)) 3) rfl rfl ?_; refine wpList_skipG (by kernel_rfl) ?_; simp only [Act.put, List.setIfInBounds_toArray, List.set_cons_zero, List.set_cons_succ])
                    | (refine wpList_isD 336 (.binOp .lss 3 (.tmp 333) (.tmp 335) 3) rfl rfl ?_; refine wpList_skipG (by kernel_rfl) ?_; simp only [Act.put, List.setIfInBounds_toArray, List.set_cons_zero, List.set_cons_succ])
                    | (refine wpList_isD 328 (.pick (.tmp 323) (.const (.bool true)) (.tmp 327)) rfl rfl ?_; refine wpList_valG (by kernel_rfl) (.bool true) (by kernel_rfl) ?_; simp only [Act.put, List.setIfInBounds_toArray, List.set_cons_zero, List.set_cons_succ])
                    | (refine wpList_isD 337 (.pick (.tmp 332) (.const (.bool true)) (.tmp 336)) rfl rfl ?_; refine wpList_valG (by kernel_rfl) (.bool true) (by kernel_rfl) ?_; simp only [Act.put, List.setIfInBounds_toArray, List.set_cons_zero, List.set_cons_succ]))
                  clear hA hB
                  unfold Hid at HK
                  refine HK _ _ ?_
                  exact tail94 w wr s h b17 p b33 _ vt0 vr0 vi vt vr ids refs gd hh hh4 (m.kept gr) true true _ _ _ _ _ _ _ _ _ _ _ _ _ _ _ _ _ _ _ _ _ _ _ _ _ _ _ _ _ _ _ _ _ _ _ _ _ _ _ _ _ _ _ _ _ _ _ _ _ _ _ _ _ _ _ _ _ _ _ _ _ _ _ _ _ _ _ _ _ _ _ _ _ _ _ _ _ _ _ _ _ _ _ _ _ _ _ _ _ _ _ _ _ _ _ _ _ _ _ _ _ _ _ _ _ _ _ _ _ _ _ _ _ _ _ _ _ _ _ _ _ _ _ _ _ _ _ _ _ _ _ _ _ _ _ _ _ _ _ _ _ _ _ _ _ _ _ _ _ _ _ _ _ _ _ _ _ _ _ _ _ _ _ _ _ _ _ _ _ _ _ _ _ _ _ _ _ _ _ _ _ _ _ _ _ _ _ _ _ _ _ _ _ _ _ _ _ _ _ _ _ _ _ _ _ _ _ _ _ _ _ _ _ _ _ _ _ _ _ _ _ _ _ _ _ _ _ _ _ _ _ _ _ _ _ _ _ _ _ _ _ _ _ _ _ _ _ _ _ _ _ _ _ _ _ _ _ _ _ _ _ _ _ _ _ _ _ _ _ _ _ _ _ _ _ _ _ _ _ _ _ _ _ _ _ _ _ _ _ _ _ _ _ _ _ _ _ _ _ _ _ _ _ _ _ _ _ _ _ _ _ _ _ _ _ _ _ _ _ _ _ _ _ _ _ _ _ _ _ _ _ _ _ _ _ _ _ _ _ _ _ _ _ _ _ _ _ _ _ _ _ _ _ _ _ _ _ _ _ _ _ _ _ _ _ _ _ _ _ _ _ _ _ _ _ _ _ _ _ _ _ _ _ _ _ _ _ _ _ _ _ _ _ _ _ _ _
                · obtain ⟨rfl, rfl⟩ : g1 = true ∧ g2 = (decide ((r : Int) < h - 1)) := by
                    have := eg2.out
                    simp only [Prod.mk.injEq] at this
                    rw [this.1, this.2]
                    simp [onCw, onCc, hA, hB]
                  go_wp2_with (first
                    | (refine wpList_isD 320 (.move (.tmp 48)) rfl rfl ?_; refine wpList_valG (by kernel_rfl) (.int .i64 (r : Nat)) (by kernel_rfl) ?_; simp only [Act.put, List.setIfInBounds_toArray, List.set_cons_zero, List.set_cons_succ])
                    | (refine wpList_isD 321 (.move (.tmp 18)) rfl rfl ?_; refine wpList_valG (by kernel_rfl) (.int .i64 h) (by kernel_rfl) ?_; simp only [Act.put, List.setIfInBounds_toArray, List.set_cons_zero, List.set_cons_succ])
                    | (refine wpList_isD 322 (.binOp .lss 3 (.tmp 320) (.tmp 321) 3) rfl rfl ?_; refine wpList_valG (by kernel_rfl) (.bool true) ((exec_lss3 (.tmp 320) (.tmp 321) rfl (r : Int) h (by kernel_rfl) (by kernel_rfl)).trans (by simp [hA])) ?_; simp only [Act.put, List.setIfInBounds_toArray, List.set_cons_zero, List.set_cons_succ])
                    | (refine wpList_isD 323 (.move (.tmp 322)) rfl rfl ?_; refine wpList_valG (by kernel_rfl) (.bool true) (by kernel_rfl) ?_; simp only [Act.put, List.setIfInBounds_toArray, List.set_cons_zero, List.set_cons_succ])
                    | (refine wpList_isD 329 (.move (.tmp 52)) rfl rfl ?_; refine wpList_valG (by kernel_rfl) (.int .i64 n) (by kernel_rfl) ?_; simp only [Act.put, List.setIfInBounds_toArray, List.set_cons_zero, List.set_cons_succ])
                    | (refine wpList_isD 330 (.move (.tmp 18)) rfl rfl ?_; refine wpList_valG (by kernel_rfl) (.int .i64 h) (by kernel_rfl) ?_; simp only [Act.put, List.setIfInBounds_toArray, List.set_cons_zero, List.set_cons_succ])
                    | (refine wpList_isD 331 (.binOp .lss 3 (.tmp 329) (.tmp 330) 3) rfl rfl ?_; refine wpList_valG (by kernel_rfl) (.bool false) ((exec_lss3 (.tmp 329) (.tmp 330) rfl n h (by kernel_rfl) (by kernel_rfl)).trans (by simp [hB])) ?_; simp only [Act.put, List.setIfInBounds_toArray, List.set_cons_zero, List.set_cons_succ])
                    | (refine wpList_isD 332 (.move (.tmp 331)) rfl rfl ?_; refine wpList_valG (by kernel_rfl) (.bool false) (by kernel_rfl) ?_; simp only [Act.put, List.setIfInBounds_toArray, List.set_cons_zero, List.set_cons_succ])
                    | (refine wpList_isD 324 (.move (.tmp 52)) rfl rfl ?_; refine wpList_skipG (by kernel_rfl) ?_; simp only [Act.put, List.setIfInBounds_toArray, List.set_cons_zero, List.set_cons_succ])
                    | (refine wpList_isD 325 (.move (.tmp 18)) rfl rfl ?_; refine wpList_skipG (by kernel_rfl) ?_; simp only [Act.put, List.setIfInBounds_toArray, List.set_cons_zero, List.set_cons_succ])
                    | (refine wpList_isD 326 (.binOp .sub 3 (.tmp 325) (.const (.int .i64 1)) 3) rfl rfl ?_; refine wpList_skipG (by kernel_rfl) ?_; simp only [Act.put, List.setIfInBounds_toArray, List.set_cons_zero, List.set_cons_succ])
                    | (refine wpList_isD 327 (.binOp .lss 3 (.tmp 324) (.tmp 326) 3) rfl rfl ?_; refine wpList_skipG (by kernel_rfl) ?_; simp only [Act.put, List.setIfInBounds_toArray, List.set_cons_zero, List.set_cons_succ])
                    | (refine wpList_isD 333 (.move (.tmp 48)) rfl rfl ?_; refine wpList_valG (by kernel_rfl) (.int .i64 (r : Nat)) (by kernel_rfl) ?_; simp only [Act.put, List.setIfInBounds_toArray, List.set_cons_zero, List.set_cons_succ])
                    | (refine wpList_isD 334 (.move (.tmp 18)) rfl rfl ?_; refine wpList_valG (by kernel_rfl) (.int .i64 h) (by kernel_rfl) ?_; simp only [Act.put, List.setIfInBounds_toArray, List.set_cons_zero, List.set_cons_succ])
                    | (refine wpList_isD 335 (.binOp .sub 3 (.tmp 334) (.const (.int .i64 1)) 3) rfl rfl ?_; refine wpList_valG (by kernel_rfl) (.int .i64 (h - 1)) (exec_sub3 (.tmp 334) (.const (.int .i64 1)) rfl h 1 (by omega) (by omega) (by kernel_rfl) (by kernel_rfl)) ?_; simp only [Act.put, List.setIfInBounds_toArray, List.set_cons_zero, List.set_cons_succ])
                    | (refine wpList_isD 336 (.binOp .lss 3 (.tmp 333) (.tmp 335) 3) rfl rfl ?_; refine wpList_valG (by kernel_rfl) (.bool (decide ((r : Int) < h - 1))) (exec_lss3 (.tmp 333) (.tmp 335) rfl (r : Int) (h - 1) (by kernel_rfl) (by kernel_rfl)) ?_; simp only [Act.put, List.setIfInBounds_toArray, List.set_cons_zero, List.set_cons_succ])
                    | (refine wpList_isD 328 (.pick (.tmp 323) (.const (.bool true)) (.tmp 327)) rfl rfl ?_; refine wpList_valG (by kernel_rfl) (.bool true) (by kernel_rfl) ?_; simp only [Act.put, List.setIfInBounds_toArray, List.set_cons_zero, List.set_cons_succ])
                    | (refine wpList_isD 337 (.pick (.tmp 332) (.const (.bool true)) (.tmp 336)) rfl rfl ?_; refine wpList_valG (by kernel_rfl) (.bool (decide ((r : Int) < h - 1))) (by kernel_rfl) ?_; simp only [Act.put, List.setIfInBounds_toArray, List.set_cons_zero, List.set_cons_succ]))
                  clear hA hB
                  unfold Hid at HK
                  refine HK _ _ ?_
                  exact tail94 w wr s h b17 p b33 _ vt0 vr0 vi vt vr ids refs gd hh hh4 (m.kept gr) true (decide ((r : Int) < h - 1)) _ _ _ _ _ _ _ _ _ _ _ _ _ _ _ _ _ _ _ _ _ _ _ _ _ _ _ _ _ _ _ _ _ _ _ _ _ _ _ _ _ _ _ _ _ _ _ _ _ _ _ _ _ _ _ _ _ _ _ _ _ _ _ _ _ _ _ _ _ _ _ _ _ _ _ _ _ _ _ _ _ _ _ _ _ _ _ _ _ _ _ _ _ _ _ _ _ _ _ _ _ _ _ _ _ _ _ _ _ _ _ _ _ _ _ _ _ _ _ _ _ _ _ _ _ _ _ _ _ _ _ _ _ _ _ _ _ _ _ _ _ _ _ _ _ _ _ _ _ _ _ _ _ _ _ _ _ _ _ _ _ _ _ _ _ _ _ _ _ _ _ _ _ _ _ _ _ _ _ _ _ _ _ _ _ _ _ _ _ _ _ _ _ _ _ _ _ _ _ _ _ _ _ _ _ _ _ _ _ _ _ _ _ _ _ _ _ _ _ _ _ _ _ _ _ _ _ _ _ _ _ _ _ _ _ _ _ _ _ _ _ _ _ _ _ _ _ _ _ _ _ _ _ _ _ _ _ _ _ _ _ _ _ _ _ _ _ _ _ _ _ _ _ _ _ _ _ _ _ _ _ _ _ _ _ _ _ _ _ _ _ _ _ _ _ _ _ _ _ _ _ _ _ _ _ _ _ _ _ _ _ _ _ _ _ _ _ _ _ _ _ _ _ _ _ _ _ _ _ _ _ _ _ _ _ _ _ _ _ _ _ _ _ _ _ _ _ _ _ _ _ _ _ _ _ _ _ _ _ _ _ _ _ _ _ _ _ _ _ _ _ _ _ _ _ _ _ _ _ _ _ _ _ _ _ _ _ _ _ _ _ _ _ _ _ _ _
              · by_cases hB : n < h
                · obtain ⟨rfl, rfl⟩ : g1 = (decide (n < h - 1)) ∧ g2 = true := by
                    have := eg2.out
                    simp only [Prod.mk.injEq] at this
                    rw [this.1, this.2]
                    simp [onCw, onCc, hA, hB]
                  go_wp2_with (first
                    | (refine wpList_isD 320 (.move (.tmp 48)) rfl rfl ?_; refine wpList_valG (by kernel_rfl) (.int .i64 (r : Nat)) (by kernel_rfl) ?_; simp only [Act.put, List.setIfInBounds_toArray, List.set_cons_zero, List.set_cons_succ])
                    | (refine wpList_isD 321 (.move (.tmp 18)) rfl rfl ?_; refine wpList_valG (by kernel_rfl) (.int .i64 h) (by kernel_rfl) ?_; simp only [Act.put, List.setIfInBounds_toArray, List.set_cons_zero, List.set_cons_succ])
                    | (refine wpList_isD 322 (.binOp .lss 3 (.tmp 320) (.tmp 321) 3) rfl rfl ?_; refine wpList_valG (by kernel_rfl) (.bool false) ((exec_lss3 (.tmp 320) (.tmp 321) rfl (r : Int) h (by kernel_rfl) (by kernel_rfl)).trans (by simp [hA])) ?_; simp only [Act.put, List.setIfInBounds_toArray, List.set_cons_zero, List.set_cons_succ])
                    | (refine wpList_isD 323 (.move (.tmp 322)) rfl rfl ?_; refine wpList_valG (by kernel_rfl) (.bool false) (by kernel_rfl) ?_; simp only [Act.put, List.setIfInBounds_toArray, List.set_cons_zero, List.set_cons_succ])
                    | (refine wpList_isD 329 (.move (.tmp 52)) rfl rfl ?_; refine wpList_valG (by kernel_rfl) (.int .i64 n) (by kernel_rfl) ?_; simp only [Act.put, List.setIfInBounds_toArray, List.set_cons_zero, List.set_cons_succ])
                    | (refine wpList_isD 330 (.move (.tmp 18)) rfl rfl ?_; refine wpList_valG (by kernel_rfl) (.int .i64 h) (by kernel_rfl) ?_; simp only [Act.put, List.setIfInBounds_toArray, List.set_cons_zero, List.set_cons_succ])
                    | (refine wpList_isD 331 (.binOp .lss 3 (.tmp 329) (.tmp 330) 3) rfl rfl ?_; refine wpList_valG (by kernel_rfl) (.bool true) ((exec_lss3 (.tmp 329) (.tmp 330) rfl n h (by kernel_rfl) (by kernel_rfl)).trans (by simp [hB])) ?_; simp only [Act.put, List.setIfInBounds_toArray, List.set_cons_zero, List.set_cons_succ])
                    | (refine wpList_isD 332 (.move (.tmp 331)) rfl rfl ?_; refine wpList_valG (by kernel_rfl) (.bool true) (by kernel_rfl) ?_; simp only [Act.put, List.setIfInBounds_toArray, List.set_cons_zero, List.set_cons_succ])
                    | (refine wpList_isD 324 (.move (.tmp 52)) rfl rfl ?_; refine wpList_valG (by kernel_rfl) (.int .i64 n) (by kernel_rfl) ?_; simp only [Act.put, List.setIfInBounds_toArray, List.set_cons_zero, List.set_cons_succ])
                    | (refine wpList_isD 325 (.move (.tmp 18)) rfl rfl ?_; refine wpList_valG (by kernel_rfl) (.int .i64 h) (by kernel_rfl) ?_; simp only [Act.put, List.setIfInBounds_toArray, List.set_cons_zero, List.set_cons_succ])
                    | (refine wpList_isD 326 (.binOp .sub 3 (.tmp 325) (.const (.int .i64 1)) 3) rfl rfl ?_; refine wpList_valG (by kernel_rfl) (.int .i64 (h - 1)) (exec_sub3 (.tmp 325) (.const (.int .i64 1)) rfl h 1 (by omega) (by omega) (by kernel_rfl) (by kernel_rfl)) ?_; simp only [Act.put, List.setIfInBounds_toArray, List.set_cons_zero, List.set_cons_succ])
                    | (refine wpList_isD 327 (.binOp .lss 3 (.tmp 324) (.tmp 326) 3) rfl rfl ?_; refine wpList_valG (by kernel_rfl) (.bool (decide (n < h - 1))) (exec_lss3 (.tmp 324) (.tmp 326) rfl n (h - 1) (by kernel_rfl) (by kernel_rfl)) ?_; simp only [Act.put, List.setIfInBounds_toArray, List.set_cons_zero, List.set_cons_succ])
                    | (refine wpList_isD 333 (.move (.tmp 48)) rfl rfl ?_; refine wpList_skipG (by kernel_rfl) ?_; simp only [Act.put, List.setIfInBounds_toArray, List.set_cons_zero, List.set_cons_succ])
                    | (refine wpList_isD 334 (.move (.tmp 18)) rfl rfl ?_; refine wpList_skipG (by kernel_rfl) ?_; simp only [Act.put, List.setIfInBounds_toArray, List.set_cons_zero, List.set_cons_succ])
                    | (refine wpList_isD 335 (.binOp .sub 3 (.tmp 334) (.const (.int .i64 1)) 3) rfl rfl ?_; refine wpList_skipG (by kernel_rfl) ?_; simp only [Act.put, List.setIfInBounds_toArray, List.set_cons_zero, List.set_cons_succ])
                    | (refine wpList_isD 336 (.binOp .lss 3 (.tmp 333) (.tmp 335) 3) rfl rfl ?_; refine wpList_skipG (by kernel_rfl) ?_; simp only [Act.put, List.setIfInBounds_toArray, List.set_cons_zero, List.set_cons_succ])
                    | (refine wpList_isD 328 (.pick (.tmp 323) (.const (.bool true)) (.tmp 327)) rfl rfl ?_; refine wpList_valG (by kernel_rfl) (.bool (decide (n < h - 1))) (by kernel_rfl) ?_; simp only [Act.put, List.setIfInBounds_toArray, List.set_cons_zero, List.set_cons_succ])
                    | (refine wpList_isD 337 (.pick (.tmp 332) (.const (.bool true)) (.tmp 336)) rfl rfl ?_; refine wpList_valG (by kernel_rfl) (.bool true) (by kernel_rfl) ?_; simp only [Act.put, List.setIfInBounds_toArray, List.set_cons_zero, List.set_cons_succ]))
                  clear hA hB
                  unfold Hid at HK
                  refine HK _ _ ?_
                  exact tail94 w wr s h b17 p b33 _ vt0 vr0 vi vt vr ids refs gd hh hh4 (m.kept gr) (decide (n < h - 1)) true _ _ _ _ _ _ _ _ _ _ _ _ _ _ _ _ _ _ _ _ _ _ _ _ _ _ _ _ _ _ _ _ _ _ _ _ _ _ _ _ _ _ _ _ _ _ _ _ _ _ _ _ _ _ _ _ _ _ _ _ _ _ _ _ _ _ _ _ _ _ _ _ _ _ _ _ _ _ _ _ _ _ _ _ _ _ _ _ _ _ _ _ _ _ _ _ _ _ _ _ _ _ _ _ _ _ _ _ _ _ _ _ _ _ _ _ _ _ _ _ _ _ _ _ _ _ _ _ _ _ _ _ _ _ _ _ _ _ _ _ _ _ _ _ _ _ _ _ _ _ _ _ _ _ _ _ _ _ _ _ _ _ _ _ _ _ _ _ _ _ _ _ _ _ _ _ _ _ _ _ _ _ _ _ _ _ _ _ _ _ _ _ _ _ _ _ _ _ _ _ _ _ _ _ _ _ _ _ _ _ _ _ _ _ _ _ _ _ _ _ _ _ _ _ _ _ _ _ _ _ _ _ _ _ _ _ _ _ _ _ _ _ _ _ _ _ _ _ _ _ _ _ _ _ _ _ _ _ _ _ _ _ _ _ _ _ _ _ _ _ _ _ _ _ _ _ _ _ _ _ _ _ _ _ _ _ _ _ _ _ _ _ _ _ _ _ _ _ _ _ _ _ _ _ _ _ _ _ _ _ _ _ _ _ _ _ _ _ _ _ _ _ _ _ _ _ _ _ _ _ _ _ _ _ _ _ _ _ _ _ _ _ _ _ _ _ _ _ _ _ _ _ _ _ _ _ _ _ _ _ _ _ _ _ _ _ _ _ _ _ _ _ _ _ _ _ _ _ _ _ _ _ _ _ _ _ _ _ _ _ _ _ _ _ _ _ _
                · obtain ⟨rfl, rfl⟩ : g1 = (decide (n < h - 1)) ∧ g2 = (decide ((r : Int) < h - 1)) := by
                    have := eg2.out
                    simp only [Prod.mk.injEq] at this
                    rw [this.1, this.2]
                    simp [onCw, onCc, hA, hB]
                  go_wp2_with (first
                    | (refine wpList_isD 320 (.move (.tmp 48)) rfl rfl ?_; refine wpList_valG (by kernel_rfl) (.int .i64 (r : Nat)) (by kernel_rfl) ?_; simp only [Act.put, List.setIfInBounds_toArray, List.set_cons_zero, List.set_cons_succ])
                    | (refine wpList_isD 321 (.move (.tmp 18)) rfl rfl ?_; refine wpList_valG (by kernel_rfl) (.int .i64 h) (by kernel_rfl) ?_; simp only [Act.put, List.setIfInBounds_toArray, List.set_cons_zero, List.set_cons_succ])
                    | (refine wpList_isD 322 (.binOp .lss 3 (.tmp 320) (.tmp 321) 3) rfl rfl ?_; refine wpList_valG (by kernel_rfl) (.bool false) ((exec_lss3 (.tmp 320) (.tmp 321) rfl (r : Int) h (by kernel_rfl) (by kernel_rfl)).trans (by simp [hA])) ?_; simp only [Act.put, List.setIfInBounds_toArray, List.set_cons_zero, List.set_cons_succ])
                    | (refine wpList_isD 323 (.move (.tmp 322)) rfl rfl ?_; refine wpList_valG (by kernel_rfl) (.bool false) (by kernel_rfl) ?_; simp only [Act.put, List.setIfInBounds_toArray, List.set_cons_zero, List.set_cons_succ])
                    | (refine wpList_isD 329 (.move (.tmp 52)) rfl rfl ?_; refine wpList_valG (by kernel_rfl) (.int .i64 n) (by kernel_rfl) ?_; simp only [Act.put, List.setIfInBounds_toArray, List.set_cons_zero, List.set_cons_succ])
                    | (refine wpList_isD 330 (.move (.tmp 18)) rfl rfl ?_; refine wpList_valG (by kernel_rfl) (.int .i64 h) (by kernel_rfl) ?_; simp only [Act.put, List.setIfInBounds_toArray, List.set_cons_zero, List.set_cons_succ])
                    | (refine wpList_isD 331 (.binOp .lss 3 (.tmp 329) (.tmp 330) 3) rfl rfl ?_; refine wpList_valG (by kernel_rfl) (.bool false) ((exec_lss3 (.tmp 329) (.tmp 330) rfl n h (by kernel_rfl) (by kernel_rfl)).trans (by simp [hB])) ?_; simp only [Act.put, List.setIfInBounds_toArray, List.set_cons_zero, List.set_cons_succ])
                    | (refine wpList_isD 332 (.move (.tmp 331)) rfl rfl ?_; refine wpList_valG (by kernel_rfl) (.bool false) (by kernel_rfl) ?_; simp only [Act.put, List.setIfInBounds_toArray, List.set_cons_zero, List.set_cons_succ])
                    | (refine wpList_isD 324 (.move (.tmp 52)) rfl rfl ?_; refine wpList_valG (by kernel_rfl) (.int .i64 n) (by kernel_rfl) ?_; simp only [Act.put, List.setIfInBounds_toArray, List.set_cons_zero, List.set_cons_succ])
                    | (refine wpList_isD 325 (.move (.tmp 18)) rfl rfl ?_; refine wpList_valG (by kernel_rfl) (.int .i64 h) (by kernel_rfl) ?_; simp only [Act.put, List.setIfInBounds_toArray, List.set_cons_zero, List.set_cons_succ])
                    | (refine wpList_isD 326 (.binOp .sub 3 (.tmp 325) (.const (.int .i64 1)) 3) rfl rfl ?_; refine wpList_valG (by kernel_rfl) (.int .i64 (h - 1)) (exec_sub3 (.tmp 325) (.const (.int .i64 1)) rfl h 1 (by omega) (by omega) (by kernel_rfl) (by kernel_rfl)) ?_; simp only [Act.put, List.setIfInBounds_toArray, List.set_cons_zero, List.set_cons_succ])
                    | (refine wpList_isD 327 (.binOp .lss 3 (.tmp 324) (.tmp 326) 3) rfl rfl ?_; refine wpList_valG (by kernel_rfl) (.bool (decide (n < h - 1))) (exec_lss3 (.tmp 324) (.tmp 326) rfl n (h - 1) (by kernel_rfl) (by kernel_rfl)) ?_; simp only [Act.put, List.setIfInBounds_toArray, List.set_cons_zero, List.set_cons_succ])
                    | (refine wpList_isD 333 (.move (.tmp 48)) rfl rfl ?_; refine wpList_valG (by kernel_rfl) (.int .i64 (r : Nat)) (by kernel_rfl) ?_; simp only [Act.put, List.setIfInBounds_toArray, List.set_cons_zero, List.set_cons_succ])
                    | (refine wpList_isD 334 (.move (.tmp 18)) rfl rfl ?_; refine wpList_valG (by kernel_rfl) (.int .i64 h) (by kernel_rfl) ?_; simp only [Act.put, List.setIfInBounds_toArray, List.set_cons_zero, List.set_cons_succ])
                    | (refine wpList_isD 335 (.binOp .sub 3 (.tmp 334) (.const (.int .i64 1)) 3) rfl rfl ?_; refine wpList_valG (by kernel_rfl) (.int .i64 (h - 1)) (exec_sub3 (.tmp 334) (.const (.int .i64 1)) rfl h 1 (by omega) (by omega) (by kernel_rfl) (by kernel_rfl)) ?_; simp only [Act.put, List.setIfInBounds_toArray, List.set_cons_zero, List.set_cons_succ])
                    | (refine wpList_isD 336 (.binOp .lss 3 (.tmp 333) (.tmp 335) 3) rfl rfl ?_; refine wpList_valG (by kernel_rfl) (.bool (decide ((r : Int) < h - 1))) (exec_lss3 (.tmp 333) (.tmp 335) rfl (r : Int) (h - 1) (by kernel_rfl) (by kernel_rfl)) ?_; simp only [Act.put, List.setIfInBounds_toArray, List.set_cons_zero, List.set_cons_succ])
                    | (refine wpList_isD 328 (.pick (.tmp 323) (.const (.bool true)) (.tmp 327)) rfl rfl ?_; refine wpList_valG (by kernel_rfl) (.bool (decide (n < h - 1))) (by kernel_rfl) ?_; simp only [Act.put, List.setIfInBounds_toArray, List.set_cons_zero, List.set_cons_succ])
                    | (refine wpList_isD 337 (.pick (.tmp 332) (.const (.bool true)) (.tmp 336)) rfl rfl ?_; refine wpList_valG (by kernel_rfl) (.bool (decide ((r : Int) < h - 1))) (by kernel_rfl) ?_; simp only [Act.put, List.setIfInBounds_toArray, List.set_cons_zero, List.set_cons_succ]))
                  clear hA hB
                  unfold Hid at HK
                  refine HK _ _ ?_
                  exact tail94 w wr s h b17 p b33 _ vt0 vr0 vi vt vr ids refs gd hh hh4 (m.kept gr) (decide (n < h - 1)) (decide ((r : Int) < h - 1)) _ _ _ _ _ _ _ _ _ _ _ _ _ _ _ _ _ _ _ _ _ _ _ _ _ _ _ _ _ _ _ _ _ _ _ _ _ _ _ _ _ _ _ _ _ _ _ _ _ _ _ _ _ _ _ _ _ _ _ _ _ _ _ _ _ _ _ _ _ _ _ _ _ _ _ _ _ _ _ _ _ _ _ _ _ _ _ _ _ _ _ _ _ _ _ _ _ _ _ _ _ _ _ _ _ _ _ _ _ _ _ _ _ _ _ _ _ _ _ _ _ _ _ _ _ _ _ _ _ _ _ _ _ _ _ _ _ _ _ _ _ _ _ _ _ _ _ _ _ _ _ _ _ _ _ _ _ _ _ _ _ _ _ _ _ _ _ _ _ _ _ _ _ _ _ _ _ _ _ _ _ _ _ _ _ _ _ _ _ _ _ _ _ _ _ _ _ _ _ _ _ _ _ _ _ _ _ _ _ _ _ _ _ _ _ _ _ _ _ _ _ _ _ _ _ _ _ _ _ _ _ _ _ _ _ _ _ _ _ _ _ _ _ _ _ _ _ _ _ _ _ _ _ _ _ _ _ _ _ _ _ _ _ _ _ _ _ _ _ _ _ _ _ _ _ _ _ _ _ _ _ _ _ _ _ _ _ _ _ _ _ _ _ _ _ _ _ _ _ _ _ _ _ _ _ _ _ _ _ _ _ _ _ _ _ _ _ _ _ _ _ _ _ _ _ _ _ _ _ _ _ _ _ _ _ _ _ _ _ _ _ _ _ _ _ _ _ _ _ _ _ _ _ _ _ _ _ _ _ _ _ _ _ _ _ _ _ _ _ _ _ _ _ _ _ _ _ _ _ _ _ _ _ _ _ _ _ _ _ _ _ _ _ _ _ _ _
end Go.Proofs.YbulkdspqFmt
