/-
  LawS5970CWhole: from region 53 on: the nearest clockwise, as the law finds it.
-/
import Derived.Test.YbulkdspqFmtCT73
namespace Go.Proofs.YbulkdspqFmt
open Go.RowKit
set_option linter.unusedSimpArgs false
set_option linter.unusedVariables false

/-- What the law has found so far, nearest clockwise. -/
structure NM (wy u : World) (b40 : Nat) (c : Int) : Prop where
  g : wy.grownBy u none
  x40 : u.heap[b40]? = some (.cells (ic c).toArray 25 (0, 0))
  sc : Sm c
theorem NM.kept {wy u u' : World} {b40 : Nat} {c : Int} (h : NM wy u b40 c) (q : u.grownBy u' none) : NM wy u' b40 c := ⟨grown_trans h.g q, keep_blk q h.x40 (by simp), h.sc⟩
theorem NM.put {wy u u' : World} {b40 : Nat} {c y : Int} (h : NM wy u b40 c) (hb : wy.heap.size ≤ b40) (hy : Sm y) (hx : u'.heap[b40]? = some (.cells (ic y).toArray 25 (0, 0))) (q : u.grownBy u' (some b40)) : NM wy u' b40 y := ⟨grow_own h.g q (fun z hz => by simp at hz; omega), hx, hy⟩
theorem exec_gtr3 {a : Act} {o : Oper} {w : World} (x y : Operand) (ho : o.op = .binOp .gtr 3 x y 3) (p q : Int) (hx : a.eval x = .int .i64 p) (hy : a.eval y = .int .i64 q) : (execOp a.eval o).run Ybaf.prog w = .ok (.value (.bool (decide (q < p)))) w := by
  unfold execOp
  simp only [ho, hx, hy]
  simp [binOp, eqGuard, Result.andThen, go_sem, Ybaf.underlying3]
/-- One step of the law's own search for the nearest clockwise. -/
def mx (s : Int) (st : Bool × Int) (y : Int) : Bool × Int := if y ≠ s ∧ (st.1 = false ∨ D s y < D s st.2) then (true, y) else st
theorem fold_mx {s z : Int} {ids : List Int} (hz : ids[0]? = some z) (ho : Ord s ids) : ∀ (l : List Int) (st : Bool × Int), st.1 = true → D s st.2 ≤ D s z → l.foldl (nx s ids) st = l.foldl (mx s) st
  | [], _, _, _ => rfl
  | y :: l, st, h1, h2 => by
    rw [List.foldl_cons, List.foldl_cons]
    have e : nx s ids st y = mx s st y := by
      unfold nx mx cwB
      by_cases hy : y = s
      · simp [hy]
      · by_cases hk : rk s ids y = 0
        · simp [hy, hk]
        · have := (rk_get (x := y) ho 0 z hz).2 (by omega)
          simp [hy, hk, h1]
          omega
    rw [e]
    unfold mx
    split
    · rename_i hc
      refine fold_mx hz ho l _ rfl ?_
      rcases hc.2 with h | h
      · rw [h1] at h; simp at h
      · show D s y ≤ D s z
        omega
    · exact fold_mx hz ho l st h1 h2
theorem rk_nil (s x : Int) : rk s [] x = 0 := rfl
theorem near_mx {s : Int} {ids refs : List Int} (gd : Good s ids refs) (hr : refs ≠ []) : nearC s ids refs = ((ids ++ refs).foldl (mx s) (false, 0)).2 := by
  unfold nearC
  rw [if_neg hr]
  cases ids with
  | nil =>
    have e : nx s [] = mx s := by
      funext st y
      unfold nx mx cwB
      by_cases hy : y = s
      · simp [hy]
      · simp [hy, rk_nil]
    rw [e]
  | cons z zs =>
    have hz := (gd.mi z (List.mem_cons_self ..)).2
    have hk : rk s (z :: zs) z = 0 := by
      have := rk_get (x := z) gd.ord 0 z rfl
      rcases Nat.eq_zero_or_pos (rk s (z :: zs) z) with h | h
      · exact h
      · have := this.2 h
        omega
    rw [List.cons_append, List.foldl_cons, List.foldl_cons]
    have e1 : nx s (z :: zs) (false, 0) z = (true, z) := by simp [nx, cwB, hz, hk]
    have e2 : mx s (false, 0) z = (true, z) := by simp [mx, hz]
    rw [e1, e2]
    rw [fold_mx (z := z) rfl gd.ord (zs ++ refs) (true, z) rfl (Int.le_refl _)]

attribute [local irreducible] wpList in
set_option maxRecDepth 1000000 in
set_option maxHeartbeats 16000000 in
theorem tail53 (w wy wz : World) (s h : Int) (b17 p b33 : Nat) (vi0 vt0 vr0 vi vt vr : Value) (ids refs : List Int) (gd : Good s ids refs) (hh : 1 ≤ h) (hh4 : h ≤ 4) (m : MS w wy s h b17 p b33 vi0 vt0 vr0 vi vt vr ids refs) (b34 b35 b40 : Nat) (x al : Int) (g1 g2 : Bool) (hx : Sm x) (hal : Sm al) (x34 : wy.heap[b34]? = some (.cells (ic x).toArray 25 (0, 0))) (x35 : wy.heap[b35]? = some (.cells (ic al).toArray 25 (0, 0))) (h40 : wy.heap.size ≤ b40) (n0 : NM wy wz b40 0) (eg : Aside ((g1, g2) = alert s h ids refs x al)) (s0 s1 s2 s3 s4 s5 s6 s7 s8 s9 s10 s11 s12 s13 s14 s15 s16 s20 s21 s22 s23 s24 s26 s27 s28 s30 s31 s36 s41 s42 s43 s44 s45 s46 s47 s48 s49 s50 s51 s52 s53 s54 s55 s56 s57 s58 s59 s60 s61 s62 s63 s64 s65 s66 s67 s68 s69 s70 s71 s72 s73 s74 s75 s76 s77 s78 s79 s80 s81 s82 s83 s84 s85 s86 s87 s88 s89 s90 s91 s92 s93 s94 s95 s96 s97 s98 s99 s100 s101 s102 s103 s104 s105 s106 s107 s108 s109 s110 s111 s112 s113 s114 s115 s116 s117 s118 s119 s120 s121 s122 s123 s124 s125 s126 s127 s128 s129 s130 s131 s132 s133 s134 s135 s136 s137 s138 s139 s140 s141 s142 s143 s144 s145 s146 s147 s148 s149 s150 s151 s152 s153 s154 s155 s156 s157 s158 s159 s160 s161 s162 s163 s164 s165 s166 s167 s168 s169 s170 s171 s172 s173 s174 s175 s176 s177 s178 s179 s180 s181 s182 s183 s184 s185 s186 s187 s188 s189 s190 s191 s192 s193 s194 s195 s196 s197 s198 s199 s200 s201 s202 s203 s204 s205 s206 s207 s208 s209 s210 s211 s212 s213 s214 s215 s216 s217 s218 s219 s220 s221 s222 s223 s224 s225 s226 s227 s228 s229 s230 s231 s232 s233 s234 s235 s236 s237 s238 s239 s240 s241 s242 s243 s244 s245 s246 s247 s248 s249 s250 s251 s252 s253 s254 s255 s256 s257 s258 s259 s260 s261 s262 s263 s264 s265 s266 s267 s268 s269 s270 s271 s272 s273 s274 s275 s276 s277 s278 s279 s280 s281 s282 s283 s284 s285 s286 s287 s288 s289 s290 s291 s292 s293 s294 s295 s296 s297 s298 s299 s300 s301 s302 s303 s304 s305 s306 s307 s308 s309 s310 s311 s312 s313 s314 s315 s316 s317 s318 s319 s320 s321 s322 s323 s324 s325 s326 s327 s328 s329 s330 s331 s332 s333 s334 s335 s336 s337 s338 s339 s340 s341 s342 s343 s344 s345 s346 s347 s348 s349 s350 s351 s352 s353 s354 s355 s356 s357 s358 s359 s360 s361 s362 s363 s364 s365 s366 s367 s368 s369 s370 s371 s372 s373 s374 s375 s376 s377 s378 s379 s380 s381 s382 s383 s384 s385 s386 s387 s388 s389 s390 s391 s392 s393 s394 s395 s396 s397 s398 s399 s400 s401 s402 s403 s404 s405 s406 s407 : Value) : Code.wp Ybaf.prog (tailAt 53) (bodyPost Ybaf.prog Ybaf.f3 fun e w' => e = .returned (.bool true) ∧ w.grownBy w' none) ⟨[s0, s1, s2, s3, s4, s5, s6, s7, s8, s9, s10, s11, s12, s13, s14, s15, s16, .pointer (some ⟨b17, 0, none⟩), .int .i64 h, vi0, s20, s21, s22, s23, s24, vt0, s26, s27, s28, vr0, s30, s31, .pointer (some ⟨p, 0, none⟩), .pointer (some ⟨b33, 0, none⟩), .pointer (some ⟨b34, 0, none⟩), .pointer (some ⟨b35, 0, none⟩), s36, .bool g1, .bool g2, .bool false, .pointer (some ⟨b40, 0, none⟩), s41, s42, s43, s44, s45, s46, s47, s48, s49, s50, s51, s52, s53, s54, s55, s56, s57, s58, s59, s60, s61, s62, s63, s64, s65, s66, s67, s68, s69, s70, s71, s72, s73, s74, s75, s76, s77, s78, s79, s80, s81, s82, s83, s84, s85, s86, s87, s88, s89, s90, s91, s92, s93, s94, s95, s96, s97, s98, s99, s100, s101, s102, s103, s104, s105, s106, s107, s108, s109, s110, s111, s112, s113, s114, s115, s116, s117, s118, s119, s120, s121, s122, s123, s124, s125, s126, s127, s128, s129, s130, s131, s132, s133, s134, s135, s136, s137, s138, s139, s140, s141, s142, s143, s144, s145, s146, s147, s148, s149, s150, s151, s152, s153, s154, s155, s156, s157, s158, s159, s160, s161, s162, s163, s164, s165, s166, s167, s168, s169, s170, s171, s172, s173, s174, s175, s176, s177, s178, s179, s180, s181, s182, s183, s184, s185, s186, s187, s188, s189, s190, s191, s192, s193, s194, s195, s196, s197, s198, s199, s200, s201, s202, s203, s204, s205, s206, s207, s208, s209, s210, s211, s212, s213, s214, s215, s216, s217, s218, s219, s220, s221, s222, s223, s224, s225, s226, s227, s228, s229, s230, s231, s232, s233, s234, s235, s236, s237, s238, s239, s240, s241, s242, s243, s244, s245, s246, s247, s248, s249, s250, s251, s252, s253, s254, s255, s256, s257, s258, s259, s260, s261, s262, s263, s264, s265, s266, s267, s268, s269, s270, s271, s272, s273, s274, s275, s276, s277, s278, s279, s280, s281, s282, s283, s284, s285, s286, s287, s288, s289, s290, s291, s292, s293, s294, s295, s296, s297, s298, s299, s300, s301, s302, s303, s304, s305, s306, s307, s308, s309, s310, s311, s312, s313, s314, s315, s316, s317, s318, s319, s320, s321, s322, s323, s324, s325, s326, s327, s328, s329, s330, s331, s332, s333, s334, s335, s336, s337, s338, s339, s340, s341, s342, s343, s344, s345, s346, s347, s348, s349, s350, s351, s352, s353, s354, s355, s356, s357, s358, s359, s360, s361, s362, s363, s364, s365, s366, s367, s368, s369, s370, s371, s372, s373, s374, s375, s376, s377, s378, s379, s380, s381, s382, s383, s384, s385, s386, s387, s388, s389, s390, s391, s392, s393, s394, s395, s396, s397, s398, s399, s400, s401, s402, s403, s404, s405, s406, s407].toArray, []⟩ wz := by
  conv => arg 2; whnf
  obtain ⟨ti, hti, _, hts, _⟩ := info_parts info25
  obtain ⟨ai, ci, evi, fi⟩ := own_form m.oi
  obtain ⟨ar, cr, evr, fr⟩ := own_form m.orr
  subst evi evr
  have hli := gd.li
  have hlr := gd.lr
  refine wp_seq_k ?_
  intro K hK
  have HK : Hid _ := hK
  clear hK
  by_cases hr : refs.length = 0
  · have er : refs = [] := List.eq_nil_of_length_eq_zero hr
    have hrd : decide ((refs.length : Int) = 0) = true := by simp [hr]
    by_cases hi : ids.length = 0
    · have ei : ids = [] := List.eq_nil_of_length_eq_zero hi
      have hid : decide ((0 : Int) < (ids.length : Int)) = false := decide_eq_false (by omega)
      have z2 : Aside (false = nearOk ids refs) := by simp [Aside, nearOk, er, ei]
      clear er ei hr hi
      go_wp2_with (first
        | (refine wpList_is (.binOp .eql 3 (.tmp 246) (.const (.int .i64 0)) 3) rfl ?_; refine wpList_exec rfl (.bool true) (hrd ▸ exec_eql3 (.tmp 246) (.const (.int .i64 0)) rfl (refs.length : Int) 0 rfl rfl) ?_)
        | (refine wpList_is (.binOp .gtr 3 (.tmp 249) (.const (.int .i64 0)) 3) rfl ?_; refine wpList_exec rfl (.bool false) (hid ▸ exec_gtr3 (.tmp 249) (.const (.int .i64 0)) rfl (ids.length : Int) 0 rfl rfl) ?_))
      unfold Hid at HK
      refine HK _ _ ?_
      exact tail73 w wz s h b17 p b33 _ vt0 _ vi vt vr ids refs gd hh hh4 (m.kept n0.g) b34 b35 b40 x al 0 false g1 g2 hx hal n0.sc (keep_blk n0.g x34 (by simp)) (keep_blk n0.g x35 (by simp)) n0.x40 z2 (fun h => by simp at h) eg _ _ _ _ _ _ _ _ _ _ _ _ _ _ _ _ _ _ _ _ _ _ _ _ _ _ _ _ _ _ _ _ _ _ _ _ _ _ _ _ _ _ _ _ _ _ _ _ _ _ _ _ _ _ _ _ _ _ _ _ _ _ _ _ _ _ _ _ _ _ _ _ _ _ _ _ _ _ _ _ _ _ _ _ _ _ _ _ _ _ _ _ _ _ _ _ _ _ _ _ _ _ _ _ _ _ _ _ _ _ _ _ _ _ _ _ _ _ _ _ _ _ _ _ _ _ _ _ _ _ _ _ _ _ _ _ _ _ _ _ _ _ _ _ _ _ _ _ _ _ _ _ _ _ _ _ _ _ _ _ _ _ _ _ _ _ _ _ _ _ _ _ _ _ _ _ _ _ _ _ _ _ _ _ _ _ _ _ _ _ _ _ _ _ _ _ _ _ _ _ _ _ _ _ _ _ _ _ _ _ _ _ _ _ _ _ _ _ _ _ _ _ _ _ _ _ _ _ _ _ _ _ _ _ _ _ _ _ _ _ _ _ _ _ _ _ _ _ _ _ _ _ _ _ _ _ _ _ _ _ _ _ _ _ _ _ _ _ _ _ _ _ _ _ _ _ _ _ _ _ _ _ _ _ _ _ _ _ _ _ _ _ _ _ _ _ _ _ _ _ _ _ _ _ _ _ _ _ _ _ _ _ _ _ _ _ _ _ _ _ _ _ _ _ _ _ _ _ _ _ _ _ _ _ _ _ _ _ _ _ _ _ _ _ _ _ _ _ _ _ _ _ _ _ _ _ _ _ _ _ _ _ _ _ _ _ _ _ _ _ _ _ _ _ _ _ _ _ _ _ _ _ _ _ _ _ _ _ _ _ _ _ _ _ _
    · have hid : decide ((0 : Int) < (ids.length : Int)) = true := decide_eq_true (by omega)
      obtain ⟨gi, rfl⟩ := fi (by omega)
      obtain ⟨y0, hy0⟩ : ∃ y, ids[0]? = some y := ⟨_, List.getElem?_eq_getElem (by omega)⟩
      have hs0 := (gd.mi y0 (List.mem_of_getElem? hy0)).1
      have hi0 : 0 < ids.length := by omega
      have ry : wz.rangeAt gi (0 * 20) (ic y0) := own_ti (m.kept n0.g).oi hy0
      have z1 : Aside (y0 = nearC s ids refs) := by
        unfold Aside
        cases ids with
        | nil => simp at hi
        | cons a b => simp at hy0; simp [nearC, er, hy0]
      have z2 : Aside (true = nearOk ids refs) := by
        cases ids with
        | nil => simp at hi
        | cons a b => simp [Aside, nearOk, er]
      clear er hr hi
      go_wp2_with (first
        | (refine wpList_is (.binOp .eql 3 (.tmp 246) (.const (.int .i64 0)) 3) rfl ?_; refine wpList_exec rfl (.bool true) (hrd ▸ exec_eql3 (.tmp 246) (.const (.int .i64 0)) rfl (refs.length : Int) 0 rfl rfl) ?_)
        | (refine wpList_is (.binOp .gtr 3 (.tmp 249) (.const (.int .i64 0)) 3) rfl ?_; refine wpList_exec rfl (.bool true) (hid ▸ exec_gtr3 (.tmp 249) (.const (.int .i64 0)) rfl (ids.length : Int) 0 rfl rfl) ?_)
        | (refine wpList_is (.indexAddr 27 (.tmp 252) (.const (.int .i64 0))) rfl ?_; refine wpList_exec rfl (.pointer (some ⟨gi, 0 * 20, none⟩)) (exec_index (.tmp 252) (.const (.int .i64 0)) rfl Ybaf.underlying27 hti hts gi ids.length ci 0 hi0 rfl rfl) ?_)
        | (refine wpList_is (.load 25 (.tmp 253)) rfl ?_; refine wpList_load_mid rfl 25 (.tmp 253) rfl gi (0 * 20) rfl (ic y0) _ ry Ybaf.underlying25 rfl (size25 _) ?_)
        | (refine wpList_is (.store 25 (.tmp 40) (.tmp 254)) rfl ?_; refine wpList_store_blk rfl 25 (.tmp 40) (.tmp 254) rfl b40 (ic y0) rfl rfl _ _ n0.x40 rfl (size25 _) (ic_one _) ?_; intro u9 y9 q9; have n9 := n0.put h40 hs0 y9 q9; clear q9 y9))
      unfold Hid at HK
      refine HK _ _ ?_
      exact tail73 w u9 s h b17 p b33 _ vt0 _ vi vt vr ids refs gd hh hh4 (m.kept n9.g) b34 b35 b40 x al y0 true g1 g2 hx hal n9.sc (keep_blk n9.g x34 (by simp)) (keep_blk n9.g x35 (by simp)) n9.x40 z2 (fun _ => z1.out) eg _ _ _ _ _ _ _ _ _ _ _ _ _ _ _ _ _ _ _ _ _ _ _ _ _ _ _ _ _ _ _ _ _ _ _ _ _ _ _ _ _ _ _ _ _ _ _ _ _ _ _ _ _ _ _ _ _ _ _ _ _ _ _ _ _ _ _ _ _ _ _ _ _ _ _ _ _ _ _ _ _ _ _ _ _ _ _ _ _ _ _ _ _ _ _ _ _ _ _ _ _ _ _ _ _ _ _ _ _ _ _ _ _ _ _ _ _ _ _ _ _ _ _ _ _ _ _ _ _ _ _ _ _ _ _ _ _ _ _ _ _ _ _ _ _ _ _ _ _ _ _ _ _ _ _ _ _ _ _ _ _ _ _ _ _ _ _ _ _ _ _ _ _ _ _ _ _ _ _ _ _ _ _ _ _ _ _ _ _ _ _ _ _ _ _ _ _ _ _ _ _ _ _ _ _ _ _ _ _ _ _ _ _ _ _ _ _ _ _ _ _ _ _ _ _ _ _ _ _ _ _ _ _ _ _ _ _ _ _ _ _ _ _ _ _ _ _ _ _ _ _ _ _ _ _ _ _ _ _ _ _ _ _ _ _ _ _ _ _ _ _ _ _ _ _ _ _ _ _ _ _ _ _ _ _ _ _ _ _ _ _ _ _ _ _ _ _ _ _ _ _ _ _ _ _ _ _ _ _ _ _ _ _ _ _ _ _ _ _ _ _ _ _ _ _ _ _ _ _ _ _ _ _ _ _ _ _ _ _ _ _ _ _ _ _ _ _ _ _ _ _ _ _ _ _ _ _ _ _ _ _ _ _ _ _ _ _ _ _ _ _ _ _ _ _ _ _ _ _ _ _ _ _ _ _ _ _ _ _ _ _ _ _ _ _
  · have hrd : decide ((refs.length : Int) = 0) = false := decide_eq_false (by omega)
    have hrn : refs ≠ [] := by rintro rfl; exact hr rfl
    have z2 : Aside (true = nearOk ids refs) := by simp [Aside, nearOk, hrn]
    have z1 : Aside (nearC s ids refs = ((ids ++ refs).foldl (mx s) (false, 0)).2) := near_mx gd hrn
    clear hr hrn
    go_wp2_with (first
      | (refine wpList_is (.binOp .eql 3 (.tmp 246) (.const (.int .i64 0)) 3) rfl ?_; refine wpList_exec rfl (.bool false) (hrd ▸ exec_eql3 (.tmp 246) (.const (.int .i64 0)) rfl (refs.length : Int) 0 rfl rfl) ?_))
    obtain ⟨st0, est⟩ : ∃ st : Bool × Int, st = (false, 0) := ⟨_, rfl⟩
    obtain ⟨ys, eys⟩ : ∃ ys : List Int, ys = ids := ⟨_, rfl⟩
    have ow : wy.ownsRow 0 25 20 (.slice ai ids.length ci) ids.length (ids.flatMap ic) := m.oi
    have hmy : ∀ y ∈ ids, Sm y := (fun y hy => (gd.mi y hy).1)
    have hly : ids.length ≤ 4096 := gd.li
    have fy := fi
    rw [← eys] at ow hmy hly fy ⊢
    have ES : Aside (st0 = (false, 0)) := est
    have EY : Aside (ys = ids) := eys
    clear est eys
    go_loopg [41, 257] ys.length (fun g v41 vx wr => ∃ (i : Nat) (c : Int) (f : Bool), i + g = ys.length ∧ vx = .int .i64 i ∧ v41 = .bool f ∧ Aside ((f, c) = (ys.take i).foldl (mx s) st0) ∧ NM wy wr b40 c)
    case atStart => exact ⟨0, 0, false, by omega, rfl, rfl, by rw [ES.out]; rfl, n0⟩
    case round =>
      obtain ⟨i, c, f, hi, rfl, rfl, B, n5⟩ := hrel
      by_cases hin : i < ys.length
      · obtain ⟨y, hy⟩ : ∃ y, ys[i]? = some y := ⟨_, List.getElem?_eq_getElem hin⟩
        have hsy := hmy y (List.mem_of_getElem? hy)
        have hin' : (i : Int) < (ys.length : Int) := by omega
        obtain ⟨gi, rfl⟩ := fy (by omega)
        have ry : wr.rangeAt gi (i * 20) (ic y) := own_ti (own_kept ow n5.g (by simp)) hy
        have etk : ys.take (i + 1) = ys.take i ++ [y] := by rw [List.take_add_one, hy]; rfl
        by_cases hys : y = s
        · have hde : (!decide (nm (cf y) = nm (cf s))) = false := by simp [hys]
          have B2 : Aside ((f, c) = (ys.take (i + 1)).foldl (mx s) st0) := by unfold Aside; rw [etk, List.foldl_append, ← B.out]; simp [mx, hys]
          clear hys B etk
          go_wp2_with (first
            | (refine wpList_isD 259 (.indexAddr 27 (.tmp 255) (.tmp 257)) rfl rfl ?_; refine wpList_valG (by kernel_rfl) (.pointer (some ⟨gi, i * 20, none⟩)) (exec_index (.tmp 255) (.tmp 257) rfl Ybaf.underlying27 hti hts gi ys.length ci i hin (by kernel_rfl) (by kernel_rfl)) ?_; simp only [Act.put, List.setIfInBounds_toArray, List.set_cons_zero, List.set_cons_succ])
            | (refine wpList_isD 260 (.load 25 (.tmp 259)) rfl rfl ?_; refine wpList_valG (by kernel_rfl) (.agg (ic y).toArray) (exec_load_row 25 (.tmp 259) rfl gi (i * 20) (by kernel_rfl) (ic y) _ ry Ybaf.underlying25 rfl (size25 _)) ?_; simp only [Act.put, List.setIfInBounds_toArray, List.set_cons_zero, List.set_cons_succ])
            | (refine wpList_is (.alloc 25) rfl ?_; refine wpList_alloc25 rfl rfl ?_; simp only [Act.put, List.setIfInBounds_toArray, List.set_cons_zero, List.set_cons_succ])
            | (refine wpList_is (.store 25 (.tmp 43) (.tmp 260)) rfl ?_; refine wpList_store_blk rfl 25 (.tmp 43) (.tmp 260) rfl wr.heap.size (ic y) (by kernel_rfl) (by kernel_rfl) _ _ (heap_alloc_new wr _) rfl (size25 _) (ic_one _) ?_; intro u1 y1 q1; have k1 : wr.grownBy u1 none := grown_new q1; clear q1; simp only [Act.put, List.setIfInBounds_toArray, List.set_cons_zero, List.set_cons_succ])
            | (refine wpList_isD 261 (.load 25 (.tmp 43)) rfl rfl ?_; refine wpList_valG (by kernel_rfl) (.agg (ic y).toArray) (exec_load_row 25 (.tmp 43) rfl wr.heap.size 0 (by kernel_rfl) (ic y) _ (range_of_blk y1) Ybaf.underlying25 rfl (size25 _)) ?_; simp only [Act.put, List.setIfInBounds_toArray, List.set_cons_zero, List.set_cons_succ])
            | (refine wpList_isD 262 (.load 25 (.tmp 17)) rfl rfl ?_; refine wpList_valG (by kernel_rfl) (.agg (ic s).toArray) (exec_load_row 25 (.tmp 17) rfl b17 0 (by kernel_rfl) (ic s) _ (range_of_blk (keep_blk (grown_trans n5.g k1) m.x17 (by simp))) Ybaf.underlying25 rfl (size25 _)) ?_; simp only [Act.put, List.setIfInBounds_toArray, List.set_cons_zero, List.set_cons_succ])
            | (refine wpList_isD 263 (.binOp .neq 25 (.tmp 261) (.tmp 262) 25) rfl rfl ?_; refine wpList_valG (by kernel_rfl) (.bool false) (hde ▸ exec_neq25 (.tmp 261) (.tmp 262) rfl (p := cf y) (q := cf s) (byt_cf hsy) (byt_cf gd.sm) (by kernel_rfl) (by kernel_rfl)) ?_; simp only [Act.put, List.setIfInBounds_toArray, List.set_cons_zero, List.set_cons_succ])
            | (refine wpList_isD 264 (.move (.tmp 263)) rfl rfl ?_; refine wpList_valG (by kernel_rfl) (.bool false) (by kernel_rfl) ?_; simp only [Act.put, List.setIfInBounds_toArray, List.set_cons_zero, List.set_cons_succ])
            | (refine wpList_isD 265 (.move (.tmp 41)) rfl rfl ?_; refine wpList_skipG (by kernel_rfl) ?_; simp only [Act.put, List.setIfInBounds_toArray, List.set_cons_zero, List.set_cons_succ])
            | (refine wpList_isD 266 (.unOp .not 4 (.tmp 265)) rfl rfl ?_; refine wpList_skipG (by kernel_rfl) ?_; simp only [Act.put, List.setIfInBounds_toArray, List.set_cons_zero, List.set_cons_succ])
            | (refine wpList_isD 267 (.move (.tmp 266)) rfl rfl ?_; refine wpList_skipG (by kernel_rfl) ?_; simp only [Act.put, List.setIfInBounds_toArray, List.set_cons_zero, List.set_cons_succ])
            | (refine wpList_isD 268 (.load 25 (.tmp 43)) rfl rfl ?_; refine wpList_skipG (by kernel_rfl) ?_; simp only [Act.put, List.setIfInBounds_toArray, List.set_cons_zero, List.set_cons_succ])
            | (refine wpList_isD 269 (.load 25 (.tmp 40)) rfl rfl ?_; refine wpList_skipG (by kernel_rfl) ?_; simp only [Act.put, List.setIfInBounds_toArray, List.set_cons_zero, List.set_cons_succ])
            | (refine wpList_isD 270 (.load 25 (.tmp 17)) rfl rfl ?_; refine wpList_skipG (by kernel_rfl) ?_; simp only [Act.put, List.setIfInBounds_toArray, List.set_cons_zero, List.set_cons_succ])
            | (refine wpList_isD 271 (.call { callee := .value (.func 6), args := #[.tmp 268, .tmp 269, .tmp 270], argTypes := #[25, 25, 25] }) rfl rfl ?_; refine wpList_skipG (by kernel_rfl) ?_; simp only [Act.put, List.setIfInBounds_toArray, List.set_cons_zero, List.set_cons_succ])
            | (refine wpList_isD 272 (.pick (.tmp 267) (.const (.bool true)) (.tmp 271)) rfl rfl ?_; refine wpList_skipG (by kernel_rfl) ?_; simp only [Act.put, List.setIfInBounds_toArray, List.set_cons_zero, List.set_cons_succ])
            | (refine wpList_isD 273 (.pick (.tmp 264) (.tmp 272) (.const (.bool false))) rfl rfl ?_; refine wpList_valG (by kernel_rfl) (.bool false) (by kernel_rfl) ?_; simp only [Act.put, List.setIfInBounds_toArray, List.set_cons_zero, List.set_cons_succ]))
          go_roundg (ys.length - (i + 1))
          case measure => omega
          case rel => exact ⟨i + 1, c, f, by omega, by go_num, rfl, B2.out, n5.kept k1⟩
        · have hde : (!decide (nm (cf y) = nm (cf s))) = true := by simp [nm_cf hsy gd.sm, hys]
          cases f with
          | false =>
            have B2 : Aside ((true, y) = (ys.take (i + 1)).foldl (mx s) st0) := by unfold Aside; rw [etk, List.foldl_append, ← B.out]; simp [mx, hys]
            clear hys B etk
            go_upto_region 63 with (first
              | (refine wpList_isD 259 (.indexAddr 27 (.tmp 255) (.tmp 257)) rfl rfl ?_; refine wpList_valG (by kernel_rfl) (.pointer (some ⟨gi, i * 20, none⟩)) (exec_index (.tmp 255) (.tmp 257) rfl Ybaf.underlying27 hti hts gi ys.length ci i hin (by kernel_rfl) (by kernel_rfl)) ?_; simp only [Act.put, List.setIfInBounds_toArray, List.set_cons_zero, List.set_cons_succ])
              | (refine wpList_isD 260 (.load 25 (.tmp 259)) rfl rfl ?_; refine wpList_valG (by kernel_rfl) (.agg (ic y).toArray) (exec_load_row 25 (.tmp 259) rfl gi (i * 20) (by kernel_rfl) (ic y) _ ry Ybaf.underlying25 rfl (size25 _)) ?_; simp only [Act.put, List.setIfInBounds_toArray, List.set_cons_zero, List.set_cons_succ])
              | (refine wpList_is (.alloc 25) rfl ?_; refine wpList_alloc25 rfl rfl ?_; simp only [Act.put, List.setIfInBounds_toArray, List.set_cons_zero, List.set_cons_succ])
              | (refine wpList_is (.store 25 (.tmp 43) (.tmp 260)) rfl ?_; refine wpList_store_blk rfl 25 (.tmp 43) (.tmp 260) rfl wr.heap.size (ic y) (by kernel_rfl) (by kernel_rfl) _ _ (heap_alloc_new wr _) rfl (size25 _) (ic_one _) ?_; intro u1 y1 q1; have k1 : wr.grownBy u1 none := grown_new q1; clear q1; simp only [Act.put, List.setIfInBounds_toArray, List.set_cons_zero, List.set_cons_succ])
              | (refine wpList_isD 261 (.load 25 (.tmp 43)) rfl rfl ?_; refine wpList_valG (by kernel_rfl) (.agg (ic y).toArray) (exec_load_row 25 (.tmp 43) rfl wr.heap.size 0 (by kernel_rfl) (ic y) _ (range_of_blk y1) Ybaf.underlying25 rfl (size25 _)) ?_; simp only [Act.put, List.setIfInBounds_toArray, List.set_cons_zero, List.set_cons_succ])
              | (refine wpList_isD 262 (.load 25 (.tmp 17)) rfl rfl ?_; refine wpList_valG (by kernel_rfl) (.agg (ic s).toArray) (exec_load_row 25 (.tmp 17) rfl b17 0 (by kernel_rfl) (ic s) _ (range_of_blk (keep_blk (grown_trans n5.g k1) m.x17 (by simp))) Ybaf.underlying25 rfl (size25 _)) ?_; simp only [Act.put, List.setIfInBounds_toArray, List.set_cons_zero, List.set_cons_succ])
              | (refine wpList_isD 263 (.binOp .neq 25 (.tmp 261) (.tmp 262) 25) rfl rfl ?_; refine wpList_valG (by kernel_rfl) (.bool true) (hde ▸ exec_neq25 (.tmp 261) (.tmp 262) rfl (p := cf y) (q := cf s) (byt_cf hsy) (byt_cf gd.sm) (by kernel_rfl) (by kernel_rfl)) ?_; simp only [Act.put, List.setIfInBounds_toArray, List.set_cons_zero, List.set_cons_succ])
              | (refine wpList_isD 264 (.move (.tmp 263)) rfl rfl ?_; refine wpList_valG (by kernel_rfl) (.bool true) (by kernel_rfl) ?_; simp only [Act.put, List.setIfInBounds_toArray, List.set_cons_zero, List.set_cons_succ])
              | (refine wpList_isD 265 (.move (.tmp 41)) rfl rfl ?_; refine wpList_valG (by kernel_rfl) (.bool false) (by kernel_rfl) ?_; simp only [Act.put, List.setIfInBounds_toArray, List.set_cons_zero, List.set_cons_succ])
              | (refine wpList_isD 266 (.unOp .not 4 (.tmp 265)) rfl rfl ?_; refine wpList_valG (by kernel_rfl) (.bool true) (by kernel_rfl) ?_; simp only [Act.put, List.setIfInBounds_toArray, List.set_cons_zero, List.set_cons_succ])
              | (refine wpList_isD 267 (.move (.tmp 266)) rfl rfl ?_; refine wpList_valG (by kernel_rfl) (.bool true) (by kernel_rfl) ?_; simp only [Act.put, List.setIfInBounds_toArray, List.set_cons_zero, List.set_cons_succ])
              | (refine wpList_isD 268 (.load 25 (.tmp 43)) rfl rfl ?_; refine wpList_skipG (by kernel_rfl) ?_; simp only [Act.put, List.setIfInBounds_toArray, List.set_cons_zero, List.set_cons_succ])
              | (refine wpList_isD 269 (.load 25 (.tmp 40)) rfl rfl ?_; refine wpList_skipG (by kernel_rfl) ?_; simp only [Act.put, List.setIfInBounds_toArray, List.set_cons_zero, List.set_cons_succ])
              | (refine wpList_isD 270 (.load 25 (.tmp 17)) rfl rfl ?_; refine wpList_skipG (by kernel_rfl) ?_; simp only [Act.put, List.setIfInBounds_toArray, List.set_cons_zero, List.set_cons_succ])
              | (refine wpList_isD 271 (.call { callee := .value (.func 6), args := #[.tmp 268, .tmp 269, .tmp 270], argTypes := #[25, 25, 25] }) rfl rfl ?_; refine wpList_skipG (by kernel_rfl) ?_; simp only [Act.put, List.setIfInBounds_toArray, List.set_cons_zero, List.set_cons_succ])
              | (refine wpList_isD 272 (.pick (.tmp 267) (.const (.bool true)) (.tmp 271)) rfl rfl ?_; refine wpList_valG (by kernel_rfl) (.bool true) (by kernel_rfl) ?_; simp only [Act.put, List.setIfInBounds_toArray, List.set_cons_zero, List.set_cons_succ])
              | (refine wpList_isD 273 (.pick (.tmp 264) (.tmp 272) (.const (.bool false))) rfl rfl ?_; refine wpList_valG (by kernel_rfl) (.bool true) (by kernel_rfl) ?_; simp only [Act.put, List.setIfInBounds_toArray, List.set_cons_zero, List.set_cons_succ]))
            have m1 := n5.kept k1
            obtain ⟨yb, eyb⟩ : ∃ b, b = wr.heap.size := ⟨_, rfl⟩
            rw [← eyb] at y1 ⊢
            clear eyb n5 k1
            go_wp2_with (first
              | (refine wpList_isD 274 (.load 25 (.tmp 43)) rfl rfl ?_; refine wpList_valG (by kernel_rfl) (.agg (ic y).toArray) (exec_load_row 25 (.tmp 43) rfl yb 0 (by kernel_rfl) (ic y) _ (range_of_blk y1) Ybaf.underlying25 rfl (size25 _)) ?_; simp only [Act.put, List.setIfInBounds_toArray, List.set_cons_zero, List.set_cons_succ])
              | (refine wpList_is (.store 25 (.tmp 40) (.tmp 274)) rfl ?_; refine wpList_store_blk rfl 25 (.tmp 40) (.tmp 274) rfl b40 (ic y) (by kernel_rfl) (by kernel_rfl) _ _ m1.x40 rfl (size25 _) (ic_one _) ?_; intro u9 y9 q9; have n9 := m1.put h40 hsy y9 q9; clear q9 y9; simp only [Act.put, List.setIfInBounds_toArray, List.set_cons_zero, List.set_cons_succ]))
            go_roundg (ys.length - (i + 1))
            case measure => omega
            case rel => exact ⟨i + 1, y, true, by omega, by go_num, rfl, B2.out, n9⟩
          | true =>
            by_cases hlt : D s y < D s c
            · have B2 : Aside ((true, y) = (ys.take (i + 1)).foldl (mx s) st0) := by unfold Aside; rw [etk, List.foldl_append, ← B.out]; simp [mx, hys, hlt]
              have hld : decide (ds (cf s) (cf y) < ds (cf s) (cf c)) = true := decide_eq_true hlt
              clear hys B etk hlt
              go_wp2_with (first
                | (refine wpList_isD 259 (.indexAddr 27 (.tmp 255) (.tmp 257)) rfl rfl ?_; refine wpList_valG (by kernel_rfl) (.pointer (some ⟨gi, i * 20, none⟩)) (exec_index (.tmp 255) (.tmp 257) rfl Ybaf.underlying27 hti hts gi ys.length ci i hin (by kernel_rfl) (by kernel_rfl)) ?_; simp only [Act.put, List.setIfInBounds_toArray, List.set_cons_zero, List.set_cons_succ])
                | (refine wpList_isD 260 (.load 25 (.tmp 259)) rfl rfl ?_; refine wpList_valG (by kernel_rfl) (.agg (ic y).toArray) (exec_load_row 25 (.tmp 259) rfl gi (i * 20) (by kernel_rfl) (ic y) _ ry Ybaf.underlying25 rfl (size25 _)) ?_; simp only [Act.put, List.setIfInBounds_toArray, List.set_cons_zero, List.set_cons_succ])
                | (refine wpList_is (.alloc 25) rfl ?_; refine wpList_alloc25 rfl rfl ?_; simp only [Act.put, List.setIfInBounds_toArray, List.set_cons_zero, List.set_cons_succ])
                | (refine wpList_is (.store 25 (.tmp 43) (.tmp 260)) rfl ?_; refine wpList_store_blk rfl 25 (.tmp 43) (.tmp 260) rfl wr.heap.size (ic y) (by kernel_rfl) (by kernel_rfl) _ _ (heap_alloc_new wr _) rfl (size25 _) (ic_one _) ?_; intro u1 y1 q1; have k1 : wr.grownBy u1 none := grown_new q1; clear q1; simp only [Act.put, List.setIfInBounds_toArray, List.set_cons_zero, List.set_cons_succ])
                | (refine wpList_isD 261 (.load 25 (.tmp 43)) rfl rfl ?_; refine wpList_valG (by kernel_rfl) (.agg (ic y).toArray) (exec_load_row 25 (.tmp 43) rfl wr.heap.size 0 (by kernel_rfl) (ic y) _ (range_of_blk y1) Ybaf.underlying25 rfl (size25 _)) ?_; simp only [Act.put, List.setIfInBounds_toArray, List.set_cons_zero, List.set_cons_succ])
                | (refine wpList_isD 262 (.load 25 (.tmp 17)) rfl rfl ?_; refine wpList_valG (by kernel_rfl) (.agg (ic s).toArray) (exec_load_row 25 (.tmp 17) rfl b17 0 (by kernel_rfl) (ic s) _ (range_of_blk (keep_blk (grown_trans n5.g k1) m.x17 (by simp))) Ybaf.underlying25 rfl (size25 _)) ?_; simp only [Act.put, List.setIfInBounds_toArray, List.set_cons_zero, List.set_cons_succ])
                | (refine wpList_isD 263 (.binOp .neq 25 (.tmp 261) (.tmp 262) 25) rfl rfl ?_; refine wpList_valG (by kernel_rfl) (.bool true) (hde ▸ exec_neq25 (.tmp 261) (.tmp 262) rfl (p := cf y) (q := cf s) (byt_cf hsy) (byt_cf gd.sm) (by kernel_rfl) (by kernel_rfl)) ?_; simp only [Act.put, List.setIfInBounds_toArray, List.set_cons_zero, List.set_cons_succ])
                | (refine wpList_isD 264 (.move (.tmp 263)) rfl rfl ?_; refine wpList_valG (by kernel_rfl) (.bool true) (by kernel_rfl) ?_; simp only [Act.put, List.setIfInBounds_toArray, List.set_cons_zero, List.set_cons_succ])
                | (refine wpList_isD 265 (.move (.tmp 41)) rfl rfl ?_; refine wpList_valG (by kernel_rfl) (.bool true) (by kernel_rfl) ?_; simp only [Act.put, List.setIfInBounds_toArray, List.set_cons_zero, List.set_cons_succ])
                | (refine wpList_isD 266 (.unOp .not 4 (.tmp 265)) rfl rfl ?_; refine wpList_valG (by kernel_rfl) (.bool false) (by kernel_rfl) ?_; simp only [Act.put, List.setIfInBounds_toArray, List.set_cons_zero, List.set_cons_succ])
                | (refine wpList_isD 267 (.move (.tmp 266)) rfl rfl ?_; refine wpList_valG (by kernel_rfl) (.bool false) (by kernel_rfl) ?_; simp only [Act.put, List.setIfInBounds_toArray, List.set_cons_zero, List.set_cons_succ])
                | (refine wpList_isD 268 (.load 25 (.tmp 43)) rfl rfl ?_; refine wpList_valG (by kernel_rfl) (.agg (ic y).toArray) (exec_load_row 25 (.tmp 43) rfl wr.heap.size 0 (by kernel_rfl) (ic y) _ (range_of_blk y1) Ybaf.underlying25 rfl (size25 _)) ?_; simp only [Act.put, List.setIfInBounds_toArray, List.set_cons_zero, List.set_cons_succ])
                | (refine wpList_isD 269 (.load 25 (.tmp 40)) rfl rfl ?_; refine wpList_valG (by kernel_rfl) (.agg (ic c).toArray) (exec_load_row 25 (.tmp 40) rfl b40 0 (by kernel_rfl) (ic c) _ (range_of_blk (n5.kept k1).x40) Ybaf.underlying25 rfl (size25 _)) ?_; simp only [Act.put, List.setIfInBounds_toArray, List.set_cons_zero, List.set_cons_succ])
                | (refine wpList_isD 270 (.load 25 (.tmp 17)) rfl rfl ?_; refine wpList_valG (by kernel_rfl) (.agg (ic s).toArray) (exec_load_row 25 (.tmp 17) rfl b17 0 (by kernel_rfl) (ic s) _ (range_of_blk (keep_blk (grown_trans n5.g k1) m.x17 (by simp))) Ybaf.underlying25 rfl (size25 _)) ?_; simp only [Act.put, List.setIfInBounds_toArray, List.set_cons_zero, List.set_cons_succ])
                | (refine wpList_is (.call { callee := .value (.func 6), args := #[.tmp 268, .tmp 269, .tmp 270], argTypes := #[25, 25, 25] }) rfl ?_; refine wpList_callG (by kernel_rfl) 6 #[.agg (ic y).toArray, .agg (ic c).toArray, .agg (ic s).toArray] (by kernel_rfl) ?_))
              refine (less_any (byt_cf hsy) (byt_cf n5.sc) (byt_cf gd.sm) _).mono ?_
              rintro e u2 ⟨rfl, q2⟩
              refine ⟨_, rfl, ?_⟩
              rw [hld]
              try simp only [Act.put, List.setIfInBounds_toArray, List.set_cons_zero, List.set_cons_succ]
              clear hld
              go_upto_region 63 with (first
                | (refine wpList_isD 272 (.pick (.tmp 267) (.const (.bool true)) (.tmp 271)) rfl rfl ?_; refine wpList_valG (by kernel_rfl) (.bool true) (by kernel_rfl) ?_; simp only [Act.put, List.setIfInBounds_toArray, List.set_cons_zero, List.set_cons_succ])
                | (refine wpList_isD 273 (.pick (.tmp 264) (.tmp 272) (.const (.bool false))) rfl rfl ?_; refine wpList_valG (by kernel_rfl) (.bool true) (by kernel_rfl) ?_; simp only [Act.put, List.setIfInBounds_toArray, List.set_cons_zero, List.set_cons_succ]))
              have m1 := n5.kept (grown_trans k1 q2)
              have y2 := keep_blk q2 y1 (by simp)
              obtain ⟨yb, eyb⟩ : ∃ b, b = wr.heap.size := ⟨_, rfl⟩
              rw [← eyb] at y2 ⊢
              clear eyb n5 k1 y1 q2
              go_wp2_with (first
                | (refine wpList_isD 274 (.load 25 (.tmp 43)) rfl rfl ?_; refine wpList_valG (by kernel_rfl) (.agg (ic y).toArray) (exec_load_row 25 (.tmp 43) rfl yb 0 (by kernel_rfl) (ic y) _ (range_of_blk y2) Ybaf.underlying25 rfl (size25 _)) ?_; simp only [Act.put, List.setIfInBounds_toArray, List.set_cons_zero, List.set_cons_succ])
                | (refine wpList_is (.store 25 (.tmp 40) (.tmp 274)) rfl ?_; refine wpList_store_blk rfl 25 (.tmp 40) (.tmp 274) rfl b40 (ic y) (by kernel_rfl) (by kernel_rfl) _ _ m1.x40 rfl (size25 _) (ic_one _) ?_; intro u9 y9 q9; have n9 := m1.put h40 hsy y9 q9; clear q9 y9; simp only [Act.put, List.setIfInBounds_toArray, List.set_cons_zero, List.set_cons_succ]))
              go_roundg (ys.length - (i + 1))
              case measure => omega
              case rel => exact ⟨i + 1, y, true, by omega, by go_num, rfl, B2.out, n9⟩
            · have B2 : Aside ((true, c) = (ys.take (i + 1)).foldl (mx s) st0) := by unfold Aside; rw [etk, List.foldl_append, ← B.out]; simp [mx]; intro _; omega
              have hld : decide (ds (cf s) (cf y) < ds (cf s) (cf c)) = false := decide_eq_false hlt
              clear hys B etk hlt
              go_wp2_with (first
                | (refine wpList_isD 259 (.indexAddr 27 (.tmp 255) (.tmp 257)) rfl rfl ?_; refine wpList_valG (by kernel_rfl) (.pointer (some ⟨gi, i * 20, none⟩)) (exec_index (.tmp 255) (.tmp 257) rfl Ybaf.underlying27 hti hts gi ys.length ci i hin (by kernel_rfl) (by kernel_rfl)) ?_; simp only [Act.put, List.setIfInBounds_toArray, List.set_cons_zero, List.set_cons_succ])
                | (refine wpList_isD 260 (.load 25 (.tmp 259)) rfl rfl ?_; refine wpList_valG (by kernel_rfl) (.agg (ic y).toArray) (exec_load_row 25 (.tmp 259) rfl gi (i * 20) (by kernel_rfl) (ic y) _ ry Ybaf.underlying25 rfl (size25 _)) ?_; simp only [Act.put, List.setIfInBounds_toArray, List.set_cons_zero, List.set_cons_succ])
                | (refine wpList_is (.alloc 25) rfl ?_; refine wpList_alloc25 rfl rfl ?_; simp only [Act.put, List.setIfInBounds_toArray, List.set_cons_zero, List.set_cons_succ])
                | (refine wpList_is (.store 25 (.tmp 43) (.tmp 260)) rfl ?_; refine wpList_store_blk rfl 25 (.tmp 43) (.tmp 260) rfl wr.heap.size (ic y) (by kernel_rfl) (by kernel_rfl) _ _ (heap_alloc_new wr _) rfl (size25 _) (ic_one _) ?_; intro u1 y1 q1; have k1 : wr.grownBy u1 none := grown_new q1; clear q1; simp only [Act.put, List.setIfInBounds_toArray, List.set_cons_zero, List.set_cons_succ])
                | (refine wpList_isD 261 (.load 25 (.tmp 43)) rfl rfl ?_; refine wpList_valG (by kernel_rfl) (.agg (ic y).toArray) (exec_load_row 25 (.tmp 43) rfl wr.heap.size 0 (by kernel_rfl) (ic y) _ (range_of_blk y1) Ybaf.underlying25 rfl (size25 _)) ?_; simp only [Act.put, List.setIfInBounds_toArray, List.set_cons_zero, List.set_cons_succ])
                | (refine wpList_isD 262 (.load 25 (.tmp 17)) rfl rfl ?_; refine wpList_valG (by kernel_rfl) (.agg (ic s).toArray) (exec_load_row 25 (.tmp 17) rfl b17 0 (by kernel_rfl) (ic s) _ (range_of_blk (keep_blk (grown_trans n5.g k1) m.x17 (by simp))) Ybaf.underlying25 rfl (size25 _)) ?_; simp only [Act.put, List.setIfInBounds_toArray, List.set_cons_zero, List.set_cons_succ])
                | (refine wpList_isD 263 (.binOp .neq 25 (.tmp 261) (.tmp 262) 25) rfl rfl ?_; refine wpList_valG (by kernel_rfl) (.bool true) (hde ▸ exec_neq25 (.tmp 261) (.tmp 262) rfl (p := cf y) (q := cf s) (byt_cf hsy) (byt_cf gd.sm) (by kernel_rfl) (by kernel_rfl)) ?_; simp only [Act.put, List.setIfInBounds_toArray, List.set_cons_zero, List.set_cons_succ])
                | (refine wpList_isD 264 (.move (.tmp 263)) rfl rfl ?_; refine wpList_valG (by kernel_rfl) (.bool true) (by kernel_rfl) ?_; simp only [Act.put, List.setIfInBounds_toArray, List.set_cons_zero, List.set_cons_succ])
                | (refine wpList_isD 265 (.move (.tmp 41)) rfl rfl ?_; refine wpList_valG (by kernel_rfl) (.bool true) (by kernel_rfl) ?_; simp only [Act.put, List.setIfInBounds_toArray, List.set_cons_zero, List.set_cons_succ])
                | (refine wpList_isD 266 (.unOp .not 4 (.tmp 265)) rfl rfl ?_; refine wpList_valG (by kernel_rfl) (.bool false) (by kernel_rfl) ?_; simp only [Act.put, List.setIfInBounds_toArray, List.set_cons_zero, List.set_cons_succ])
                | (refine wpList_isD 267 (.move (.tmp 266)) rfl rfl ?_; refine wpList_valG (by kernel_rfl) (.bool false) (by kernel_rfl) ?_; simp only [Act.put, List.setIfInBounds_toArray, List.set_cons_zero, List.set_cons_succ])
                | (refine wpList_isD 268 (.load 25 (.tmp 43)) rfl rfl ?_; refine wpList_valG (by kernel_rfl) (.agg (ic y).toArray) (exec_load_row 25 (.tmp 43) rfl wr.heap.size 0 (by kernel_rfl) (ic y) _ (range_of_blk y1) Ybaf.underlying25 rfl (size25 _)) ?_; simp only [Act.put, List.setIfInBounds_toArray, List.set_cons_zero, List.set_cons_succ])
                | (refine wpList_isD 269 (.load 25 (.tmp 40)) rfl rfl ?_; refine wpList_valG (by kernel_rfl) (.agg (ic c).toArray) (exec_load_row 25 (.tmp 40) rfl b40 0 (by kernel_rfl) (ic c) _ (range_of_blk (n5.kept k1).x40) Ybaf.underlying25 rfl (size25 _)) ?_; simp only [Act.put, List.setIfInBounds_toArray, List.set_cons_zero, List.set_cons_succ])
                | (refine wpList_isD 270 (.load 25 (.tmp 17)) rfl rfl ?_; refine wpList_valG (by kernel_rfl) (.agg (ic s).toArray) (exec_load_row 25 (.tmp 17) rfl b17 0 (by kernel_rfl) (ic s) _ (range_of_blk (keep_blk (grown_trans n5.g k1) m.x17 (by simp))) Ybaf.underlying25 rfl (size25 _)) ?_; simp only [Act.put, List.setIfInBounds_toArray, List.set_cons_zero, List.set_cons_succ])
                | (refine wpList_is (.call { callee := .value (.func 6), args := #[.tmp 268, .tmp 269, .tmp 270], argTypes := #[25, 25, 25] }) rfl ?_; refine wpList_callG (by kernel_rfl) 6 #[.agg (ic y).toArray, .agg (ic c).toArray, .agg (ic s).toArray] (by kernel_rfl) ?_))
              refine (less_any (byt_cf hsy) (byt_cf n5.sc) (byt_cf gd.sm) _).mono ?_
              rintro e u2 ⟨rfl, q2⟩
              refine ⟨_, rfl, ?_⟩
              rw [hld]
              try simp only [Act.put, List.setIfInBounds_toArray, List.set_cons_zero, List.set_cons_succ]
              clear hld
              go_wp2_with (first
                | (refine wpList_isD 272 (.pick (.tmp 267) (.const (.bool true)) (.tmp 271)) rfl rfl ?_; refine wpList_valG (by kernel_rfl) (.bool false) (by kernel_rfl) ?_; simp only [Act.put, List.setIfInBounds_toArray, List.set_cons_zero, List.set_cons_succ])
                | (refine wpList_isD 273 (.pick (.tmp 264) (.tmp 272) (.const (.bool false))) rfl rfl ?_; refine wpList_valG (by kernel_rfl) (.bool false) (by kernel_rfl) ?_; simp only [Act.put, List.setIfInBounds_toArray, List.set_cons_zero, List.set_cons_succ]))
              go_roundg (ys.length - (i + 1))
              case measure => omega
              case rel => exact ⟨i + 1, c, true, by omega, by go_num, rfl, B2.out, n5.kept (grown_trans k1 q2)⟩
      · have ei : i = ys.length := by omega
        subst ei
        have B2 : Aside ((f, c) = ids.foldl (mx s) (false, 0)) := by unfold Aside; rw [B.out, List.take_length, ES.out, EY.out]
        have ey := EY.out.symm
        clear B hmy hly fy ES ow EY
        subst ey
        go_wp2_with fail
        obtain ⟨st0, est⟩ : ∃ st : Bool × Int, st = (f, c) := ⟨_, rfl⟩
        obtain ⟨ys, eys⟩ : ∃ ys : List Int, ys = refs := ⟨_, rfl⟩
        have ow : wy.ownsRow 0 25 20 (.slice ar refs.length cr) refs.length (refs.flatMap ic) := m.orr
        have hmy : ∀ y ∈ refs, Sm y := gd.mr
        have hly : refs.length ≤ 4096 := gd.lr
        have fy := fr
        rw [← eys] at ow hmy hly fy ⊢
        have ES : Aside (st0 = (f, c)) := est
        have EY : Aside (ys = refs) := eys
        clear est eys
        go_loopg [41, 278] ys.length (fun g v41 vx wr => ∃ (i : Nat) (c : Int) (f : Bool), i + g = ys.length ∧ vx = .int .i64 i ∧ v41 = .bool f ∧ Aside ((f, c) = (ys.take i).foldl (mx s) st0) ∧ NM wy wr b40 c)
        case atStart => exact ⟨0, c, f, by omega, rfl, rfl, by rw [ES.out]; rfl, n5⟩
        case round =>
          obtain ⟨i, c2, f2, hi, rfl, rfl, B, n6⟩ := hrel
          by_cases hin : i < ys.length
          · obtain ⟨y, hy⟩ : ∃ y, ys[i]? = some y := ⟨_, List.getElem?_eq_getElem hin⟩
            have hsy := hmy y (List.mem_of_getElem? hy)
            have hin' : (i : Int) < (ys.length : Int) := by omega
            obtain ⟨gi, rfl⟩ := fy (by omega)
            have ry : wr.rangeAt gi (i * 20) (ic y) := own_ti (own_kept ow n6.g (by simp)) hy
            have etk : ys.take (i + 1) = ys.take i ++ [y] := by rw [List.take_add_one, hy]; rfl
            by_cases hys : y = s
            · have hde : (!decide (nm (cf y) = nm (cf s))) = false := by simp [hys]
              have B2 : Aside ((f2, c2) = (ys.take (i + 1)).foldl (mx s) st0) := by unfold Aside; rw [etk, List.foldl_append, ← B.out]; simp [mx, hys]
              clear hys B etk
              go_wp2_with (first
                | (refine wpList_isD 280 (.indexAddr 27 (.tmp 276) (.tmp 278)) rfl rfl ?_; refine wpList_valG (by kernel_rfl) (.pointer (some ⟨gi, i * 20, none⟩)) (exec_index (.tmp 276) (.tmp 278) rfl Ybaf.underlying27 hti hts gi ys.length cr i hin (by kernel_rfl) (by kernel_rfl)) ?_; simp only [Act.put, List.setIfInBounds_toArray, List.set_cons_zero, List.set_cons_succ])
                | (refine wpList_isD 281 (.load 25 (.tmp 280)) rfl rfl ?_; refine wpList_valG (by kernel_rfl) (.agg (ic y).toArray) (exec_load_row 25 (.tmp 280) rfl gi (i * 20) (by kernel_rfl) (ic y) _ ry Ybaf.underlying25 rfl (size25 _)) ?_; simp only [Act.put, List.setIfInBounds_toArray, List.set_cons_zero, List.set_cons_succ])
                | (refine wpList_is (.alloc 25) rfl ?_; refine wpList_alloc25 rfl rfl ?_; simp only [Act.put, List.setIfInBounds_toArray, List.set_cons_zero, List.set_cons_succ])
                | (refine wpList_is (.store 25 (.tmp 45) (.tmp 281)) rfl ?_; refine wpList_store_blk rfl 25 (.tmp 45) (.tmp 281) rfl wr.heap.size (ic y) (by kernel_rfl) (by kernel_rfl) _ _ (heap_alloc_new wr _) rfl (size25 _) (ic_one _) ?_; intro u1 y1 q1; have k1 : wr.grownBy u1 none := grown_new q1; clear q1; simp only [Act.put, List.setIfInBounds_toArray, List.set_cons_zero, List.set_cons_succ])
                | (refine wpList_isD 282 (.load 25 (.tmp 45)) rfl rfl ?_; refine wpList_valG (by kernel_rfl) (.agg (ic y).toArray) (exec_load_row 25 (.tmp 45) rfl wr.heap.size 0 (by kernel_rfl) (ic y) _ (range_of_blk y1) Ybaf.underlying25 rfl (size25 _)) ?_; simp only [Act.put, List.setIfInBounds_toArray, List.set_cons_zero, List.set_cons_succ])
                | (refine wpList_isD 283 (.load 25 (.tmp 17)) rfl rfl ?_; refine wpList_valG (by kernel_rfl) (.agg (ic s).toArray) (exec_load_row 25 (.tmp 17) rfl b17 0 (by kernel_rfl) (ic s) _ (range_of_blk (keep_blk (grown_trans n6.g k1) m.x17 (by simp))) Ybaf.underlying25 rfl (size25 _)) ?_; simp only [Act.put, List.setIfInBounds_toArray, List.set_cons_zero, List.set_cons_succ])
                | (refine wpList_isD 284 (.binOp .neq 25 (.tmp 282) (.tmp 283) 25) rfl rfl ?_; refine wpList_valG (by kernel_rfl) (.bool false) (hde ▸ exec_neq25 (.tmp 282) (.tmp 283) rfl (p := cf y) (q := cf s) (byt_cf hsy) (byt_cf gd.sm) (by kernel_rfl) (by kernel_rfl)) ?_; simp only [Act.put, List.setIfInBounds_toArray, List.set_cons_zero, List.set_cons_succ])
                | (refine wpList_isD 285 (.move (.tmp 284)) rfl rfl ?_; refine wpList_valG (by kernel_rfl) (.bool false) (by kernel_rfl) ?_; simp only [Act.put, List.setIfInBounds_toArray, List.set_cons_zero, List.set_cons_succ])
                | (refine wpList_isD 286 (.move (.tmp 41)) rfl rfl ?_; refine wpList_skipG (by kernel_rfl) ?_; simp only [Act.put, List.setIfInBounds_toArray, List.set_cons_zero, List.set_cons_succ])
                | (refine wpList_isD 287 (.unOp .not 4 (.tmp 286)) rfl rfl ?_; refine wpList_skipG (by kernel_rfl) ?_; simp only [Act.put, List.setIfInBounds_toArray, List.set_cons_zero, List.set_cons_succ])
                | (refine wpList_isD 288 (.move (.tmp 287)) rfl rfl ?_; refine wpList_skipG (by kernel_rfl) ?_; simp only [Act.put, List.setIfInBounds_toArray, List.set_cons_zero, List.set_cons_succ])
                | (refine wpList_isD 289 (.load 25 (.tmp 45)) rfl rfl ?_; refine wpList_skipG (by kernel_rfl) ?_; simp only [Act.put, List.setIfInBounds_toArray, List.set_cons_zero, List.set_cons_succ])
                | (refine wpList_isD 290 (.load 25 (.tmp 40)) rfl rfl ?_; refine wpList_skipG (by kernel_rfl) ?_; simp only [Act.put, List.setIfInBounds_toArray, List.set_cons_zero, List.set_cons_succ])
                | (refine wpList_isD 291 (.load 25 (.tmp 17)) rfl rfl ?_; refine wpList_skipG (by kernel_rfl) ?_; simp only [Act.put, List.setIfInBounds_toArray, List.set_cons_zero, List.set_cons_succ])
                | (refine wpList_isD 292 (.call { callee := .value (.func 6), args := #[.tmp 289, .tmp 290, .tmp 291], argTypes := #[25, 25, 25] }) rfl rfl ?_; refine wpList_skipG (by kernel_rfl) ?_; simp only [Act.put, List.setIfInBounds_toArray, List.set_cons_zero, List.set_cons_succ])
                | (refine wpList_isD 293 (.pick (.tmp 288) (.const (.bool true)) (.tmp 292)) rfl rfl ?_; refine wpList_skipG (by kernel_rfl) ?_; simp only [Act.put, List.setIfInBounds_toArray, List.set_cons_zero, List.set_cons_succ])
                | (refine wpList_isD 294 (.pick (.tmp 285) (.tmp 293) (.const (.bool false))) rfl rfl ?_; refine wpList_valG (by kernel_rfl) (.bool false) (by kernel_rfl) ?_; simp only [Act.put, List.setIfInBounds_toArray, List.set_cons_zero, List.set_cons_succ]))
              go_roundg (ys.length - (i + 1))
              case measure => omega
              case rel => exact ⟨i + 1, c2, f2, by omega, by go_num, rfl, B2.out, n6.kept k1⟩
            · have hde : (!decide (nm (cf y) = nm (cf s))) = true := by simp [nm_cf hsy gd.sm, hys]
              cases f2 with
              | false =>
                have B2 : Aside ((true, y) = (ys.take (i + 1)).foldl (mx s) st0) := by unfold Aside; rw [etk, List.foldl_append, ← B.out]; simp [mx, hys]
                clear hys B etk
                go_upto_region 70 with (first
                  | (refine wpList_isD 280 (.indexAddr 27 (.tmp 276) (.tmp 278)) rfl rfl ?_; refine wpList_valG (by kernel_rfl) (.pointer (some ⟨gi, i * 20, none⟩)) (exec_index (.tmp 276) (.tmp 278) rfl Ybaf.underlying27 hti hts gi ys.length cr i hin (by kernel_rfl) (by kernel_rfl)) ?_; simp only [Act.put, List.setIfInBounds_toArray, List.set_cons_zero, List.set_cons_succ])
                  | (refine wpList_isD 281 (.load 25 (.tmp 280)) rfl rfl ?_; refine wpList_valG (by kernel_rfl) (.agg (ic y).toArray) (exec_load_row 25 (.tmp 280) rfl gi (i * 20) (by kernel_rfl) (ic y) _ ry Ybaf.underlying25 rfl (size25 _)) ?_; simp only [Act.put, List.setIfInBounds_toArray, List.set_cons_zero, List.set_cons_succ])
                  | (refine wpList_is (.alloc 25) rfl ?_; refine wpList_alloc25 rfl rfl ?_; simp only [Act.put, List.setIfInBounds_toArray, List.set_cons_zero, List.set_cons_succ])
                  | (refine wpList_is (.store 25 (.tmp 45) (.tmp 281)) rfl ?_; refine wpList_store_blk rfl 25 (.tmp 45) (.tmp 281) rfl wr.heap.size (ic y) (by kernel_rfl) (by kernel_rfl) _ _ (heap_alloc_new wr _) rfl (size25 _) (ic_one _) ?_; intro u1 y1 q1; have k1 : wr.grownBy u1 none := grown_new q1; clear q1; simp only [Act.put, List.setIfInBounds_toArray, List.set_cons_zero, List.set_cons_succ])
                  | (refine wpList_isD 282 (.load 25 (.tmp 45)) rfl rfl ?_; refine wpList_valG (by kernel_rfl) (.agg (ic y).toArray) (exec_load_row 25 (.tmp 45) rfl wr.heap.size 0 (by kernel_rfl) (ic y) _ (range_of_blk y1) Ybaf.underlying25 rfl (size25 _)) ?_; simp only [Act.put, List.setIfInBounds_toArray, List.set_cons_zero, List.set_cons_succ])
                  | (refine wpList_isD 283 (.load 25 (.tmp 17)) rfl rfl ?_; refine wpList_valG (by kernel_rfl) (.agg (ic s).toArray) (exec_load_row 25 (.tmp 17) rfl b17 0 (by kernel_rfl) (ic s) _ (range_of_blk (keep_blk (grown_trans n6.g k1) m.x17 (by simp))) Ybaf.underlying25 rfl (size25 _)) ?_; simp only [Act.put, List.setIfInBounds_toArray, List.set_cons_zero, List.set_cons_succ])
                  | (refine wpList_isD 284 (.binOp .neq 25 (.tmp 282) (.tmp 283) 25) rfl rfl ?_; refine wpList_valG (by kernel_rfl) (.bool true) (hde ▸ exec_neq25 (.tmp 282) (.tmp 283) rfl (p := cf y) (q := cf s) (byt_cf hsy) (byt_cf gd.sm) (by kernel_rfl) (by kernel_rfl)) ?_; simp only [Act.put, List.setIfInBounds_toArray, List.set_cons_zero, List.set_cons_succ])
                  | (refine wpList_isD 285 (.move (.tmp 284)) rfl rfl ?_; refine wpList_valG (by kernel_rfl) (.bool true) (by kernel_rfl) ?_; simp only [Act.put, List.setIfInBounds_toArray, List.set_cons_zero, List.set_cons_succ])
                  | (refine wpList_isD 286 (.move (.tmp 41)) rfl rfl ?_; refine wpList_valG (by kernel_rfl) (.bool false) (by kernel_rfl) ?_; simp only [Act.put, List.setIfInBounds_toArray, List.set_cons_zero, List.set_cons_succ])
                  | (refine wpList_isD 287 (.unOp .not 4 (.tmp 286)) rfl rfl ?_; refine wpList_valG (by kernel_rfl) (.bool true) (by kernel_rfl) ?_; simp only [Act.put, List.setIfInBounds_toArray, List.set_cons_zero, List.set_cons_succ])
                  | (refine wpList_isD 288 (.move (.tmp 287)) rfl rfl ?_; refine wpList_valG (by kernel_rfl) (.bool true) (by kernel_rfl) ?_; simp only [Act.put, List.setIfInBounds_toArray, List.set_cons_zero, List.set_cons_succ])
                  | (refine wpList_isD 289 (.load 25 (.tmp 45)) rfl rfl ?_; refine wpList_skipG (by kernel_rfl) ?_; simp only [Act.put, List.setIfInBounds_toArray, List.set_cons_zero, List.set_cons_succ])
                  | (refine wpList_isD 290 (.load 25 (.tmp 40)) rfl rfl ?_; refine wpList_skipG (by kernel_rfl) ?_; simp only [Act.put, List.setIfInBounds_toArray, List.set_cons_zero, List.set_cons_succ])
                  | (refine wpList_isD 291 (.load 25 (.tmp 17)) rfl rfl ?_; refine wpList_skipG (by kernel_rfl) ?_; simp only [Act.put, List.setIfInBounds_toArray, List.set_cons_zero, List.set_cons_succ])
                  | (refine wpList_isD 292 (.call { callee := .value (.func 6), args := #[.tmp 289, .tmp 290, .tmp 291], argTypes := #[25, 25, 25] }) rfl rfl ?_; refine wpList_skipG (by kernel_rfl) ?_; simp only [Act.put, List.setIfInBounds_toArray, List.set_cons_zero, List.set_cons_succ])
                  | (refine wpList_isD 293 (.pick (.tmp 288) (.const (.bool true)) (.tmp 292)) rfl rfl ?_; refine wpList_valG (by kernel_rfl) (.bool true) (by kernel_rfl) ?_; simp only [Act.put, List.setIfInBounds_toArray, List.set_cons_zero, List.set_cons_succ])
                  | (refine wpList_isD 294 (.pick (.tmp 285) (.tmp 293) (.const (.bool false))) rfl rfl ?_; refine wpList_valG (by kernel_rfl) (.bool true) (by kernel_rfl) ?_; simp only [Act.put, List.setIfInBounds_toArray, List.set_cons_zero, List.set_cons_succ]))
                have m1 := n6.kept k1
                obtain ⟨yb, eyb⟩ : ∃ b, b = wr.heap.size := ⟨_, rfl⟩
                rw [← eyb] at y1 ⊢
                clear eyb n6 k1
                go_wp2_with (first
                  | (refine wpList_isD 295 (.load 25 (.tmp 45)) rfl rfl ?_; refine wpList_valG (by kernel_rfl) (.agg (ic y).toArray) (exec_load_row 25 (.tmp 45) rfl yb 0 (by kernel_rfl) (ic y) _ (range_of_blk y1) Ybaf.underlying25 rfl (size25 _)) ?_; simp only [Act.put, List.setIfInBounds_toArray, List.set_cons_zero, List.set_cons_succ])
                  | (refine wpList_is (.store 25 (.tmp 40) (.tmp 295)) rfl ?_; refine wpList_store_blk rfl 25 (.tmp 40) (.tmp 295) rfl b40 (ic y) (by kernel_rfl) (by kernel_rfl) _ _ m1.x40 rfl (size25 _) (ic_one _) ?_; intro u9 y9 q9; have n9 := m1.put h40 hsy y9 q9; clear q9 y9; simp only [Act.put, List.setIfInBounds_toArray, List.set_cons_zero, List.set_cons_succ]))
                go_roundg (ys.length - (i + 1))
                case measure => omega
                case rel => exact ⟨i + 1, y, true, by omega, by go_num, rfl, B2.out, n9⟩
              | true =>
                by_cases hlt : D s y < D s c2
                · have B2 : Aside ((true, y) = (ys.take (i + 1)).foldl (mx s) st0) := by unfold Aside; rw [etk, List.foldl_append, ← B.out]; simp [mx, hys, hlt]
                  have hld : decide (ds (cf s) (cf y) < ds (cf s) (cf c2)) = true := decide_eq_true hlt
                  clear hys B etk hlt
                  go_wp2_with (first
                    | (refine wpList_isD 280 (.indexAddr 27 (.tmp 276) (.tmp 278)) rfl rfl ?_; refine wpList_valG (by kernel_rfl) (.pointer (some ⟨gi, i * 20, none⟩)) (exec_index (.tmp 276) (.tmp 278) rfl Ybaf.underlying27 hti hts gi ys.length cr i hin (by kernel_rfl) (by kernel_rfl)) ?_; simp only [Act.put, List.setIfInBounds_toArray, List.set_cons_zero, List.set_cons_succ])
                    | (refine wpList_isD 281 (.load 25 (.tmp 280)) rfl rfl ?_; refine wpList_valG (by kernel_rfl) (.agg (ic y).toArray) (exec_load_row 25 (.tmp 280) rfl gi (i * 20) (by kernel_rfl) (ic y) _ ry Ybaf.underlying25 rfl (size25 _)) ?_; simp only [Act.put, List.setIfInBounds_toArray, List.set_cons_zero, List.set_cons_succ])
                    | (refine wpList_is (.alloc 25) rfl ?_; refine wpList_alloc25 rfl rfl ?_; simp only [Act.put, List.setIfInBounds_toArray, List.set_cons_zero, List.set_cons_succ])
                    | (refine wpList_is (.store 25 (.tmp 45) (.tmp 281)) rfl ?_; refine wpList_store_blk rfl 25 (.tmp 45) (.tmp 281) rfl wr.heap.size (ic y) (by kernel_rfl) (by kernel_rfl) _ _ (heap_alloc_new wr _) rfl (size25 _) (ic_one _) ?_; intro u1 y1 q1; have k1 : wr.grownBy u1 none := grown_new q1; clear q1; simp only [Act.put, List.setIfInBounds_toArray, List.set_cons_zero, List.set_cons_succ])
                    | (refine wpList_isD 282 (.load 25 (.tmp 45)) rfl rfl ?_; refine wpList_valG (by kernel_rfl) (.agg (ic y).toArray) (exec_load_row 25 (.tmp 45) rfl wr.heap.size 0 (by kernel_rfl) (ic y) _ (range_of_blk y1) Ybaf.underlying25 rfl (size25 _)) ?_; simp only [Act.put, List.setIfInBounds_toArray, List.set_cons_zero, List.set_cons_succ])
                    | (refine wpList_isD 283 (.load 25 (.tmp 17)) rfl rfl ?_; refine wpList_valG (by kernel_rfl) (.agg (ic s).toArray) (exec_load_row 25 (.tmp 17) rfl b17 0 (by kernel_rfl) (ic s) _ (range_of_blk (keep_blk (grown_trans n6.g k1) m.x17 (by simp))) Ybaf.underlying25 rfl (size25 _)) ?_; simp only [Act.put, List.setIfInBounds_toArray, List.set_cons_zero, List.set_cons_succ])
                    | (refine wpList_isD 284 (.binOp .neq 25 (.tmp 282) (.tmp 283) 25) rfl rfl ?_; refine wpList_valG (by kernel_rfl) (.bool true) (hde ▸ exec_neq25 (.tmp 282) (.tmp 283) rfl (p := cf y) (q := cf s) (byt_cf hsy) (byt_cf gd.sm) (by kernel_rfl) (by kernel_rfl)) ?_; simp only [Act.put, List.setIfInBounds_toArray, List.set_cons_zero, List.set_cons_succ])
                    | (refine wpList_isD 285 (.move (.tmp 284)) rfl rfl ?_; refine wpList_valG (by kernel_rfl) (.bool true) (by kernel_rfl) ?_; simp only [Act.put, List.setIfInBounds_toArray, List.set_cons_zero, List.set_cons_succ])
                    | (refine wpList_isD 286 (.move (.tmp 41)) rfl rfl ?_; refine wpList_valG (by kernel_rfl) (.bool true) (by kernel_rfl) ?_; simp only [Act.put, List.setIfInBounds_toArray, List.set_cons_zero, List.set_cons_succ])
                    | (refine wpList_isD 287 (.unOp .not 4 (.tmp 286)) rfl rfl ?_; refine wpList_valG (by kernel_rfl) (.bool false) (by kernel_rfl) ?_; simp only [Act.put, List.setIfInBounds_toArray, List.set_cons_zero, List.set_cons_succ])
                    | (refine wpList_isD 288 (.move (.tmp 287)) rfl rfl ?_; refine wpList_valG (by kernel_rfl) (.bool false) (by kernel_rfl) ?_; simp only [Act.put, List.setIfInBounds_toArray, List.set_cons_zero, List.set_cons_succ])
                    | (refine wpList_isD 289 (.load 25 (.tmp 45)) rfl rfl ?_; refine wpList_valG (by kernel_rfl) (.agg (ic y).toArray) (exec_load_row 25 (.tmp 45) rfl wr.heap.size 0 (by kernel_rfl) (ic y) _ (range_of_blk y1) Ybaf.underlying25 rfl (size25 _)) ?_; simp only [Act.put, List.setIfInBounds_toArray, List.set_cons_zero, List.set_cons_succ])
                    | (refine wpList_isD 290 (.load 25 (.tmp 40)) rfl rfl ?_; refine wpList_valG (by kernel_rfl) (.agg (ic c2).toArray) (exec_load_row 25 (.tmp 40) rfl b40 0 (by kernel_rfl) (ic c2) _ (range_of_blk (n6.kept k1).x40) Ybaf.underlying25 rfl (size25 _)) ?_; simp only [Act.put, List.setIfInBounds_toArray, List.set_cons_zero, List.set_cons_succ])
                    | (refine wpList_isD 291 (.load 25 (.tmp 17)) rfl rfl ?_; refine wpList_valG (by kernel_rfl) (.agg (ic s).toArray) (exec_load_row 25 (.tmp 17) rfl b17 0 (by kernel_rfl) (ic s) _ (range_of_blk (keep_blk (grown_trans n6.g k1) m.x17 (by simp))) Ybaf.underlying25 rfl (size25 _)) ?_; simp only [Act.put, List.setIfInBounds_toArray, List.set_cons_zero, List.set_cons_succ])
                    | (refine wpList_is (.call { callee := .value (.func 6), args := #[.tmp 289, .tmp 290, .tmp 291], argTypes := #[25, 25, 25] }) rfl ?_; refine wpList_callG (by kernel_rfl) 6 #[.agg (ic y).toArray, .agg (ic c2).toArray, .agg (ic s).toArray] (by kernel_rfl) ?_))
                  refine (less_any (byt_cf hsy) (byt_cf n6.sc) (byt_cf gd.sm) _).mono ?_
                  rintro e u2 ⟨rfl, q2⟩
                  refine ⟨_, rfl, ?_⟩
                  rw [hld]
                  try simp only [Act.put, List.setIfInBounds_toArray, List.set_cons_zero, List.set_cons_succ]
                  clear hld
                  go_upto_region 70 with (first
                    | (refine wpList_isD 293 (.pick (.tmp 288) (.const (.bool true)) (.tmp 292)) rfl rfl ?_; refine wpList_valG (by kernel_rfl) (.bool true) (by kernel_rfl) ?_; simp only [Act.put, List.setIfInBounds_toArray, List.set_cons_zero, List.set_cons_succ])
                    | (refine wpList_isD 294 (.pick (.tmp 285) (.tmp 293) (.const (.bool false))) rfl rfl ?_; refine wpList_valG (by kernel_rfl) (.bool true) (by kernel_rfl) ?_; simp only [Act.put, List.setIfInBounds_toArray, List.set_cons_zero, List.set_cons_succ]))
                  have m1 := n6.kept (grown_trans k1 q2)
                  have y2 := keep_blk q2 y1 (by simp)
                  obtain ⟨yb, eyb⟩ : ∃ b, b = wr.heap.size := ⟨_, rfl⟩
                  rw [← eyb] at y2 ⊢
                  clear eyb n6 k1 y1 q2
                  go_wp2_with (first
                    | (refine wpList_isD 295 (.load 25 (.tmp 45)) rfl rfl ?_; refine wpList_valG (by kernel_rfl) (.agg (ic y).toArray) (exec_load_row 25 (.tmp 45) rfl yb 0 (by kernel_rfl) (ic y) _ (range_of_blk y2) Ybaf.underlying25 rfl (size25 _)) ?_; simp only [Act.put, List.setIfInBounds_toArray, List.set_cons_zero, List.set_cons_succ])
                    | (refine wpList_is (.store 25 (.tmp 40) (.tmp 295)) rfl ?_; refine wpList_store_blk rfl 25 (.tmp 40) (.tmp 295) rfl b40 (ic y) (by kernel_rfl) (by kernel_rfl) _ _ m1.x40 rfl (size25 _) (ic_one _) ?_; intro u9 y9 q9; have n9 := m1.put h40 hsy y9 q9; clear q9 y9; simp only [Act.put, List.setIfInBounds_toArray, List.set_cons_zero, List.set_cons_succ]))
                  go_roundg (ys.length - (i + 1))
                  case measure => omega
                  case rel => exact ⟨i + 1, y, true, by omega, by go_num, rfl, B2.out, n9⟩
                · have B2 : Aside ((true, c2) = (ys.take (i + 1)).foldl (mx s) st0) := by unfold Aside; rw [etk, List.foldl_append, ← B.out]; simp [mx]; intro _; omega
                  have hld : decide (ds (cf s) (cf y) < ds (cf s) (cf c2)) = false := decide_eq_false hlt
                  clear hys B etk hlt
                  go_wp2_with (first
                    | (refine wpList_isD 280 (.indexAddr 27 (.tmp 276) (.tmp 278)) rfl rfl ?_; refine wpList_valG (by kernel_rfl) (.pointer (some ⟨gi, i * 20, none⟩)) (exec_index (.tmp 276) (.tmp 278) rfl Ybaf.underlying27 hti hts gi ys.length cr i hin (by kernel_rfl) (by kernel_rfl)) ?_; simp only [Act.put, List.setIfInBounds_toArray, List.set_cons_zero, List.set_cons_succ])
                    | (refine wpList_isD 281 (.load 25 (.tmp 280)) rfl rfl ?_; refine wpList_valG (by kernel_rfl) (.agg (ic y).toArray) (exec_load_row 25 (.tmp 280) rfl gi (i * 20) (by kernel_rfl) (ic y) _ ry Ybaf.underlying25 rfl (size25 _)) ?_; simp only [Act.put, List.setIfInBounds_toArray, List.set_cons_zero, List.set_cons_succ])
                    | (refine wpList_is (.alloc 25) rfl ?_; refine wpList_alloc25 rfl rfl ?_; simp only [Act.put, List.setIfInBounds_toArray, List.set_cons_zero, List.set_cons_succ])
                    | (refine wpList_is (.store 25 (.tmp 45) (.tmp 281)) rfl ?_; refine wpList_store_blk rfl 25 (.tmp 45) (.tmp 281) rfl wr.heap.size (ic y) (by kernel_rfl) (by kernel_rfl) _ _ (heap_alloc_new wr _) rfl (size25 _) (ic_one _) ?_; intro u1 y1 q1; have k1 : wr.grownBy u1 none := grown_new q1; clear q1; simp only [Act.put, List.setIfInBounds_toArray, List.set_cons_zero, List.set_cons_succ])
                    | (refine wpList_isD 282 (.load 25 (.tmp 45)) rfl rfl ?_; refine wpList_valG (by kernel_rfl) (.agg (ic y).toArray) (exec_load_row 25 (.tmp 45) rfl wr.heap.size 0 (by kernel_rfl) (ic y) _ (range_of_blk y1) Ybaf.underlying25 rfl (size25 _)) ?_; simp only [Act.put, List.setIfInBounds_toArray, List.set_cons_zero, List.set_cons_succ])
                    | (refine wpList_isD 283 (.load 25 (.tmp 17)) rfl rfl ?_; refine wpList_valG (by kernel_rfl) (.agg (ic s).toArray) (exec_load_row 25 (.tmp 17) rfl b17 0 (by kernel_rfl) (ic s) _ (range_of_blk (keep_blk (grown_trans n6.g k1) m.x17 (by simp))) Ybaf.underlying25 rfl (size25 _)) ?_; simp only [Act.put, List.setIfInBounds_toArray, List.set_cons_zero, List.set_cons_succ])
                    | (refine wpList_isD 284 (.binOp .neq 25 (.tmp 282) (.tmp 283) 25) rfl rfl ?_; refine wpList_valG (by kernel_rfl) (.bool true) (hde ▸ exec_neq25 (.tmp 282) (.tmp 283) rfl (p := cf y) (q := cf s) (byt_cf hsy) (byt_cf gd.sm) (by kernel_rfl) (by kernel_rfl)) ?_; simp only [Act.put, List.setIfInBounds_toArray, List.set_cons_zero, List.set_cons_succ])
                    | (refine wpList_isD 285 (.move (.tmp 284)) rfl rfl ?_; refine wpList_valG (by kernel_rfl) (.bool true) (by kernel_rfl) ?_; simp only [Act.put, List.setIfInBounds_toArray, List.set_cons_zero, List.set_cons_succ])
                    | (refine wpList_isD 286 (.move (.tmp 41)) rfl rfl ?_; refine wpList_valG (by kernel_rfl) (.bool true) (by kernel_rfl) ?_; simp only [Act.put, List.setIfInBounds_toArray, List.set_cons_zero, List.set_cons_succ])
                    | (refine wpList_isD 287 (.unOp .not 4 (.tmp 286)) rfl rfl ?_; refine wpList_valG (by kernel_rfl) (.bool false) (by kernel_rfl) ?_; simp only [Act.put, List.setIfInBounds_toArray, List.set_cons_zero, List.set_cons_succ])
                    | (refine wpList_isD 288 (.move (.tmp 287)) rfl rfl ?_; refine wpList_valG (by kernel_rfl) (.bool false) (by kernel_rfl) ?_; simp only [Act.put, List.setIfInBounds_toArray, List.set_cons_zero, List.set_cons_succ])
                    | (refine wpList_isD 289 (.load 25 (.tmp 45)) rfl rfl ?_; refine wpList_valG (by kernel_rfl) (.agg (ic y).toArray) (exec_load_row 25 (.tmp 45) rfl wr.heap.size 0 (by kernel_rfl) (ic y) _ (range_of_blk y1) Ybaf.underlying25 rfl (size25 _)) ?_; simp only [Act.put, List.setIfInBounds_toArray, List.set_cons_zero, List.set_cons_succ])
                    | (refine wpList_isD 290 (.load 25 (.tmp 40)) rfl rfl ?_; refine wpList_valG (by kernel_rfl) (.agg (ic c2).toArray) (exec_load_row 25 (.tmp 40) rfl b40 0 (by kernel_rfl) (ic c2) _ (range_of_blk (n6.kept k1).x40) Ybaf.underlying25 rfl (size25 _)) ?_; simp only [Act.put, List.setIfInBounds_toArray, List.set_cons_zero, List.set_cons_succ])
                    | (refine wpList_isD 291 (.load 25 (.tmp 17)) rfl rfl ?_; refine wpList_valG (by kernel_rfl) (.agg (ic s).toArray) (exec_load_row 25 (.tmp 17) rfl b17 0 (by kernel_rfl) (ic s) _ (range_of_blk (keep_blk (grown_trans n6.g k1) m.x17 (by simp))) Ybaf.underlying25 rfl (size25 _)) ?_; simp only [Act.put, List.setIfInBounds_toArray, List.set_cons_zero, List.set_cons_succ])
                    | (refine wpList_is (.call { callee := .value (.func 6), args := #[.tmp 289, .tmp 290, .tmp 291], argTypes := #[25, 25, 25] }) rfl ?_; refine wpList_callG (by kernel_rfl) 6 #[.agg (ic y).toArray, .agg (ic c2).toArray, .agg (ic s).toArray] (by kernel_rfl) ?_))
                  refine (less_any (byt_cf hsy) (byt_cf n6.sc) (byt_cf gd.sm) _).mono ?_
                  rintro e u2 ⟨rfl, q2⟩
                  refine ⟨_, rfl, ?_⟩
                  rw [hld]
                  try simp only [Act.put, List.setIfInBounds_toArray, List.set_cons_zero, List.set_cons_succ]
                  clear hld
                  go_wp2_with (first
                    | (refine wpList_isD 293 (.pick (.tmp 288) (.const (.bool true)) (.tmp 292)) rfl rfl ?_; refine wpList_valG (by kernel_rfl) (.bool false) (by kernel_rfl) ?_; simp only [Act.put, List.setIfInBounds_toArray, List.set_cons_zero, List.set_cons_succ])
                    | (refine wpList_isD 294 (.pick (.tmp 285) (.tmp 293) (.const (.bool false))) rfl rfl ?_; refine wpList_valG (by kernel_rfl) (.bool false) (by kernel_rfl) ?_; simp only [Act.put, List.setIfInBounds_toArray, List.set_cons_zero, List.set_cons_succ]))
                  go_roundg (ys.length - (i + 1))
                  case measure => omega
                  case rel => exact ⟨i + 1, c2, true, by omega, by go_num, rfl, B2.out, n6.kept (grown_trans k1 q2)⟩
          · have ei : i = ys.length := by omega
            subst ei
            have z3 : Aside (c2 = nearC s ids refs) := by
              unfold Aside
              have h1 := B.out
              rw [List.take_length, ES.out, EY.out, B2.out, ← List.foldl_append] at h1
              rw [z1.out, ← h1]
            have ey := EY.out.symm
            clear B hmy hly fy ow B2 EY
            subst ey
            go_wp2_with fail
            unfold Hid at HK
            refine HK _ _ ?_
            exact tail73 w wr s h b17 p b33 _ vt0 _ vi vt vr ids refs gd hh hh4 (m.kept n6.g) b34 b35 b40 x al c2 true g1 g2 hx hal n6.sc (keep_blk n6.g x34 (by simp)) (keep_blk n6.g x35 (by simp)) n6.x40 z2 (fun _ => z3.out) eg _ _ _ _ _ _ _ _ _ _ _ _ _ _ _ _ _ _ _ _ _ _ _ _ _ _ _ _ _ _ _ _ _ _ _ _ _ _ _ _ _ _ _ _ _ _ _ _ _ _ _ _ _ _ _ _ _ _ _ _ _ _ _ _ _ _ _ _ _ _ _ _ _ _ _ _ _ _ _ _ _ _ _ _ _ _ _ _ _ _ _ _ _ _ _ _ _ _ _ _ _ _ _ _ _ _ _ _ _ _ _ _ _ _ _ _ _ _ _ _ _ _ _ _ _ _ _ _ _ _ _ _ _ _ _ _ _ _ _ _ _ _ _ _ _ _ _ _ _ _ _ _ _ _ _ _ _ _ _ _ _ _ _ _ _ _ _ _ _ _ _ _ _ _ _ _ _ _ _ _ _ _ _ _ _ _ _ _ _ _ _ _ _ _ _ _ _ _ _ _ _ _ _ _ _ _ _ _ _ _ _ _ _ _ _ _ _ _ _ _ _ _ _ _ _ _ _ _ _ _ _ _ _ _ _ _ _ _ _ _ _ _ _ _ _ _ _ _ _ _ _ _ _ _ _ _ _ _ _ _ _ _ _ _ _ _ _ _ _ _ _ _ _ _ _ _ _ _ _ _ _ _ _ _ _ _ _ _ _ _ _ _ _ _ _ _ _ _ _ _ _ _ _ _ _ _ _ _ _ _ _ _ _ _ _ _ _ _ _ _ _ _ _ _ _ _ _ _ _ _ _ _ _ _ _ _ _ _ _ _ _ _ _ _ _ _ _ _ _ _ _ _ _ _ _ _ _ _ _ _ _ _ _ _ _ _ _ _ _ _ _ _ _ _ _ _ _ _ _ _ _ _ _ _ _ _ _ _ _ _ _ _ _ _ _
end Go.Proofs.YbulkdspqFmt
