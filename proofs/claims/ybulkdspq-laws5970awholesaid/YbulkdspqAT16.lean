/-
  LawS5970AWhole: the stretch from region 16 on.
-/
import Derived.Test.YbulkdspqAT26
namespace Go.Proofs.Ybulkdspq
open Go.RowKit
set_option linter.unusedSimpArgs false
set_option linter.unusedVariables false

/-- make([]T, n): all zero. -/
theorem wpList_makeF {ops : Array Oper} {rest : List Oper} {op : Oper} {a : Act} {w : World} {Q : Exit → Act → World → Prop} (hgd : op.guard = none) {α : Type} {f : α → List Value} (zz : α) {t e : TypeId} {size bytes : Nat} (hf : ∀ a, (f a).length = size) (hsz : 0 < size) {z : Value} (hz : z.cells = (f zz).toArray) (ht : Yba.prog.underlying t = some (.slice e)) (hinfo : (Yba.prog.info? e).map (fun i => (i.zero, i.size, i.bytes)) = some (some z, size, bytes)) (hby : bytes ≤ 48) (x : Operand) (ho : op.op = .makeSlice t x x) (n : Nat) (hn : n ≤ 1000000) (hx : a.eval x = .int .i64 (n : Int)) {B : Nat} {w0 : World} {L : List (Nat × Obj)} (hh : Hs B w0 w L)
    (h : ∀ (g : Nat) (w' : World), Hs B w0 w' ((g, .cells ((List.replicate n zz).flatMap f).toArray e) :: L) → wpList Yba.prog ops Q rest (a.put op.dst (.slice (some ⟨g, 0, none⟩) n n)) w') : wpList Yba.prog ops Q (op :: rest) a w := by
  have he := exec_make (w := w) ht hinfo hby x ho n hn hx
  rw [hz, made_flat hf hsz] at he
  exact wpList_exec hgd _ he (h _ _ (hh.new _))
theorem exec_build41 {a : Act} {o : Oper} {w : World} (ho : o.op = .build 41 #[]) : (execOp a.eval o).run Yba.prog w = .ok (.value (.agg (newsc (.slice none 0 0)).toArray)) w := by
  have hb : (Instr.build 41 #[]).run Yba.prog w = .ok (.agg (newsc (.slice none 0 0)).toArray) w := by kernel_rfl
  unfold execOp
  simp only [ho, List.map_toArray, List.map_nil, Sem.run_bind, hb, Result.andThen_ok, Sem.run_pure]
theorem box41 (h : Value) (w : World) : (Instr.box 41 (.agg (newsc h).toArray)).run Yba.prog w = .ok (.pointer (some ⟨w.heap.size, 0, none⟩)) (w.alloc (.cells (newsc h).toArray 41)) := by kernel_rfl
theorem size37 : (Yba.prog.info? 37).map (·.size) = some 1 := by kernel_rfl
theorem build45 (t : Tid) (w : World) : (Instr.build 45 #[(0, .agg (idc t.b).toArray), (1, .int .i64 t.n), (2, .bool t.r), (3, .int .i64 t.f)]).run Yba.prog w = .ok (.agg (tc t).toArray) w := by kernel_rfl
theorem exec_build45 {a : Act} {o : Oper} {w : World} (x0 x1 x2 x3 : Operand) (ho : o.op = .build 45 #[(0, x0), (1, x1), (2, x2), (3, x3)]) (t : Tid) (e0 : a.eval x0 = .agg (idc t.b).toArray) (e1 : a.eval x1 = .int .i64 t.n) (e2 : a.eval x2 = .bool t.r) (e3 : a.eval x3 = .int .i64 t.f) : (execOp a.eval o).run Yba.prog w = .ok (.value (.agg (tc t).toArray)) w := by
  unfold execOp
  simp only [ho, List.map_toArray, List.map_cons, List.map_nil, e0, e1, e2, e3, Sem.run_bind, build45, Result.andThen_ok, Sem.run_pure]
theorem exec_conv53 {a : Act} {o : Oper} {w : World} (x : Operand) (ho : o.op = .convert 5 3 x) (z : Int) (hx : a.eval x = .int .u8 z) : (execOp a.eval o).run Yba.prog w = .ok (.value (.int .i64 (cv z))) w := by
  unfold execOp
  simp only [ho, hx, Sem.run_bind, conv53, Result.andThen_ok, Sem.run_pure]

set_option maxRecDepth 1000000 in
set_option maxHeartbeats 8000000 in
theorem tail16 (w wz : World) (a1 a2 a3 a4 : Option Addr) (n1 c10 n2 c20 n3 c30 n4 c40 sb g1 g2 : Nat) (ms rs ps : List Int) (hd : List Hd) (sB sf su uB : Int) (hsm : n1 + n2 + n3 + n4 ≤ 8192) (l1 : ms.length = n1) (l2 : rs.length = n2) (l3 : hd.length = n3) (l4 : ps.length = n4) (r1 : Rd1 w a1 ms) (r2 : Rd1 w a2 rs) (r3 : Rd3 w a3 hd) (r4 : Rd1 w a4 ps)
    (z1 : a1 = none → n1 = 0 ∧ c10 = 0) (z2 : a2 = none → n2 = 0 ∧ c20 = 0) (f1 : ∀ b ∈ ms, (Lit.int .u8 b).wf = true) (f2 : ∀ b ∈ rs, (Lit.int .u8 b).wf = true) (f3 : ∀ h ∈ hd, (Lit.int .u8 h.b).wf = true) (fs : (Lit.int .u8 sB).wf = true) (fu : (Lit.int .u8 uB).wf = true) (hS0 : Hs w.heap.size w wz [(g2, .cells (rs.flatMap idc).toArray 26), (g1, .cells (ms.flatMap idc).toArray 26), (sb, .cells (setc (.slice (some ⟨g1, 0, none⟩) n1 n1) (.slice (some ⟨g2, 0, none⟩) n2 n2)).toArray 34)]) (s8 s9 s10 s11 s12 s13 s14 s15 s16 s18 s19 s20 s21 s22 s23 s24 s25 s26 s27 s28 s29 s30 s31 s32 s33 s34 s35 s36 s37 s38 s39 s40 s41 s42 s43 s44 s45 s46 s47 s48 s49 s50 s51 s52 s53 s54 s55 s56 s57 s58 s59 s60 s61 s62 s63 s64 s65 s66 s67 s68 s69 s70 s71 s72 s73 s74 s75 s76 s77 s78 s79 s80 s81 s82 s83 s84 s85 s86 s87 s88 s89 s90 s91 s92 s93 s94 s95 s96 s97 s98 s99 s100 s101 s102 s103 s104 s105 s106 s107 s108 s109 s110 s111 s112 s113 s114 s115 s116 s117 s118 s119 s120 s121 s122 s123 s124 s125 s126 s127 s128 s129 s130 s131 s132 s133 s134 s135 s136 s137 s138 s139 s140 s141 s142 s143 s144 s145 s146 s147 s148 s149 s150 s151 s152 s153 s154 s155 s156 s157 s158 s159 s160 s161 s162 s163 s164 s165 s166 s167 s168 s169 s170 s171 s172 s173 s174 s175 s176 s177 s178 s179 s180 s181 s182 s183 s184 s185 s186 s187 s188 s189 s190 s191 s192 s193 s194 s195 s196 s197 s198 s199 s200 s201 s202 s203 s204 s205 s206 s207 s208 s209 s210 s211 s212 s213 s214 s215 s216 s217 s218 s219 s220 s221 s222 s223 s224 s225 s226 s227 s228 s229 s230 s231 s232 s233 s234 s235 s236 s237 s238 s239 s240 s241 s242 s243 s244 s245 s246 s247 s248 s249 s250 s251 s252 s253 s254 s255 s256 s257 s258 s259 s260 s261 s262 s263 s264 s265 s266 s267 s268 s269 s270 s271 s272 s273 s274 s275 s276 s277 s278 s279 s280 s281 s282 s283 s284 s285 s286 s287 s288 s289 s290 s291 s292 s293 s294 s295 s296 s297 s298 s299 s300 s301 s302 s303 s304 s305 s306 s307 s308 s309 s310 s311 s312 s313 s314 s315 s316 s317 s318 s319 s320 s321 s322 s323 s324 s325 s326 s327 s328 s329 s330 s331 s332 s333 s334 s335 s336 s337 s338 s339 s340 s341 s342 s343 s344 s345 s346 s347 s348 s349 s350 s351 s352 s353 s354 s355 s356 s357 s358 s359 s360 s361 s362 s363 s364 s365 s366 s367 s368 s369 s370 s371 s372 s373 s374 s375 s376 s377 s378 s379 s380 s381 s382 s383 s384 s385 s386 s387 s388 s389 s390 s391 s392 s393 s394 s395 s396 s397 s398 s399 s400 s401 s402 s403 s404 : Value) :
    Code.wp Yba.prog (tailAt 16) (bodyPost Yba.prog Yba.f3 fun e w' => e = .returned (.bool true) ∧ Below w.heap.size w w') ⟨#[.slice a1 n1 c10, .slice a2 n2 c20, .slice a3 n3 c30, .slice a4 n4 c40, .int .i64 sf, .int .u8 sB, .int .i64 su, .int .u8 uB, s8, s9, s10, s11, s12, s13, s14, s15, s16, .pointer (some ⟨sb, 0, none⟩), s18, s19, s20, s21, s22, s23, s24, s25, s26, s27, s28, s29, s30, s31, s32, s33, s34, s35, s36, s37, s38, s39, s40, s41, s42, s43, s44, s45, s46, s47, s48, s49, s50, s51, s52, s53, s54, s55, s56, s57, s58, s59, s60, s61, s62, s63, s64, s65, s66, s67, s68, s69, s70, s71, s72, s73, s74, s75, s76, s77, s78, s79, s80, s81, s82, s83, s84, s85, s86, s87, s88, s89, s90, s91, s92, s93, s94, s95, s96, s97, s98, s99, s100, s101, s102, s103, s104, s105, s106, s107, s108, s109, s110, s111, s112, s113, s114, s115, s116, s117, s118, s119, s120, s121, s122, s123, s124, s125, s126, s127, s128, s129, s130, s131, s132, s133, s134, s135, s136, s137, s138, s139, s140, s141, s142, s143, s144, s145, s146, s147, s148, s149, s150, s151, s152, s153, s154, s155, s156, s157, s158, s159, s160, s161, s162, s163, s164, s165, s166, s167, s168, s169, s170, s171, s172, s173, s174, s175, s176, s177, s178, s179, s180, s181, s182, s183, s184, s185, s186, s187, s188, s189, s190, s191, s192, s193, s194, s195, s196, s197, s198, s199, s200, s201, s202, s203, s204, s205, s206, s207, s208, s209, s210, s211, s212, s213, s214, s215, s216, s217, s218, s219, s220, s221, s222, s223, s224, s225, s226, s227, s228, s229, s230, s231, s232, s233, s234, s235, s236, s237, s238, s239, s240, s241, s242, s243, s244, s245, s246, s247, s248, s249, s250, s251, s252, s253, s254, s255, s256, s257, s258, s259, s260, s261, s262, s263, s264, s265, s266, s267, s268, s269, s270, s271, s272, s273, s274, s275, s276, s277, s278, s279, s280, s281, s282, s283, s284, s285, s286, s287, s288, s289, s290, s291, s292, s293, s294, s295, s296, s297, s298, s299, s300, s301, s302, s303, s304, s305, s306, s307, s308, s309, s310, s311, s312, s313, s314, s315, s316, s317, s318, s319, s320, s321, s322, s323, s324, s325, s326, s327, s328, s329, s330, s331, s332, s333, s334, s335, s336, s337, s338, s339, s340, s341, s342, s343, s344, s345, s346, s347, s348, s349, s350, s351, s352, s353, s354, s355, s356, s357, s358, s359, s360, s361, s362, s363, s364, s365, s366, s367, s368, s369, s370, s371, s372, s373, s374, s375, s376, s377, s378, s379, s380, s381, s382, s383, s384, s385, s386, s387, s388, s389, s390, s391, s392, s393, s394, s395, s396, s397, s398, s399, s400, s401, s402, s403, s404], []⟩ wz := by
  conv => arg 2; whnf
  obtain ⟨i45, hi45, _, hs45, _⟩ := info_parts info45
  go_upto_region 18 with (first
    | (refine wpList_is (.build 41 #[]) rfl ?_; refine wpList_exec rfl _ (exec_build41 rfl) ?_)
    | (refine wpList_is (.box 41 (.tmp 107)) rfl ?_; refine wpList_boxC rfl 41 (.tmp 107) _ rfl rfl (box41 _) hS0 ?_; intro nb v1 h1)
    | (refine wpList_is (.makeSlice 37 (.tmp 111) (.tmp 111)) rfl ?_; refine wpList_makeF rfl tid0 tc_len (by omega) rfl Yba.underlying37 info45 (by omega) (.tmp 111) rfl n3 (by omega) rfl h1 ?_; intro gh v2 h2)
    | (refine wpList_is (.store 37 (.tmp 114) (.tmp 112)) rfl ?_; refine wpList_storeC rfl 37 (.tmp 114) (.tmp 112) rfl h2 1 nb 1 (.slice (some ⟨gh, 0, none⟩) n3 n3) _ 41 rfl rfl rfl size37 (by simp [newsc]) rfl [(gh, .cells ((List.replicate n3 tid0).flatMap tc).toArray 45), (nb, .cells (newsc (.slice (some ⟨gh, 0, none⟩) n3 n3)).toArray 41), (g2, .cells (rs.flatMap idc).toArray 26), (g1, .cells (ms.flatMap idc).toArray 26), (sb, .cells (setc (.slice (some ⟨g1, 0, none⟩) n1 n1) (.slice (some ⟨g2, 0, none⟩) n2 n2)).toArray 34)] rfl ?_; intro v3 h3))
  clear h1 h2 hS0
  have l3' : (hd.map tid).length = n3 := by rw [List.length_map]; exact l3
  have h4 : Hs w.heap.size w v3 [(gh, .cells ((pre tid0 (hd.map tid) 0).flatMap tc).toArray 45), (nb, .cells (newsc (.slice (some ⟨gh, 0, none⟩) n3 n3)).toArray 41), (g2, .cells (rs.flatMap idc).toArray 26), (g1, .cells (ms.flatMap idc).toArray 26), (sb, .cells (setc (.slice (some ⟨g1, 0, none⟩) n1 n1) (.slice (some ⟨g2, 0, none⟩) n2 n2)).toArray 34)] := by
    rw [pre_zero, l3']; exact h3
  clear h3
  go_wp2_with fail
  go_loopg [117] n3 (fun g v wr => ∃ i : Nat, i + g = n3 ∧ v = .int .i64 i ∧ Hs w.heap.size w wr [(gh, .cells ((pre tid0 (hd.map tid) i).flatMap tc).toArray 45), (nb, .cells (newsc (.slice (some ⟨gh, 0, none⟩) n3 n3)).toArray 41), (g2, .cells (rs.flatMap idc).toArray 26), (g1, .cells (ms.flatMap idc).toArray 26), (sb, .cells (setc (.slice (some ⟨g1, 0, none⟩) n1 n1) (.slice (some ⟨g2, 0, none⟩) n2 n2)).toArray 34)])
  case atStart => exact ⟨0, by omega, rfl, h4⟩
  case round =>
    clear h4
    obtain ⟨i, hi, rfl, h⟩ := hrel
    by_cases hin : i < n3
    · obtain ⟨t, ht⟩ : ∃ t, hd[i]? = some t := ⟨_, List.getElem?_eq_getElem (by omega)⟩
      obtain ⟨b, o, rfl, hb, hr0⟩ := r3 i t ht
      have hin' : (i : Int) < (n3 : Int) := by omega
      have hri := range_below h.below hb hr0
      have HF : Hid (Hs w.heap.size w wr _) := h
      clear h
      go_upto_region 20 with fail
      go_upto_region 21 with (first
        | (refine wpList_is (.load 43 (.tmp 120)) rfl ?_; refine wpList_load_mid rfl 43 (.tmp 120) rfl b (o + i * 4) rfl (hc4 t) _ hri Yba.underlying43 rfl (size43 t) ?_)
        | (refine wpList_is (.alloc 43) rfl ?_; refine wpList_alloc43 rfl rfl ?_)
        | (refine wpList_is (.store 43 (.tmp 24) (.tmp 121)) rfl ?_; refine wpList_store_blk rfl 43 (.tmp 24) (.tmp 121) rfl wr.heap.size (hc4 t) rfl rfl _ _ (blk_new _ _ _ _ rfl) rfl (size43 t) (hc4_one t) ?_; intro v4 hb4 k4))
      have h5 := Hs.grow HF (grown_trans (grown_new k4) (grown_drew v4))
      have hb5 : ({ v4 with drawn := v4.drawn + 1 } : World).heap[wr.heap.size]? = some (.cells (hc4 t).toArray 43 (0, 0)) := hb4
      clear HF k4 hri hb4
      refine wp_region_held (S := fun w' : World => w'.heap[nb]? = some (.cells (newsc (.slice (some ⟨gh, 0, none⟩) n3 n3)).toArray 41 (0, 0)) ∧ w'.heap[wr.heap.size]? = some (.cells (hc4 t).toArray 43 (0, 0))) (by kernel_rfl) ?_
      generalize ({ v4 with drawn := v4.drawn + 1 } : World) = v5 at *
      have hS : (fun w' : World => w'.heap[nb]? = some (.cells (newsc (.slice (some ⟨gh, 0, none⟩) n3 n3)).toArray 41 (0, 0)) ∧ w'.heap[wr.heap.size]? = some (.cells (hc4 t).toArray 43 (0, 0))) v5 := ⟨h5.get 1 rfl, hb5⟩
      refine any_take 0 (some 122) (.pointer (some ⟨nb, 0, none⟩)) rfl rfl (by kernel_rfl) (by kernel_rfl) (by kernel_rfl) (fun _ _ _ h => h) (.inl ⟨by kernel_rfl, fun _ _ => by kernel_rfl⟩) (by assumption) ?_
      simp only [Act.put, List.setIfInBounds_toArray, List.set_cons_zero, List.set_cons_succ]
      refine any_take 1 (some 123) (.pointer (some ⟨nb, 0, none⟩)) rfl rfl (by kernel_rfl) (by kernel_rfl) (by kernel_rfl) (fun _ _ _ h => h) (.inl ⟨by kernel_rfl, fun _ _ => by kernel_rfl⟩) (by assumption) ?_
      simp only [Act.put, List.setIfInBounds_toArray, List.set_cons_zero, List.set_cons_succ]
      refine any_take 2 (some 124) (.pointer (some ⟨nb, 1, none⟩)) rfl rfl (by kernel_rfl) (by kernel_rfl) (by kernel_rfl) (fun _ _ _ h => h) (.inl ⟨by kernel_rfl, fun _ _ => by kernel_rfl⟩) (by assumption) ?_
      simp only [Act.put, List.setIfInBounds_toArray, List.set_cons_zero, List.set_cons_succ]
      refine any_take 3 (some 125) (.slice (some ⟨gh, 0, none⟩) n3 n3) rfl rfl (by kernel_rfl) (by kernel_rfl) (by kernel_rfl) (fun _ _ _ h => h) (yld_cell (by kernel_rfl) 37 (.tmp 124) rfl nb 1 (by kernel_rfl) _ 41 (fun w' e => e.1) _ Yba.underlying37 rfl _ rfl) (by assumption) ?_
      simp only [Act.put, List.setIfInBounds_toArray, List.set_cons_zero, List.set_cons_succ]
      refine any_take 4 (some 126) (.int .i64 i) rfl rfl (by kernel_rfl) (by kernel_rfl) (by kernel_rfl) (fun _ _ _ h => h) (.inl ⟨by kernel_rfl, fun _ _ => by kernel_rfl⟩) (by assumption) ?_
      simp only [Act.put, List.setIfInBounds_toArray, List.set_cons_zero, List.set_cons_succ]
      refine any_take 5 (some 127) (.pointer (some ⟨wr.heap.size, 1, none⟩)) rfl rfl (by kernel_rfl) (by kernel_rfl) (by kernel_rfl) (fun _ _ _ h => h) (.inl ⟨by kernel_rfl, fun _ _ => by kernel_rfl⟩) (by assumption) ?_
      simp only [Act.put, List.setIfInBounds_toArray, List.set_cons_zero, List.set_cons_succ]
      refine any_take 6 (some 128) (.int .u8 t.b) rfl rfl (by kernel_rfl) (by kernel_rfl) (by kernel_rfl) (fun _ _ _ h => h) (yld_cell (by kernel_rfl) 5 (.tmp 127) rfl wr.heap.size 1 (by kernel_rfl) _ 43 (fun w' e => e.2) _ Yba.underlying5 rfl _ rfl) (by assumption) ?_
      simp only [Act.put, List.setIfInBounds_toArray, List.set_cons_zero, List.set_cons_succ]
      refine any_take 8 (some 130) (.pointer (some ⟨wr.heap.size, 0, none⟩)) rfl rfl (by kernel_rfl) (by kernel_rfl) (by kernel_rfl) (fun _ _ _ h => h) (.inl ⟨by kernel_rfl, fun _ _ => by kernel_rfl⟩) (by assumption) ?_
      simp only [Act.put, List.setIfInBounds_toArray, List.set_cons_zero, List.set_cons_succ]
      refine any_take 9 (some 131) (.int .u8 t.n) rfl rfl (by kernel_rfl) (by kernel_rfl) (by kernel_rfl) (fun _ _ _ h => h) (yld_cell (by kernel_rfl) 5 (.tmp 130) rfl wr.heap.size 0 (by kernel_rfl) _ 43 (fun w' e => e.2) _ Yba.underlying5 rfl _ rfl) (by assumption) ?_
      simp only [Act.put, List.setIfInBounds_toArray, List.set_cons_zero, List.set_cons_succ]
      refine any_take 10 (some 132) (.int .u8 (t.n.tmod 8)) rfl rfl (by kernel_rfl) (by kernel_rfl) (by kernel_rfl) (fun _ _ _ h => h) (.inl ⟨by kernel_rfl, fun _ _ => by kernel_rfl⟩) (by assumption) ?_
      simp only [Act.put, List.setIfInBounds_toArray, List.set_cons_zero, List.set_cons_succ]
      refine any_take 11 (some 133) (.int .i64 (cv (t.n.tmod 8))) rfl rfl (by kernel_rfl) (by kernel_rfl) (by kernel_rfl) (fun _ _ _ h => h) (.inl ⟨by kernel_rfl, fun w' _ => exec_conv53 (.tmp 132) rfl (t.n.tmod 8) (by kernel_rfl)⟩) (by assumption) ?_
      simp only [Act.put, List.setIfInBounds_toArray, List.set_cons_zero, List.set_cons_succ]
      refine any_take 12 (some 134) (.pointer (some ⟨wr.heap.size, 2, none⟩)) rfl rfl (by kernel_rfl) (by kernel_rfl) (by kernel_rfl) (fun _ _ _ h => h) (.inl ⟨by kernel_rfl, fun _ _ => by kernel_rfl⟩) (by assumption) ?_
      simp only [Act.put, List.setIfInBounds_toArray, List.set_cons_zero, List.set_cons_succ]
      refine any_take 13 (some 135) (.bool t.r) rfl rfl (by kernel_rfl) (by kernel_rfl) (by kernel_rfl) (fun _ _ _ h => h) (yld_cell (by kernel_rfl) 4 (.tmp 134) rfl wr.heap.size 2 (by kernel_rfl) _ 43 (fun w' e => e.2) _ Yba.underlying4 rfl _ rfl) (by assumption) ?_
      simp only [Act.put, List.setIfInBounds_toArray, List.set_cons_zero, List.set_cons_succ]
      refine any_take 14 (some 136) (.pointer (some ⟨wr.heap.size, 3, none⟩)) rfl rfl (by kernel_rfl) (by kernel_rfl) (by kernel_rfl) (fun _ _ _ h => h) (.inl ⟨by kernel_rfl, fun _ _ => by kernel_rfl⟩) (by assumption) ?_
      simp only [Act.put, List.setIfInBounds_toArray, List.set_cons_zero, List.set_cons_succ]
      refine any_take 15 (some 137) (.int .u8 t.f) rfl rfl (by kernel_rfl) (by kernel_rfl) (by kernel_rfl) (fun _ _ _ h => h) (yld_cell (by kernel_rfl) 5 (.tmp 136) rfl wr.heap.size 3 (by kernel_rfl) _ 43 (fun w' e => e.2) _ Yba.underlying5 rfl _ rfl) (by assumption) ?_
      simp only [Act.put, List.setIfInBounds_toArray, List.set_cons_zero, List.set_cons_succ]
      refine any_take 16 (some 138) (.int .i64 (cv t.f)) rfl rfl (by kernel_rfl) (by kernel_rfl) (by kernel_rfl) (fun _ _ _ h => h) (.inl ⟨by kernel_rfl, fun w' _ => exec_conv53 (.tmp 137) rfl t.f (by kernel_rfl)⟩) (by assumption) ?_
      simp only [Act.put, List.setIfInBounds_toArray, List.set_cons_zero, List.set_cons_succ]
      refine any_call 7 (some 129) 5 #[.int .u8 t.b] rfl rfl (by kernel_rfl) (by kernel_rfl) (by kernel_rfl) ?_
      refine (aid_any t.b _).mono ?_
      rintro e v6 ⟨rfl, q6⟩
      have h6 := h5.grow q6
      have hb6 := keep_blk q6 hb5 (by simp)
      refine ⟨_, rfl, ⟨h6.get 1 rfl, hb6⟩, ?_⟩
      simp only [Act.put, List.setIfInBounds_toArray, List.set_cons_zero, List.set_cons_succ]
      clear hS h5 hb5 q6
      have hS : (fun w' : World => w'.heap[nb]? = some (.cells (newsc (.slice (some ⟨gh, 0, none⟩) n3 n3)).toArray 41 (0, 0)) ∧ w'.heap[wr.heap.size]? = some (.cells (hc4 t).toArray 43 (0, 0))) v6 := ⟨h6.get 1 rfl, hb6⟩
      refine any_take 17 (some 139) (.agg (tc (tid t)).toArray) rfl rfl (by kernel_rfl) (by kernel_rfl) (by kernel_rfl) (fun _ _ _ h => h) (.inl ⟨by kernel_rfl, fun w' _ => exec_build45 (.tmp 129) (.tmp 133) (.tmp 135) (.tmp 138) rfl (tid t) (by kernel_rfl) (by kernel_rfl) (by kernel_rfl) (by kernel_rfl)⟩) (by assumption) ?_
      simp only [Act.put, List.setIfInBounds_toArray, List.set_cons_zero, List.set_cons_succ]
      refine any_take 18 (some 140) (.pointer (some ⟨gh, i * 23, none⟩)) rfl rfl (by kernel_rfl) (by kernel_rfl) (by kernel_rfl) (fun _ _ _ h => h) (.inl ⟨by kernel_rfl, fun w' _ => exec_index (.tmp 125) (.tmp 126) rfl Yba.underlying37 hi45 hs45 gh n3 n3 i hin (by kernel_rfl) (by kernel_rfl)⟩) (by assumption) ?_
      simp only [Act.put, List.setIfInBounds_toArray, List.set_cons_zero, List.set_cons_succ]
      have hblk : Blk tc v6 gh 45 (pre tid0 (hd.map tid) i) := h6.get 0 rfl
      have ngh : wr.heap.size ≠ gh := blk_ne hb6 hblk (by decide)
      refine any_store_row 19 rfl rfl (by kernel_rfl) (by kernel_rfl) 45 (.tmp 140) (.tmp 139) rfl gh i (.agg (tc (tid t)).toArray) (by kernel_rfl) (by kernel_rfl) hblk tc_len size45' tc_one (by rw [pre_len _ _ (by omega)]; omega) (tid t) rfl ?_
      intro v7 hb7 k7
      rw [pre_set tid0 (hd.map tid) (show (hd.map tid)[i]? = some (tid t) by simp [ht])] at hb7
      have h7 := h6.upd 0 rfl k7 hb7
      simp only [List.set_cons_zero] at h7
      refine ⟨⟨h7.get 1 rfl, keep_blk k7 hb6 (by simpa using ngh)⟩, ?_⟩
      simp only [Act.put, List.setIfInBounds_toArray, List.set_cons_zero, List.set_cons_succ]
      refine wpAnyH_done (by kernel_rfl) ?_ _
      clear h6 hb6 hb7 k7 hblk ngh hS
      go_wp2_with fail
      go_roundg (n3 - (i + 1))
      case measure => omega
      case rel => exact ⟨i + 1, by omega, by go_num, h7⟩
    · have hin' : n3 = i := by omega
      subst hin'
      have h' : Hs w.heap.size w wr [(gh, .cells ((hd.map tid).flatMap tc).toArray 45), (nb, .cells (newsc (.slice (some ⟨gh, 0, none⟩) n3 n3)).toArray 41), (g2, .cells (rs.flatMap idc).toArray 26), (g1, .cells (ms.flatMap idc).toArray 26), (sb, .cells (setc (.slice (some ⟨g1, 0, none⟩) n1 n1) (.slice (some ⟨g2, 0, none⟩) n2 n2)).toArray 34)] := by
        have e : pre tid0 (hd.map tid) n3 = hd.map tid := by rw [← l3']; exact pre_full _ _
        rw [e] at h; exact h
      clear h
      have b1 : Blk idc wr g1 26 ms := h'.get 3 rfl
      have b2 : Blk idc wr g2 26 rs := h'.get 2 rfl
      have bh : Blk tc wr gh 45 (hd.map tid) := h'.get 0 rfl
      have hset := h'.get 4 rfl
      have hnews := h'.get 1 rfl
      have HF : Hid (Hs w.heap.size w wr _) := h'
      clear h'
      go_wp2_with (refine wpList_is (.load 31 (.tmp 144)) rfl ?_; refine wpList_load_cell rfl 31 (.tmp 144) rfl sb 24 rfl _ _ hset _ Yba.underlying31 rfl _ (setc_ids _ _) ?_)
      refine (clone6_any (by rw [flat_len idc_len, l1]) b1.cells (flat_one idc_one ms) (by omega)).mono ?_
      rintro e u1 ⟨k1, e1, rfl, hle1, o1, q1⟩
      have hset1 := keep_blk q1 hset (by simp)
      go_wp2_with (refine wpList_is (.load 31 (.tmp 149)) rfl ?_; refine wpList_load_cell rfl 31 (.tmp 149) rfl sb 26 rfl _ _ hset1 _ Yba.underlying31 rfl _ (setc_ref _ _) ?_)
      refine (clone6_any (by rw [flat_len idc_len, l2]) (b2.kept q1 (by simp)).cells (flat_one idc_one rs) (by omega)).mono ?_
      rintro e u2 ⟨k2, e2, rfl, hle2, o2, q2⟩
      have hnews2 := keep_blk q2 (keep_blk q1 hnews (by simp)) (by simp)
      go_wp2_with (refine wpList_is (.load 37 (.tmp 154)) rfl ?_; refine wpList_load_cell rfl 37 (.tmp 154) rfl nb 1 rfl _ _ hnews2 _ Yba.underlying37 rfl _ (newsc_heard _) ?_)
      refine (clone7_any (by rw [flat_len tc_len, l3']) ((bh.kept q1 (by simp)).kept q2 (by simp)).cells (flat_one tc_one _) (by omega)).mono ?_
      rintro e u3 ⟨k3, e3, rfl, hle3, o3, q3⟩
      have qq := grown_trans q1 (grown_trans q2 q3)
      have hf := Hs.grow HF qq
      have o1' := own_kept (own_kept o1 q2 (by simp)) q3 (by simp)
      have o2' := own_kept o2 q3 (by simp)
      have x1 := keep_blk qq hset (by simp)
      have x2 := b1.kept qq (by simp)
      have x3 := b2.kept qq (by simp)
      have x4 := keep_blk qq hnews (by simp)
      have x5 := bh.kept qq (by simp)
      have hB := hf.below
      have hBs := hf.size
      clear HF hf hset hnews b1 b2 bh o1 o2 q1 q2 q3 qq hset1 hnews2 hle1 hle2 hle3
      rename_i hKc K2 hKw
      have HK : Hid _ := hKc
      clear hKc
      go_wp2_with fail
      refine by_K (c := ?cc) (Q := ?QQ) ?hr ?ht
      case hr => exact HK
      exact tail26 w u3 a1 a2 a3 a4 n1 c10 n2 c20 n3 c30 n4 c40 sb nb k1 e1 k2 e2 k3 e3 g1 g2 gh ms rs ps hd sB sf su uB hB hBs hsm l1 l2 l3 l4 r1 r2 r3 r4 z1 z2 x1 x2 x3 x4 x5 o1' o2' o3 f1 f2 f3 fs fu _ _ _ _ _ _ _ _ _ _ _ _ _ _ _ _ _ _ _ _ _ _ _ _ _ _ _ _ _ _ _ _ _ _ _ _ _ _ _ _ _ _ _ _ _ _ _ _ _ _ _ _ _ _ _ _ _ _ _ _ _ _ _ _ _ _ _ _ _ _ _ _ _ _ _ _ _ _ _ _ _ _ _ _ _ _ _ _ _ _ _ _ _ _ _ _ _ _ _ _ _ _ _ _ _ _ _ _ _ _ _ _ _ _ _ _ _ _ _ _ _ _ _ _ _ _ _ _ _ _ _ _ _ _ _ _ _ _ _ _ _ _ _ _ _ _ _ _ _ _ _ _ _ _ _ _ _ _ _ _ _ _ _ _ _ _ _ _ _ _ _ _ _ _ _ _ _ _ _ _ _ _ _ _ _ _ _ _ _ _ _ _ _ _ _ _ _ _ _ _ _ _ _ _ _ _ _ _ _ _ _ _ _ _ _ _ _ _ _ _ _ _ _ _ _ _ _ _ _ _ _ _ _ _ _ _ _ _ _ _ _ _ _ _ _ _ _ _ _ _ _ _ _ _ _ _ _ _ _ _ _ _ _ _ _ _ _ _ _ _ _ _ _ _ _ _ _ _ _ _ _ _ _ _ _ _ _ _ _ _ _ _ _ _ _ _ _ _ _ _ _ _ _ _ _ _ _ _ _ _ _ _ _ _ _ _ _ _ _ _ _ _ _ _ _ _ _ _ _ _ _ _ _ _ _ _ _ _ _ _ _ _ _ _ _ _ _ _ _ _ _ _ _ _ _ _ _ _ _ _ _ _ _ _ _ _ _ _ _ _ _ _ _ _ _ _ _ _ _ _ _ _ _ _ _ _ _ _ _ _ _ _

end Go.Proofs.Ybulkdspq
