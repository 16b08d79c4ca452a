/-
  LawS5970AWhole: the loop that fills the fan-out (from region 32 on).
-/
import Derived.Test.YbulkdspqAT40
namespace Go.Proofs.Ybulkdspq
open Go.RowKit
set_option linter.unusedSimpArgs false
set_option linter.unusedVariables false

theorem run_storeS {a : Act} {o : Oper} {w : World} (ty : TypeId) (x y : Operand) (ho : o.op = .store ty x y) {B : Nat} {w0 : World} {L : List (Nat × Obj)} (hh : Hs B w0 w L) (n g k : Nat) (cur : Array Value) (t : TypeId) (v : Value) (hn : L[n]? = some (g, .cells cur t)) (hx : a.eval x = .pointer (some ⟨g, k, none⟩)) (hy : a.eval y = v) (cs : List Value) (hv : v.cells = cs.toArray) (hsz : (Yba.prog.info? ty).map (·.size) = some cs.length) (h1 : ∀ u ∈ cs, u.oneCell' = true) (hl : k + cs.length ≤ cur.size) :
    ∃ w' cur', (execOp a.eval o).run Yba.prog w = .ok .skip w' ∧ cur'.size = cur.size ∧ Hs B w0 w' (L.set n (g, .cells cur' t)) ∧ w.grownBy w' (some g) := by
  have hb := hh.get n hn
  obtain ⟨cur', hr, hs⟩ := run_store_sz (P := Yba.prog) (ty := ty) hb v cs hv hsz h1 hl
  have gg : w.grownBy (w.setRow g cur') (some g) := ⟨rfl, rfl, rfl, by simp [World.setRow], fun k _ hk => setRow_other _ _ _ _ (fun e => hk (by rw [e]))⟩
  refine ⟨_, cur', ?_, hs, hh.upd n hn gg (setRow_heap _ _ _ _ _ _ hb), gg⟩
  unfold execOp
  simp only [ho, hx, hy, Instr.storeAt, Instr.sureAddr, Sem.run_bind, Sem.run_pure, Result.andThen_ok, hr]
theorem wpList_storeS {ops : Array Oper} {rest : List Oper} {a : Act} {o : Oper} {w : World} {Q : Exit → Act → World → Prop} (hgd : o.guard = none) (ty : TypeId) (x y : Operand) (ho : o.op = .store ty x y) {B : Nat} {w0 : World} {L : List (Nat × Obj)} (hh : Hs B w0 w L) (n g k : Nat) (cur : Array Value) (t : TypeId) (v : Value) (hn : L[n]? = some (g, .cells cur t)) (hx : a.eval x = .pointer (some ⟨g, k, none⟩)) (hy : a.eval y = v) (cs : List Value) (hv : v.cells = cs.toArray) (hsz : (Yba.prog.info? ty).map (·.size) = some cs.length) (h1 : ∀ u ∈ cs, u.oneCell' = true) (hl : k + cs.length ≤ cur.size)
    (h : ∀ w' cur', cur'.size = cur.size → Hs B w0 w' (L.set n (g, .cells cur' t)) → wpList Yba.prog ops Q rest (a.put o.dst undef) w') : wpList Yba.prog ops Q (o :: rest) a w := by
  obtain ⟨w', cur', hr, hs, hH, _⟩ := run_storeS ty x y ho hh n g k cur t v hn hx hy cs hv hsz h1 hl
  refine wpList_plain hgd fun K hK => ?_
  unfold Oper.wp
  simp only [hr, Oper.upon]
  exact hK _ _ (h w' cur' hs hH)

section
variable {ops : Array Oper} {S : World → Prop} {a : Act} {md : Region.Mode} {Q : Exit → Act → World → Prop}
theorem any_storeS (i : Nat) {fuel : Nat} {o : Oper} {listed : Array Bool} {w : World} (hi : ops[i]? = some o) (hd : o.dst = none) (hr : Region.ready md ops listed = [i]) (hw : Region.wanted o (yielded ops a.tmps) = true)
    (ty : TypeId) (x y : Operand) (ho : o.op = .store ty x y) {B : Nat} {w0 : World} {L : List (Nat × Obj)} (hh : Hs B w0 w L) (n g k : Nat) (cur : Array Value) (t : TypeId) (v : Value) (hn : L[n]? = some (g, .cells cur t)) (hx : a.eval x = .pointer (some ⟨g, k, none⟩)) (hy : a.eval y = v) (cs : List Value) (hv : v.cells = cs.toArray) (hsz : (Yba.prog.info? ty).map (·.size) = some cs.length) (h1 : ∀ u ∈ cs, u.oneCell' = true) (hl : k + cs.length ≤ cur.size)
    (h : ∀ w' cur', cur'.size = cur.size → Hs B w0 w' (L.set n (g, .cells cur' t)) → S w' ∧ wpAnyH Yba.prog md ops Q S fuel (listed.setIfInBounds i true) (a.put none undef) w') : wpAnyH Yba.prog md ops Q S (fuel + 1) listed a w := by
  obtain ⟨w', cur', hrun, hs, hH, _⟩ := run_storeS ty x y ho hh n g k cur t v hn hx hy cs hv hsz h1 hl
  have hh' := h w' cur' hs hH
  exact any_skip i _ hi hr hw hrun hh'.1 (by rw [hd]; exact hh'.2)
end

set_option maxRecDepth 1000000 in
set_option maxHeartbeats 8000000 in
theorem tail32 (w wq wz : World) (a1 a2 a3 a4 : Option Addr) (n1 c10 n2 c20 n3 c30 n4 c40 lb fb I N V A sb nb k1 e1 k2 e2 k3 e3 g1 g2 gh : Nat) (ms rs ps : List Int) (hd : List Hd) (sB sf su uB : Int) (hB : Below w.heap.size w wq) (hBs : w.heap.size ≤ wq.heap.size) (hsm : n1 + n2 + n3 + n4 ≤ 8192) (l1 : ms.length = n1) (l2 : rs.length = n2) (l3 : hd.length = n3) (l4 : ps.length = n4) (r1 : Rd1 w a1 ms) (r2 : Rd1 w a2 rs) (r3 : Rd3 w a3 hd) (r4 : Rd1 w a4 ps)
    (z1 : a1 = none → n1 = 0 ∧ c10 = 0) (z2 : a2 = none → n2 = 0 ∧ c20 = 0) (hset : wq.heap[sb]? = some (.cells (setc (.slice (some ⟨g1, 0, none⟩) n1 n1) (.slice (some ⟨g2, 0, none⟩) n2 n2)).toArray 34 (0, 0))) (b1 : Blk idc wq g1 26 ms) (b2 : Blk idc wq g2 26 rs) (hnews : wq.heap[nb]? = some (.cells (newsc (.slice (some ⟨gh, 0, none⟩) n3 n3)).toArray 41 (0, 0))) (bh : Blk tc wq gh 45 (hd.map tid))
    (o1 : wq.ownsRow 0 26 20 (.slice (some ⟨k1, 0, none⟩) n1 e1) n1 (ms.flatMap idc)) (o2 : wq.ownsRow 0 26 20 (.slice (some ⟨k2, 0, none⟩) n2 e2) n2 (rs.flatMap idc)) (o3 : wq.ownsRow 0 45 23 (.slice (some ⟨k3, 0, none⟩) n3 e3) n3 ((hd.map tid).flatMap tc))
    (f1 : ∀ b ∈ ms, (Lit.int .u8 b).wf = true) (f2 : ∀ b ∈ rs, (Lit.int .u8 b).wf = true) (f3 : ∀ h ∈ hd, (Lit.int .u8 h.b).wf = true) (fs : (Lit.int .u8 sB).wf = true) (fu : (Lit.int .u8 uB).wf = true) (hF0 : F4 wq wz n4 lb fb I N V A) (s8 s9 s10 s11 s12 s13 s14 s15 s16 s18 s19 s20 s21 s23 s24 s30 s31 s32 s33 s34 s35 s36 s37 s38 s39 s40 s41 s42 s43 s44 s45 s46 s47 s48 s49 s50 s51 s52 s53 s54 s55 s56 s57 s58 s59 s60 s61 s62 s63 s64 s65 s66 s67 s68 s69 s70 s71 s72 s73 s74 s75 s76 s77 s78 s79 s80 s81 s82 s83 s84 s85 s86 s87 s88 s89 s90 s91 s92 s93 s94 s95 s96 s97 s98 s99 s100 s101 s102 s103 s104 s105 s106 s107 s108 s109 s110 s111 s112 s113 s114 s115 s116 s117 s118 s119 s120 s121 s122 s123 s124 s125 s126 s127 s128 s129 s130 s131 s132 s133 s134 s135 s136 s137 s138 s139 s140 s141 s142 s143 s144 s145 s146 s147 s148 s149 s150 s151 s152 s153 s154 s155 s156 s157 s158 s159 s160 s161 s162 s163 s164 s165 s166 s167 s168 s169 s170 s171 s172 s173 s174 s175 s176 s177 s178 s179 s180 s181 s182 s183 s184 s185 s186 s187 s188 s189 s190 s191 s192 s193 s194 s195 s196 s197 s198 s199 s200 s201 s202 s203 s204 s205 s206 s207 s208 s209 s210 s211 s212 s213 s214 s215 s216 s217 s218 s219 s220 s221 s222 s223 s224 s225 s226 s227 s228 s229 s230 s231 s232 s233 s234 s235 s236 s237 s238 s239 s240 s241 s242 s243 s244 s245 s246 s247 s248 s249 s250 s251 s252 s253 s254 s255 s256 s257 s258 s259 s260 s261 s262 s263 s264 s265 s266 s267 s268 s269 s270 s271 s272 s273 s274 s275 s276 s277 s278 s279 s280 s281 s282 s283 s284 s285 s286 s287 s288 s289 s290 s291 s292 s293 s294 s295 s296 s297 s298 s299 s300 s301 s302 s303 s304 s305 s306 s307 s308 s309 s310 s311 s312 s313 s314 s315 s316 s317 s318 s319 s320 s321 s322 s323 s324 s325 s326 s327 s328 s329 s330 s331 s332 s333 s334 s335 s336 s337 s338 s339 s340 s341 s342 s343 s344 s345 s346 s347 s348 s349 s350 s351 s352 s353 s354 s355 s356 s357 s358 s359 s360 s361 s362 s363 s364 s365 s366 s367 s368 s369 s370 s371 s372 s373 s374 s375 s376 s377 s378 s379 s380 s381 s382 s383 s384 s385 s386 s387 s388 s389 s390 s391 s392 s393 s394 s395 s396 s397 s398 s399 s400 s401 s402 s403 s404 : Value) :
    Code.wp Yba.prog (tailAt 32) (bodyPost Yba.prog Yba.f3 fun e w' => e = .returned (.bool true) ∧ Below w.heap.size w w') ⟨#[.slice a1 n1 c10, .slice a2 n2 c20, .slice a3 n3 c30, .slice a4 n4 c40, .int .i64 sf, .int .u8 sB, .int .i64 su, .int .u8 uB, s8, s9, s10, s11, s12, s13, s14, s15, s16, .pointer (some ⟨sb, 0, none⟩), s18, s19, s20, s21, .pointer (some ⟨nb, 0, none⟩), s23, s24, .slice (some ⟨k1, 0, none⟩) n1 e1, .slice (some ⟨k2, 0, none⟩) n2 e2, .slice (some ⟨k3, 0, none⟩) n3 e3, .pointer (some ⟨lb, 0, none⟩), .pointer (some ⟨fb, 0, none⟩), s30, s31, s32, s33, s34, s35, s36, s37, s38, s39, s40, s41, s42, s43, s44, s45, s46, s47, s48, s49, s50, s51, s52, s53, s54, s55, s56, s57, s58, s59, s60, s61, s62, s63, s64, s65, s66, s67, s68, s69, s70, s71, s72, s73, s74, s75, s76, s77, s78, s79, s80, s81, s82, s83, s84, s85, s86, s87, s88, s89, s90, s91, s92, s93, s94, s95, s96, s97, s98, s99, s100, s101, s102, s103, s104, s105, s106, s107, s108, s109, s110, s111, s112, s113, s114, s115, s116, s117, s118, s119, s120, s121, s122, s123, s124, s125, s126, s127, s128, s129, s130, s131, s132, s133, s134, s135, s136, s137, s138, s139, s140, s141, s142, s143, s144, s145, s146, s147, s148, s149, s150, s151, s152, s153, s154, s155, s156, s157, s158, s159, s160, s161, s162, s163, s164, s165, s166, s167, s168, s169, s170, s171, s172, s173, s174, s175, s176, s177, s178, s179, s180, s181, s182, s183, s184, s185, s186, s187, s188, s189, s190, s191, s192, s193, s194, s195, s196, s197, s198, s199, s200, s201, s202, s203, s204, s205, s206, s207, s208, s209, s210, s211, s212, s213, s214, s215, s216, s217, s218, s219, s220, s221, s222, s223, s224, s225, s226, s227, s228, s229, s230, s231, s232, s233, s234, s235, s236, s237, s238, s239, s240, s241, s242, s243, s244, s245, s246, s247, s248, s249, s250, s251, s252, s253, s254, s255, s256, s257, s258, s259, s260, s261, s262, s263, s264, s265, s266, s267, s268, s269, s270, s271, s272, s273, s274, s275, s276, s277, s278, s279, s280, s281, s282, s283, s284, s285, s286, s287, s288, s289, s290, s291, s292, s293, s294, s295, s296, s297, s298, s299, s300, s301, s302, s303, s304, s305, s306, s307, s308, s309, s310, s311, s312, s313, s314, s315, s316, s317, s318, s319, s320, s321, s322, s323, s324, s325, s326, s327, s328, s329, s330, s331, s332, s333, s334, s335, s336, s337, s338, s339, s340, s341, s342, s343, s344, s345, s346, s347, s348, s349, s350, s351, s352, s353, s354, s355, s356, s357, s358, s359, s360, s361, s362, s363, s364, s365, s366, s367, s368, s369, s370, s371, s372, s373, s374, s375, s376, s377, s378, s379, s380, s381, s382, s383, s384, s385, s386, s387, s388, s389, s390, s391, s392, s393, s394, s395, s396, s397, s398, s399, s400, s401, s402, s403, s404], []⟩ wz := by
  conv => arg 2; whnf
  obtain ⟨i26, hi26, _, hs26, _⟩ := info_parts info26
  obtain ⟨i3, hi3, _, hs3, _⟩ := info_parts info3
  obtain ⟨i54, hi54, _, hs54, _⟩ := info_parts info54
  go_wp2_with fail
  go_loopg [186] n4 (fun g v wr => ∃ i : Nat, i + g = n4 ∧ v = .int .i64 i ∧ F4 wq wr n4 lb fb I N V A)
  case atStart => exact ⟨0, by omega, rfl, hF0⟩
  case round =>
    clear hF0
    obtain ⟨i, hi, rfl, hF4⟩ := hrel
    by_cases hin : i < n4
    · obtain ⟨d1, d2, d3, d4, hd1, hd2, hd3, hd4, hF⟩ := hF4
      obtain ⟨p, hp⟩ : ∃ p, ps[i]? = some p := ⟨_, List.getElem?_eq_getElem (by omega)⟩
      obtain ⟨b, o, rfl, hb, hc0⟩ := r4 i p hp
      have hin' : (i : Int) < (n4 : Int) := by omega
      have hBr : Below w.heap.size w wr := hB.trans (hF.below.mono hBs)
      have hc : wr.cell? ⟨b, o + i, none⟩ = some (.int .u8 p) := (hBr.cell (p := ⟨b, _, none⟩) hb).trans hc0
      have HF : Hid (Hs wq.heap.size wq wr _) := hF
      have hfan := hF.get 4 rfl
      clear hF
      go_upto_region 35 with fail
      refine wp_region_held (S := fun w' : World => w'.heap[fb]? = some (.cells (fanc (.func (.func 8) #[] #[.pointer (some ⟨lb, 0, none⟩)]) .nilFunc (.slice (some ⟨I, 0, none⟩) n4 n4) (.slice (some ⟨N, 0, none⟩) n4 n4) (.slice (some ⟨V, 0, none⟩) n4 n4) (.slice (some ⟨A, 0, none⟩) n4 n4)).toArray 53 (0, 0))) (by kernel_rfl) ?_
      have h1 := Hs.grow HF (grown_drew wr)
      clear HF hc hBr
      have hS : (fun w' : World => w'.heap[fb]? = some (.cells (fanc (.func (.func 8) #[] #[.pointer (some ⟨lb, 0, none⟩)]) .nilFunc (.slice (some ⟨I, 0, none⟩) n4 n4) (.slice (some ⟨N, 0, none⟩) n4 n4) (.slice (some ⟨V, 0, none⟩) n4 n4) (.slice (some ⟨A, 0, none⟩) n4 n4)).toArray 53 (0, 0))) { wr with drawn := wr.drawn + 1 } := hfan
      clear hfan
      generalize ({ wr with drawn := wr.drawn + 1 } : World) = v1 at *
      refine any_take 0 (some 191) (.pointer (some ⟨fb, 0, none⟩)) rfl rfl (by kernel_rfl) (by kernel_rfl) (by kernel_rfl) (fun _ _ _ h => h) (.inl ⟨by kernel_rfl, fun _ _ => by kernel_rfl⟩) (by assumption) ?_
      simp only [Act.put, List.setIfInBounds_toArray, List.set_cons_zero, List.set_cons_succ]
      refine any_take 1 (some 192) (.pointer (some ⟨fb, 0, none⟩)) rfl rfl (by kernel_rfl) (by kernel_rfl) (by kernel_rfl) (fun _ _ _ h => h) (.inl ⟨by kernel_rfl, fun _ _ => by kernel_rfl⟩) (by assumption) ?_
      simp only [Act.put, List.setIfInBounds_toArray, List.set_cons_zero, List.set_cons_succ]
      refine any_take 2 (some 193) (.pointer (some ⟨fb, 2, none⟩)) rfl rfl (by kernel_rfl) (by kernel_rfl) (by kernel_rfl) (fun _ _ _ h => h) (.inl ⟨by kernel_rfl, fun _ _ => by kernel_rfl⟩) (by assumption) ?_
      simp only [Act.put, List.setIfInBounds_toArray, List.set_cons_zero, List.set_cons_succ]
      refine any_take 3 (some 194) (.slice (some ⟨I, 0, none⟩) n4 n4) rfl rfl (by kernel_rfl) (by kernel_rfl) (by kernel_rfl) (fun _ _ _ h => h) (yld_cell (by kernel_rfl) 31 (.tmp 193) rfl fb 2 (by kernel_rfl) _ 53 (fun w' e => e) _ Yba.underlying31 rfl _ rfl) (by assumption) ?_
      simp only [Act.put, List.setIfInBounds_toArray, List.set_cons_zero, List.set_cons_succ]
      refine any_take 4 (some 195) (.int .i64 i) rfl rfl (by kernel_rfl) (by kernel_rfl) (by kernel_rfl) (fun _ _ _ h => h) (.inl ⟨by kernel_rfl, fun _ _ => by kernel_rfl⟩) (by assumption) ?_
      simp only [Act.put, List.setIfInBounds_toArray, List.set_cons_zero, List.set_cons_succ]
      refine any_take 5 (some 196) (.int .u8 p) rfl rfl (by kernel_rfl) (by kernel_rfl) (by kernel_rfl) (fun _ _ _ h => h) (.inl ⟨by kernel_rfl, fun _ _ => by kernel_rfl⟩) (by assumption) ?_
      simp only [Act.put, List.setIfInBounds_toArray, List.set_cons_zero, List.set_cons_succ]
      refine any_call 6 (some 197) 5 #[.int .u8 p] rfl rfl (by kernel_rfl) (by kernel_rfl) (by kernel_rfl) ?_
      refine (aid_any p _).mono ?_
      rintro e v2 ⟨rfl, q2⟩
      have h2 := h1.grow q2
      refine ⟨_, rfl, h2.get 4 rfl, ?_⟩
      simp only [Act.put, List.setIfInBounds_toArray, List.set_cons_zero, List.set_cons_succ]
      clear hS h1 q2
      have hS : (fun w' : World => w'.heap[fb]? = some (.cells (fanc (.func (.func 8) #[] #[.pointer (some ⟨lb, 0, none⟩)]) .nilFunc (.slice (some ⟨I, 0, none⟩) n4 n4) (.slice (some ⟨N, 0, none⟩) n4 n4) (.slice (some ⟨V, 0, none⟩) n4 n4) (.slice (some ⟨A, 0, none⟩) n4 n4)).toArray 53 (0, 0))) v2 := h2.get 4 rfl
      refine any_take 7 (some 198) (.pointer (some ⟨I, i * 20, none⟩)) rfl rfl (by kernel_rfl) (by kernel_rfl) (by kernel_rfl) (fun _ _ _ h => h) (.inl ⟨by kernel_rfl, fun w' _ => exec_index (.tmp 194) (.tmp 195) rfl Yba.underlying31 hi26 hs26 I n4 n4 i hin (by kernel_rfl) (by kernel_rfl)⟩) (by assumption) ?_
      simp only [Act.put, List.setIfInBounds_toArray, List.set_cons_zero, List.set_cons_succ]
      have hle : i * 20 + 20 ≤ d1.size := by rw [hd1]; omega
      refine any_storeS 8 rfl rfl (by kernel_rfl) (by kernel_rfl) 26 (.tmp 198) (.tmp 197) rfl h2 3 I (i * 20) d1 26 (.agg (idc p).toArray) rfl (by kernel_rfl) (by kernel_rfl) (idc p) rfl (size26 p) (idc_one p) hle ?_
      intro v3 d1' hs1' h3
      simp only [List.set_cons_zero, List.set_cons_succ] at h3
      refine ⟨h3.get 4 rfl, ?_⟩
      simp only [Act.put, List.setIfInBounds_toArray, List.set_cons_zero, List.set_cons_succ]
      refine wpAnyH_done (by kernel_rfl) ?_ _
      clear h2 hle hS
      have hd1' : d1'.size = n4 * 20 := by rw [hs1', hd1]
      have hf3 := h3.get 4 rfl
      have hle2 : i * 1 + 1 ≤ d2.size := by rw [hd2]; omega
      have hle3 : i * 1 + 1 ≤ d3.size := by rw [hd3]; omega
      go_upto_region 38 with (first
        | (refine wpList_is (.load 38 (.tmp 201)) rfl ?_; refine wpList_load_cell rfl 38 (.tmp 201) rfl fb 3 rfl _ _ hf3 _ Yba.underlying38 rfl _ rfl ?_)
        | (refine wpList_is (.indexAddr 38 (.tmp 202) (.tmp 203)) rfl ?_; refine wpList_index rfl (.tmp 202) (.tmp 203) rfl Yba.underlying38 hi3 hs3 N n4 n4 i hin rfl rfl ?_)
        | (refine wpList_is (.convert 5 3 (.tmp 204)) rfl ?_; refine wpList_conv53 rfl (.tmp 204) rfl p rfl ?_)
        | (refine wpList_is (.store 3 (.tmp 207) (.tmp 206)) rfl ?_; refine wpList_storeS rfl 3 (.tmp 207) (.tmp 206) rfl h3 2 N (i * 1) d2 3 (.int .i64 _) rfl rfl rfl [_] rfl size3 (by intro u hu; simp at hu; subst hu; rfl) hle2 ?_; intro v4 d2' hs2' h4; simp only [List.set_cons_zero, List.set_cons_succ] at h4)
        | (refine wpList_is (.load 51 (.tmp 210)) rfl ?_; refine wpList_load_cell rfl 51 (.tmp 210) rfl fb 4 rfl _ _ (h4.get 4 rfl) _ Yba.underlying51 rfl _ rfl ?_)
        | (refine wpList_is (.indexAddr 51 (.tmp 211) (.tmp 212)) rfl ?_; refine wpList_index rfl (.tmp 211) (.tmp 212) rfl Yba.underlying51 hi54 hs54 V n4 n4 i hin rfl rfl ?_)
        | (refine wpList_is (.store 54 (.tmp 215) (.tmp 214)) rfl ?_; refine wpList_storeS rfl 54 (.tmp 215) (.tmp 214) rfl h4 1 V (i * 1) d3 54 (.int .u8 _) rfl rfl rfl [_] rfl (show (Yba.prog.info? 54).map (·.size) = some 1 by kernel_rfl) (by intro u hu; simp at hu; subst hu; rfl) hle3 ?_; intro v5 d3' hs3' h5; simp only [List.set_cons_zero, List.set_cons_succ] at h5))
      clear h3 h4 hf3 hle2 hle3
      have hd2' : d2'.size = n4 * 1 := by rw [hs2', hd2]
      have hd3' : d3'.size = n4 * 1 := by rw [hs3', hd3]
      refine wp_region_held (S := fun w' : World => w'.heap[fb]? = some (.cells (fanc (.func (.func 8) #[] #[.pointer (some ⟨lb, 0, none⟩)]) .nilFunc (.slice (some ⟨I, 0, none⟩) n4 n4) (.slice (some ⟨N, 0, none⟩) n4 n4) (.slice (some ⟨V, 0, none⟩) n4 n4) (.slice (some ⟨A, 0, none⟩) n4 n4)).toArray 53 (0, 0))) (by kernel_rfl) ?_
      have h6 := Hs.grow h5 (grown_drew v5)
      clear h5
      generalize ({ v5 with drawn := v5.drawn + 1 } : World) = v6 at *
      have hS : (fun w' : World => w'.heap[fb]? = some (.cells (fanc (.func (.func 8) #[] #[.pointer (some ⟨lb, 0, none⟩)]) .nilFunc (.slice (some ⟨I, 0, none⟩) n4 n4) (.slice (some ⟨N, 0, none⟩) n4 n4) (.slice (some ⟨V, 0, none⟩) n4 n4) (.slice (some ⟨A, 0, none⟩) n4 n4)).toArray 53 (0, 0))) v6 := h6.get 4 rfl
      refine any_take 0 (some 216) (.pointer (some ⟨fb, 0, none⟩)) rfl rfl (by kernel_rfl) (by kernel_rfl) (by kernel_rfl) (fun _ _ _ h => h) (.inl ⟨by kernel_rfl, fun _ _ => by kernel_rfl⟩) (by assumption) ?_
      simp only [Act.put, List.setIfInBounds_toArray, List.set_cons_zero, List.set_cons_succ]
      refine any_take 1 (some 217) (.pointer (some ⟨fb, 0, none⟩)) rfl rfl (by kernel_rfl) (by kernel_rfl) (by kernel_rfl) (fun _ _ _ h => h) (.inl ⟨by kernel_rfl, fun _ _ => by kernel_rfl⟩) (by assumption) ?_
      simp only [Act.put, List.setIfInBounds_toArray, List.set_cons_zero, List.set_cons_succ]
      refine any_take 2 (some 218) (.pointer (some ⟨fb, 5, none⟩)) rfl rfl (by kernel_rfl) (by kernel_rfl) (by kernel_rfl) (fun _ _ _ h => h) (.inl ⟨by kernel_rfl, fun _ _ => by kernel_rfl⟩) (by assumption) ?_
      simp only [Act.put, List.setIfInBounds_toArray, List.set_cons_zero, List.set_cons_succ]
      refine any_take 3 (some 219) (.slice (some ⟨A, 0, none⟩) n4 n4) rfl rfl (by kernel_rfl) (by kernel_rfl) (by kernel_rfl) (fun _ _ _ h => h) (yld_cell (by kernel_rfl) 31 (.tmp 218) rfl fb 5 (by kernel_rfl) _ 53 (fun w' e => e) _ Yba.underlying31 rfl _ rfl) (by assumption) ?_
      simp only [Act.put, List.setIfInBounds_toArray, List.set_cons_zero, List.set_cons_succ]
      refine any_take 4 (some 220) (.int .i64 i) rfl rfl (by kernel_rfl) (by kernel_rfl) (by kernel_rfl) (fun _ _ _ h => h) (.inl ⟨by kernel_rfl, fun _ _ => by kernel_rfl⟩) (by assumption) ?_
      simp only [Act.put, List.setIfInBounds_toArray, List.set_cons_zero, List.set_cons_succ]
      refine any_take 5 (some 221) (.int .u8 p) rfl rfl (by kernel_rfl) (by kernel_rfl) (by kernel_rfl) (fun _ _ _ h => h) (.inl ⟨by kernel_rfl, fun _ _ => by kernel_rfl⟩) (by assumption) ?_
      simp only [Act.put, List.setIfInBounds_toArray, List.set_cons_zero, List.set_cons_succ]
      refine any_take 6 (some 222) (.int .u8 (bits .xor .u8 p 85)) rfl rfl (by kernel_rfl) (by kernel_rfl) (by kernel_rfl) (fun _ _ _ h => h) (.inl ⟨by kernel_rfl, fun _ _ => by kernel_rfl⟩) (by assumption) ?_
      simp only [Act.put, List.setIfInBounds_toArray, List.set_cons_zero, List.set_cons_succ]
      refine any_call 7 (some 223) 5 #[.int .u8 (bits .xor .u8 p 85)] rfl rfl (by kernel_rfl) (by kernel_rfl) (by kernel_rfl) ?_
      refine (aid_any (bits .xor .u8 p 85) _).mono ?_
      rintro e v7 ⟨rfl, q7⟩
      have h7 := h6.grow q7
      refine ⟨_, rfl, h7.get 4 rfl, ?_⟩
      simp only [Act.put, List.setIfInBounds_toArray, List.set_cons_zero, List.set_cons_succ]
      clear hS h6 q7
      have hS : (fun w' : World => w'.heap[fb]? = some (.cells (fanc (.func (.func 8) #[] #[.pointer (some ⟨lb, 0, none⟩)]) .nilFunc (.slice (some ⟨I, 0, none⟩) n4 n4) (.slice (some ⟨N, 0, none⟩) n4 n4) (.slice (some ⟨V, 0, none⟩) n4 n4) (.slice (some ⟨A, 0, none⟩) n4 n4)).toArray 53 (0, 0))) v7 := h7.get 4 rfl
      refine any_take 8 (some 224) (.pointer (some ⟨A, i * 20, none⟩)) rfl rfl (by kernel_rfl) (by kernel_rfl) (by kernel_rfl) (fun _ _ _ h => h) (.inl ⟨by kernel_rfl, fun w' _ => exec_index (.tmp 219) (.tmp 220) rfl Yba.underlying31 hi26 hs26 A n4 n4 i hin (by kernel_rfl) (by kernel_rfl)⟩) (by assumption) ?_
      simp only [Act.put, List.setIfInBounds_toArray, List.set_cons_zero, List.set_cons_succ]
      have hle4 : i * 20 + 20 ≤ d4.size := by rw [hd4]; omega
      refine any_storeS 9 rfl rfl (by kernel_rfl) (by kernel_rfl) 26 (.tmp 224) (.tmp 223) rfl h7 0 A (i * 20) d4 26 (.agg (idc (bits .xor .u8 p 85)).toArray) rfl (by kernel_rfl) (by kernel_rfl) (idc (bits .xor .u8 p 85)) rfl (size26 _) (idc_one _) hle4 ?_
      intro v8 d4' hs4' h8
      simp only [List.set_cons_zero, List.set_cons_succ] at h8
      refine ⟨h8.get 4 rfl, ?_⟩
      simp only [Act.put, List.setIfInBounds_toArray, List.set_cons_zero, List.set_cons_succ]
      refine wpAnyH_done (by kernel_rfl) ?_ _
      have hd4' : d4'.size = n4 * 20 := by rw [hs4', hd4]
      have hF8 : F4 wq v8 n4 lb fb I N V A := ⟨d1', d2', d3', d4', hd1', hd2', hd3', hd4', h8⟩
      clear h7 h8 hS hle4
      go_wp2_with fail
      go_roundg (n4 - (i + 1))
      case measure => omega
      case rel => exact ⟨i + 1, by omega, by go_num, hF8⟩
    · have hin' : n4 = i := by omega
      subst hin'
      go_upto_if 187 with fail
      go_step
      go_step
      go_step
      refine by_K (c := ?cc) (Q := ?QQ) ?hr ?ht
      case hr => assumption
      exact tail40 w wq wr a1 a2 a3 a4 n1 c10 n2 c20 n3 c30 n4 c40 lb fb I N V A sb nb k1 e1 k2 e2 k3 e3 g1 g2 gh ms rs ps hd sB sf su uB hB hBs hsm l1 l2 l3 l4 r1 r2 r3 r4 z1 z2 hset b1 b2 hnews bh o1 o2 o3 f1 f2 f3 fs fu hF4 _ _ _ _ _ _ _ _ _ _ _ _ _ _ _ _ _ _ _ _ _ _ _ _ _ _ _ _ _ _ _ _ _ _ _ _ _ _ _ _ _ _ _ _ _ _ _ _ _ _ _ _ _ _ _ _ _ _ _ _ _ _ _ _ _ _ _ _ _ _ _ _ _ _ _ _ _ _ _ _ _ _ _ _ _ _ _ _ _ _ _ _ _ _ _ _ _ _ _ _ _ _ _ _ _ _ _ _ _ _ _ _ _ _ _ _ _ _ _ _ _ _ _ _ _ _ _ _ _ _ _ _ _ _ _ _ _ _ _ _ _ _ _ _ _ _ _ _ _ _ _ _ _ _ _ _ _ _ _ _ _ _ _ _ _ _ _ _ _ _ _ _ _ _ _ _ _ _ _ _ _ _ _ _ _ _ _ _ _ _ _ _ _ _ _ _ _ _ _ _ _ _ _ _ _ _ _ _ _ _ _ _ _ _ _ _ _ _ _ _ _ _ _ _ _ _ _ _ _ _ _ _ _ _ _ _ _ _ _ _ _ _ _ _ _ _ _ _ _ _ _ _ _ _ _ _ _ _ _ _ _ _ _ _ _ _ _ _ _ _ _ _ _ _ _ _ _ _ _ _ _ _ _ _ _ _ _ _ _ _ _ _ _ _ _ _ _ _ _ _ _ _ _ _ _ _ _ _ _ _ _ _ _ _ _ _ _ _ _ _ _ _ _ _ _ _ _ _ _ _ _ _ _ _ _ _ _ _ _ _ _ _ _ _ _ _ _ _ _ _ _ _ _ _ _ _ _ _ _ _ _ _ _ _ _ _ _ _ _ _ _ _ _ _ _ _ _ _ _ _ _ _ _ _ _ _ _ _ _ _ _

end Go.Proofs.Ybulkdspq
