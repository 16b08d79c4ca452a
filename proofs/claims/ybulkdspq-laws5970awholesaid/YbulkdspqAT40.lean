/-
  LawS5970AWhole: the stretch from region 40 on.
-/
import Derived.Test.YbulkdspqAT49
namespace Go.Proofs.Ybulkdspq
open Go.RowKit
set_option linter.unusedSimpArgs false
set_option linter.unusedVariables false

theorem build53 (lb : Nat) (w : World) : (Instr.build 53 #[(0, .func (.func 8) #[] #[.pointer (some ⟨lb, 0, none⟩)])]).run Yba.prog w = .ok (.agg (fanc (.func (.func 8) #[] #[.pointer (some ⟨lb, 0, none⟩)]) .nilFunc (.slice none 0 0) (.slice none 0 0) (.slice none 0 0) (.slice none 0 0)).toArray) w := by kernel_rfl
theorem exec_build53 {a : Act} {o : Oper} {w : World} (x : Operand) (ho : o.op = .build 53 #[(0, x)]) (lb : Nat) (hx : a.eval x = .func (.func 8) #[] #[.pointer (some ⟨lb, 0, none⟩)]) :
    (execOp a.eval o).run Yba.prog w = .ok (.value (.agg (fanc (.func (.func 8) #[] #[.pointer (some ⟨lb, 0, none⟩)]) .nilFunc (.slice none 0 0) (.slice none 0 0) (.slice none 0 0) (.slice none 0 0)).toArray)) w := by
  unfold execOp
  simp only [ho, List.map_toArray, List.map_cons, List.map_nil, hx, Sem.run_bind, build53, Result.andThen_ok, Sem.run_pure]
theorem box53 (fn nf u1 u2 u3 wa : Value) (w : World) : (Instr.box 53 (.agg (fanc fn nf u1 u2 u3 wa).toArray)).run Yba.prog w = .ok (.pointer (some ⟨w.heap.size, 0, none⟩)) (w.alloc (.cells (fanc fn nf u1 u2 u3 wa).toArray 53)) := by kernel_rfl
theorem wpList_box53 {ops : Array Oper} {rest : List Oper} {op : Oper} {a : Act} {w : World} {Q : Exit → Act → World → Prop} (hgd : op.guard = none) (x : Operand) (ho : op.op = .box 53 x) (fn nf u1 u2 u3 wa : Value) (hx : a.eval x = .agg (fanc fn nf u1 u2 u3 wa).toArray)
    (h : wpList Yba.prog ops Q rest (a.put op.dst (.pointer (some ⟨w.heap.size, 0, none⟩))) (w.alloc (.cells (fanc fn nf u1 u2 u3 wa).toArray 53))) : wpList Yba.prog ops Q (op :: rest) a w := by
  refine wpList_plain hgd fun K hK => ?_
  unfold Oper.wp execOp
  simp only [ho, hx, Sem.run_bind, box53, Result.andThen_ok, Sem.run_pure]
  exact hK _ _ h
/-- make([]T, n), its contents left open. -/
theorem wpList_makeC {ops : Array Oper} {rest : List Oper} {op : Oper} {a : Act} {w : World} {Q : Exit → Act → World → Prop} (hgd : op.guard = none) {t e : TypeId} {z : Value} {size bytes : Nat} (ht : Yba.prog.underlying t = some (.slice e)) (hinfo : (Yba.prog.info? e).map (fun i => (i.zero, i.size, i.bytes)) = some (some z, size, bytes)) (hby : bytes ≤ 48) (x : Operand) (ho : op.op = .makeSlice t x x) (n : Nat) (hn : n ≤ 1000000) (hx : a.eval x = .int .i64 (n : Int)) {B : Nat} {w0 : World} {L : List (Nat × Obj)} (hh : Hs B w0 w L)
    (h : ∀ (g : Nat) (cs : Array Value) (w' : World), cs.size = n * size → Hs B w0 w' ((g, .cells cs e) :: L) → wpList Yba.prog ops Q rest (a.put op.dst (.slice (some ⟨g, 0, none⟩) n n)) w') : wpList Yba.prog ops Q (op :: rest) a w :=
  wpList_exec hgd _ (exec_make ht hinfo hby x ho n hn hx) (h _ _ _ (size_madeCells _ _) (hh.new _))
/-- A variable of its own block. -/
theorem wpList_allocC {ops : Array Oper} {rest : List Oper} {op : Oper} {a : Act} {w : World} {Q : Exit → Act → World → Prop} (hgd : op.guard = none) (t : TypeId) (cs : List Value) (ho : op.op = .alloc t) (hr : ∀ w, (Instr.alloc t true (.tuple #[])).run Yba.prog w = .ok (.pointer (some ⟨w.heap.size, 0, none⟩)) (w.alloc (.cells cs.toArray t))) {B : Nat} {w0 : World} {L : List (Nat × Obj)} (hh : Hs B w0 w L)
    (h : ∀ (g : Nat) (w' : World), Hs B w0 w' ((g, .cells cs.toArray t) :: L) → wpList Yba.prog ops Q rest (a.put op.dst (.pointer (some ⟨g, 0, none⟩))) w') : wpList Yba.prog ops Q (op :: rest) a w := by
  refine wpList_plain hgd fun K hK => ?_
  unfold Oper.wp execOp
  simp only [ho, Sem.run_bind, hr, Result.andThen_ok, Sem.run_pure]
  exact hK _ _ (h _ _ (hh.new _))
theorem wpList_boxC {ops : Array Oper} {rest : List Oper} {op : Oper} {a : Act} {w : World} {Q : Exit → Act → World → Prop} (hgd : op.guard = none) (t : TypeId) (x : Operand) (cs : List Value) (ho : op.op = .box t x) (hx : a.eval x = .agg cs.toArray) (hr : ∀ w, (Instr.box t (.agg cs.toArray)).run Yba.prog w = .ok (.pointer (some ⟨w.heap.size, 0, none⟩)) (w.alloc (.cells cs.toArray t))) {B : Nat} {w0 : World} {L : List (Nat × Obj)} (hh : Hs B w0 w L)
    (h : ∀ (g : Nat) (w' : World), Hs B w0 w' ((g, .cells cs.toArray t) :: L) → wpList Yba.prog ops Q rest (a.put op.dst (.pointer (some ⟨g, 0, none⟩))) w') : wpList Yba.prog ops Q (op :: rest) a w := by
  refine wpList_plain hgd fun K hK => ?_
  unfold Oper.wp execOp
  simp only [ho, hx, Sem.run_bind, hr, Result.andThen_ok, Sem.run_pure]
  exact hK _ _ (h _ _ (hh.new _))
/-- One cell of a block of the law's own is stored. -/
theorem wpList_storeC {ops : Array Oper} {rest : List Oper} {op : Oper} {a : Act} {w : World} {Q : Exit → Act → World → Prop} (hgd : op.guard = none) (ty : TypeId) (x y : Operand) (ho : op.op = .store ty x y) {B : Nat} {w0 : World} {L : List (Nat × Obj)} (hh : Hs B w0 w L) (n b k : Nat) (v : Value) (cs : List Value) (t : TypeId) (hn : L[n]? = some (b, .cells cs.toArray t)) (hx : a.eval x = .pointer (some ⟨b, k, none⟩)) (hy : a.eval y = v) (hsz : (Yba.prog.info? ty).map (·.size) = some 1) (hl : k < cs.length) (h1 : v.oneCell' = true) (L' : List (Nat × Obj)) (hL : L.set n (b, .cells (cs.set k v).toArray t) = L')
    (h : ∀ w', Hs B w0 w' L' → wpList Yba.prog ops Q rest (a.put op.dst undef) w') : wpList Yba.prog ops Q (op :: rest) a w := by
  subst hL
  exact wpList_store_cell hgd ty x y ho b k v hx hy cs t (hh.get n hn) hsz hl h1 _ rfl (fun w' hb g => h w' (hh.upd n hn g hb))
theorem alloc31 (w : World) : (Instr.alloc 31 true (.tuple #[])).run Yba.prog w = .ok (.pointer (some ⟨w.heap.size, 0, none⟩)) (w.alloc (.cells [.slice none 0 0].toArray 31)) := by kernel_rfl
theorem alloc38 (w : World) : (Instr.alloc 38 true (.tuple #[])).run Yba.prog w = .ok (.pointer (some ⟨w.heap.size, 0, none⟩)) (w.alloc (.cells [.slice none 0 0].toArray 38)) := by kernel_rfl
theorem alloc51 (w : World) : (Instr.alloc 51 true (.tuple #[])).run Yba.prog w = .ok (.pointer (some ⟨w.heap.size, 0, none⟩)) (w.alloc (.cells [.slice none 0 0].toArray 51)) := by kernel_rfl
theorem alloc3 (w : World) : (Instr.alloc 3 true (.tuple #[])).run Yba.prog w = .ok (.pointer (some ⟨w.heap.size, 0, none⟩)) (w.alloc (.cells [.int .i64 0].toArray 3)) := by kernel_rfl
/-- The fan-out's memory while its rows are filled. -/
def F4 (w0 wr : World) (np lb fb I N V A : Nat) : Prop := ∃ d1 d2 d3 d4 : Array Value, d1.size = np * 20 ∧ d2.size = np * 1 ∧ d3.size = np * 1 ∧ d4.size = np * 20 ∧
  Hs w0.heap.size w0 wr [(A, .cells d4 26), (V, .cells d3 54), (N, .cells d2 3), (I, .cells d1 26),
    (fb, .cells (fanc (.func (.func 8) #[] #[.pointer (some ⟨lb, 0, none⟩)]) .nilFunc (.slice (some ⟨I, 0, none⟩) np np) (.slice (some ⟨N, 0, none⟩) np np) (.slice (some ⟨V, 0, none⟩) np np) (.slice (some ⟨A, 0, none⟩) np np)).toArray 53), (lb, .cells [.slice none 0 0].toArray 31)]

theorem own0_of {w : World} {g n sz : Nat} {e : TypeId} {cur : Array Value} (hb : w.heap[g]? = some (.cells cur e (0, 0))) (hs : cur.size = n * sz) (hm : n ≤ 65536) : w.ownsRow 0 e sz (.slice (some ⟨g, 0, none⟩) 0 n) 0 [] :=
  ⟨by simp, .inr ⟨g, n, cur, rfl, Nat.zero_le _, hb, Nat.zero_le _, by simp [maxLen]; omega, hs, by simp⟩⟩

set_option maxRecDepth 1000000 in
set_option maxHeartbeats 8000000 in
theorem tail40 (w wq wz : World) (a1 a2 a3 a4 : Option Addr) (n1 c10 n2 c20 n3 c30 n4 c40 lb fb I N V A sb nb k1 e1 k2 e2 k3 e3 g1 g2 gh : Nat) (ms rs ps : List Int) (hd : List Hd) (sB sf su uB : Int) (hB : Below w.heap.size w wq) (hBs : w.heap.size ≤ wq.heap.size) (hsm : n1 + n2 + n3 + n4 ≤ 8192) (l1 : ms.length = n1) (l2 : rs.length = n2) (l3 : hd.length = n3) (l4 : ps.length = n4) (r1 : Rd1 w a1 ms) (r2 : Rd1 w a2 rs) (r3 : Rd3 w a3 hd) (r4 : Rd1 w a4 ps)
    (z1 : a1 = none → n1 = 0 ∧ c10 = 0) (z2 : a2 = none → n2 = 0 ∧ c20 = 0) (hset : wq.heap[sb]? = some (.cells (setc (.slice (some ⟨g1, 0, none⟩) n1 n1) (.slice (some ⟨g2, 0, none⟩) n2 n2)).toArray 34 (0, 0))) (b1 : Blk idc wq g1 26 ms) (b2 : Blk idc wq g2 26 rs) (hnews : wq.heap[nb]? = some (.cells (newsc (.slice (some ⟨gh, 0, none⟩) n3 n3)).toArray 41 (0, 0))) (bh : Blk tc wq gh 45 (hd.map tid))
    (o1 : wq.ownsRow 0 26 20 (.slice (some ⟨k1, 0, none⟩) n1 e1) n1 (ms.flatMap idc)) (o2 : wq.ownsRow 0 26 20 (.slice (some ⟨k2, 0, none⟩) n2 e2) n2 (rs.flatMap idc)) (o3 : wq.ownsRow 0 45 23 (.slice (some ⟨k3, 0, none⟩) n3 e3) n3 ((hd.map tid).flatMap tc))
    (f1 : ∀ b ∈ ms, (Lit.int .u8 b).wf = true) (f2 : ∀ b ∈ rs, (Lit.int .u8 b).wf = true) (f3 : ∀ h ∈ hd, (Lit.int .u8 h.b).wf = true) (fs : (Lit.int .u8 sB).wf = true) (fu : (Lit.int .u8 uB).wf = true) (hF0 : F4 wq wz n4 lb fb I N V A) (s3 s8 s9 s10 s11 s12 s13 s14 s15 s16 s18 s19 s20 s21 s23 s24 s30 s31 s32 s33 s34 s35 s36 s37 s38 s39 s40 s41 s42 s43 s44 s45 s46 s47 s48 s49 s50 s51 s52 s53 s54 s55 s56 s57 s58 s59 s60 s61 s62 s63 s64 s65 s66 s67 s68 s69 s70 s71 s72 s73 s74 s75 s76 s77 s78 s79 s80 s81 s82 s83 s84 s85 s86 s87 s88 s89 s90 s91 s92 s93 s94 s95 s96 s97 s98 s99 s100 s101 s102 s103 s104 s105 s106 s107 s108 s109 s110 s111 s112 s113 s114 s115 s116 s117 s118 s119 s120 s121 s122 s123 s124 s125 s126 s127 s128 s129 s130 s131 s132 s133 s134 s135 s136 s137 s138 s139 s140 s141 s142 s143 s144 s145 s146 s147 s148 s149 s150 s151 s152 s153 s154 s155 s156 s157 s158 s159 s160 s161 s162 s163 s164 s165 s166 s167 s168 s169 s170 s171 s172 s173 s174 s175 s176 s177 s178 s179 s180 s181 s182 s183 s184 s185 s186 s187 s188 s189 s190 s191 s192 s193 s194 s195 s196 s197 s198 s199 s200 s201 s202 s203 s204 s205 s206 s207 s208 s209 s210 s211 s212 s213 s214 s215 s216 s217 s218 s219 s220 s221 s222 s223 s224 s225 s226 s227 s228 s229 s230 s231 s232 s233 s234 s235 s236 s237 s238 s239 s240 s241 s242 s243 s244 s245 s246 s247 s248 s249 s250 s251 s252 s253 s254 s255 s256 s257 s258 s259 s260 s261 s262 s263 s264 s265 s266 s267 s268 s269 s270 s271 s272 s273 s274 s275 s276 s277 s278 s279 s280 s281 s282 s283 s284 s285 s286 s287 s288 s289 s290 s291 s292 s293 s294 s295 s296 s297 s298 s299 s300 s301 s302 s303 s304 s305 s306 s307 s308 s309 s310 s311 s312 s313 s314 s315 s316 s317 s318 s319 s320 s321 s322 s323 s324 s325 s326 s327 s328 s329 s330 s331 s332 s333 s334 s335 s336 s337 s338 s339 s340 s341 s342 s343 s344 s345 s346 s347 s348 s349 s350 s351 s352 s353 s354 s355 s356 s357 s358 s359 s360 s361 s362 s363 s364 s365 s366 s367 s368 s369 s370 s371 s372 s373 s374 s375 s376 s377 s378 s379 s380 s381 s382 s383 s384 s385 s386 s387 s388 s389 s390 s391 s392 s393 s394 s395 s396 s397 s398 s399 s400 s401 s402 s403 s404 : Value) :
    Code.wp Yba.prog (tailAt 40) (bodyPost Yba.prog Yba.f3 fun e w' => e = .returned (.bool true) ∧ Below w.heap.size w w') ⟨#[.slice a1 n1 c10, .slice a2 n2 c20, .slice a3 n3 c30, s3, .int .i64 sf, .int .u8 sB, .int .i64 su, .int .u8 uB, s8, s9, s10, s11, s12, s13, s14, s15, s16, .pointer (some ⟨sb, 0, none⟩), s18, s19, s20, s21, .pointer (some ⟨nb, 0, none⟩), s23, s24, .slice (some ⟨k1, 0, none⟩) n1 e1, .slice (some ⟨k2, 0, none⟩) n2 e2, .slice (some ⟨k3, 0, none⟩) n3 e3, .pointer (some ⟨lb, 0, none⟩), .pointer (some ⟨fb, 0, none⟩), s30, s31, s32, s33, s34, s35, s36, s37, s38, s39, s40, s41, s42, s43, s44, s45, s46, s47, s48, s49, s50, s51, s52, s53, s54, s55, s56, s57, s58, s59, s60, s61, s62, s63, s64, s65, s66, s67, s68, s69, s70, s71, s72, s73, s74, s75, s76, s77, s78, s79, s80, s81, s82, s83, s84, s85, s86, s87, s88, s89, s90, s91, s92, s93, s94, s95, s96, s97, s98, s99, s100, s101, s102, s103, s104, s105, s106, s107, s108, s109, s110, s111, s112, s113, s114, s115, s116, s117, s118, s119, s120, s121, s122, s123, s124, s125, s126, s127, s128, s129, s130, s131, s132, s133, s134, s135, s136, s137, s138, s139, s140, s141, s142, s143, s144, s145, s146, s147, s148, s149, s150, s151, s152, s153, s154, s155, s156, s157, s158, s159, s160, s161, s162, s163, s164, s165, s166, s167, s168, s169, s170, s171, s172, s173, s174, s175, s176, s177, s178, s179, s180, s181, s182, s183, s184, s185, s186, s187, s188, s189, s190, s191, s192, s193, s194, s195, s196, s197, s198, s199, s200, s201, s202, s203, s204, s205, s206, s207, s208, s209, s210, s211, s212, s213, s214, s215, s216, s217, s218, s219, s220, s221, s222, s223, s224, s225, s226, s227, s228, s229, s230, s231, s232, s233, s234, s235, s236, s237, s238, s239, s240, s241, s242, s243, s244, s245, s246, s247, s248, s249, s250, s251, s252, s253, s254, s255, s256, s257, s258, s259, s260, s261, s262, s263, s264, s265, s266, s267, s268, s269, s270, s271, s272, s273, s274, s275, s276, s277, s278, s279, s280, s281, s282, s283, s284, s285, s286, s287, s288, s289, s290, s291, s292, s293, s294, s295, s296, s297, s298, s299, s300, s301, s302, s303, s304, s305, s306, s307, s308, s309, s310, s311, s312, s313, s314, s315, s316, s317, s318, s319, s320, s321, s322, s323, s324, s325, s326, s327, s328, s329, s330, s331, s332, s333, s334, s335, s336, s337, s338, s339, s340, s341, s342, s343, s344, s345, s346, s347, s348, s349, s350, s351, s352, s353, s354, s355, s356, s357, s358, s359, s360, s361, s362, s363, s364, s365, s366, s367, s368, s369, s370, s371, s372, s373, s374, s375, s376, s377, s378, s379, s380, s381, s382, s383, s384, s385, s386, s387, s388, s389, s390, s391, s392, s393, s394, s395, s396, s397, s398, s399, s400, s401, s402, s403, s404], []⟩ wz := by
  conv => arg 2; whnf
  obtain ⟨d1, d2, d3, d4, hd1, hd2, hd3, hd4, hF⟩ := hF0
  go_upto_region 46 with (first
    | (refine wpList_is (.alloc 3) rfl ?_; refine wpList_allocC rfl 3 [.int .i64 0] rfl alloc3 hF ?_; intro cb v1 h1)
    | (refine wpList_is (.store 3 (.tmp 32) (.const (.int .i64 0))) rfl ?_; refine wpList_storeC rfl 3 (.tmp 32) (.const (.int .i64 0)) rfl h1 0 cb 0 (.int .i64 0) [.int .i64 0] 3 rfl rfl rfl size3 (by simp) rfl _ rfl ?_; intro v2 h2)
    | (refine wpList_is (.alloc 3) rfl ?_; refine wpList_allocC rfl 3 [.int .i64 0] rfl alloc3 h2 ?_; intro tb v3 h3)
    | (refine wpList_is (.store 3 (.tmp 33) (.const (.int .i64 0))) rfl ?_; refine wpList_storeC rfl 3 (.tmp 33) (.const (.int .i64 0)) rfl h3 0 tb 0 (.int .i64 0) [.int .i64 0] 3 rfl rfl rfl size3 (by simp) rfl _ rfl ?_; intro v4 h4)
    | (refine wpList_is (.alloc 31) rfl ?_; refine wpList_allocC rfl 31 [.slice none 0 0] rfl alloc31 h4 ?_; intro ib v5 h5)
    | (refine wpList_is (.alloc 38) rfl ?_; refine wpList_allocC rfl 38 [.slice none 0 0] rfl alloc38 h5 ?_; intro mb v6 h6)
    | (refine wpList_is (.alloc 51) rfl ?_; refine wpList_allocC rfl 51 [.slice none 0 0] rfl alloc51 h6 ?_; intro vb v7 h7))
  clear hF h1 h2 h3 h4 h5 h6
  go_wp2_with fail
  refine (aid_any sB _).mono ?_
  rintro e v8 ⟨rfl, q8⟩
  have h8 := h7.grow q8
  clear h7 q8
  go_upto_region 47 with (first
    | (refine wpList_is (.alloc 26) rfl ?_; refine wpList_allocC rfl 26 (idc 0) rfl alloc26 h8 ?_; intro p38 v9 h9)
    | (refine wpList_is (.store 26 (.tmp 38) (.tmp 228)) rfl ?_; refine wpList_store_blk rfl 26 (.tmp 38) (.tmp 228) rfl p38 (idc sB) rfl rfl _ _ (h9.get 0 rfl) rfl (size26 sB) (idc_one sB) ?_; intro va hba qa))
  have ha := h9.upd 0 rfl qa hba
  clear h8 h9 hba qa
  simp only [List.set_cons_zero] at ha
  go_wp2_with fail
  refine (aid_any uB _).mono ?_
  rintro e vb1 ⟨rfl, q9⟩
  have hb := ha.grow q9
  clear ha q9
  go_upto_region 48 with (first
    | (refine wpList_is (.alloc 26) rfl ?_; refine wpList_allocC rfl 26 (idc 0) rfl alloc26 hb ?_; intro p39 vc1 hc)
    | (refine wpList_is (.store 26 (.tmp 39) (.tmp 230)) rfl ?_; refine wpList_store_blk rfl 26 (.tmp 39) (.tmp 230) rfl p39 (idc uB) rfl rfl _ _ (hc.get 0 rfl) rfl (size26 uB) (idc_one uB) ?_; intro u hbu qu))
  have h := hc.upd 0 rfl qu hbu
  clear hb hc hbu qu
  simp only [List.set_cons_zero] at h
  have old : ∀ (q : Nat) (o : Obj), wq.heap[q]? = some o → u.heap[q]? = some o := fun q o hq => (h.below.block q (Array.getElem?_eq_some_iff.1 hq).1).trans hq
  have lg1 : g1 < wq.heap.size := (Array.getElem?_eq_some_iff.1 b1).1
  have lg2 : g2 < wq.heap.size := (Array.getElem?_eq_some_iff.1 b2).1
  have bI := h.base 10 rfl
  have bA := h.base 7 rfl
  have pp : PP u fb nb sb lb cb tb ib mb vb g1 n1 g2 n2 gh n3 n4 I N V A ms rs (hd.map tid) .nilFunc (.int .i64 0) (.slice none 0 0) (.slice none 0 0) (.slice none 0 0) :=
    ⟨l1, l2, by rw [List.length_map]; exact l3, hsm, old _ _ hset, old _ _ b1, old _ _ b2, old _ _ hnews, old _ _ bh, h.get 11 rfl, own0_of (h.get 10 rfl) hd1 (by omega), own0_of (h.get 9 rfl) hd2 (by omega), own0_of (h.get 8 rfl) hd3 (by omega), own0_of (h.get 7 rfl) hd4 (by omega),
      h.get 12 rfl, h.get 6 rfl, h.get 5 rfl, h.get 4 rfl, h.get 3 rfl, h.get 2 rfl, ⟨h.ne 12 4 rfl rfl (by decide), h.ne 6 5 rfl rfl (by decide), h.ne 9 6 rfl rfl (by decide), h.ne 9 5 rfl rfl (by decide)⟩,
      ⟨h.ne 10 7 rfl rfl (by decide), Nat.ne_of_gt (Nat.lt_of_lt_of_le lg1 bI), Nat.ne_of_gt (Nat.lt_of_lt_of_le lg2 bI), Nat.ne_of_gt (Nat.lt_of_lt_of_le lg1 bA), Nat.ne_of_gt (Nat.lt_of_lt_of_le lg2 bA)⟩, f1⟩
  have HH : Hid (Hs wq.heap.size wq u _) := h
  have h38 := h.get 1 rfl
  have h39 := h.get 0 rfl
  clear h old bI bA lg1 lg2
  go_wp2_with (first
    | (refine wpList_is (.load 26 (.tmp 38)) rfl ?_; refine wpList_load_blk rfl 26 (.tmp 38) rfl p38 rfl (idc sB) 26 h38 _ Yba.underlying26 rfl (size26 sB) ?_)
    | (refine wpList_is (.load 26 (.tmp 39)) rfl ?_; refine wpList_load_blk rfl 26 (.tmp 39) rfl p39 rfl (idc uB) 26 h39 _ Yba.underlying26 rfl (size26 uB) ?_))
  refine (push_any pp fu).mono ?_
  rintro e w9 ⟨⟨v, rfl⟩, hpost⟩
  have h := HH
  unfold Hid at h
  have hch : Chg (fun q => PS fb lb I N V A q ∨ q = cb ∨ q = tb ∨ q = ib ∨ q = mb ∨ q = vb) u w9 := by
    rcases hpost with ⟨_, k⟩ | ⟨_, _, _, _, _, _, _, _, _, _, _, _, _, _, _, _, _, _, k⟩
    · exact (Chg.refl _ u).grown k (by simp)
    · exact k
  have hSlo : ∀ q, (PS fb lb I N V A q ∨ q = cb ∨ q = tb ∨ q = ib ∨ q = mb ∨ q = vb) → wq.heap.size ≤ q := by
    rintro q ((e | e | e | e | e | e) | e | e | e | e | e)
    · rw [e]; exact h.base 11 rfl
    · rw [e]; exact h.base 12 rfl
    · rw [e]; exact h.base 10 rfl
    · rw [e]; exact h.base 9 rfl
    · rw [e]; exact h.base 8 rfl
    · rw [e]; exact h.base 7 rfl
    · rw [e]; exact h.base 6 rfl
    · rw [e]; exact h.base 5 rfl
    · rw [e]; exact h.base 4 rfl
    · rw [e]; exact h.base 3 rfl
    · rw [e]; exact h.base 2 rfl
  have n38 : ¬ (PS fb lb I N V A p38 ∨ p38 = cb ∨ p38 = tb ∨ p38 = ib ∨ p38 = mb ∨ p38 = vb) := by
    rintro ((e | e | e | e | e | e) | e | e | e | e | e)
    · exact h.ne 1 11 rfl rfl (by decide) e
    · exact h.ne 1 12 rfl rfl (by decide) e
    · exact h.ne 1 10 rfl rfl (by decide) e
    · exact h.ne 1 9 rfl rfl (by decide) e
    · exact h.ne 1 8 rfl rfl (by decide) e
    · exact h.ne 1 7 rfl rfl (by decide) e
    · exact h.ne 1 6 rfl rfl (by decide) e
    · exact h.ne 1 5 rfl rfl (by decide) e
    · exact h.ne 1 4 rfl rfl (by decide) e
    · exact h.ne 1 3 rfl rfl (by decide) e
    · exact h.ne 1 2 rfl rfl (by decide) e
  have h389 := hch.keep h38 n38
  have hbel : Below wq.heap.size wq w9 := hch.below h.below hSlo h.size
  have old : ∀ (q : Nat) (o : Obj), wq.heap[q]? = some o → w9.heap[q]? = some o := fun q o hq => (hbel.block q (Array.getElem?_eq_some_iff.1 hq).1).trans hq
  have oldr : ∀ {e size g n c : Nat} {xs : List Value}, wq.ownsRow 0 e size (.slice (some ⟨g, 0, none⟩) n c) n xs → w9.ownsRow 0 e size (.slice (some ⟨g, 0, none⟩) n c) n xs := fun o => own_move o (fun q _ hq => hbel.block q hq)
  have hB9 : Below w.heap.size w w9 := hB.trans (hbel.mono hBs)
  have hBs9 : w.heap.size ≤ w9.heap.size := Nat.le_trans hBs hbel.size
  have res : Res w9 n1 n2 lb cb tb ib mb vb ms rs (hd.map tid) uB sB sf su := by
    rcases hpost with ⟨hh, k⟩ | ⟨hh, z1', z2', z3', z4', z5', z6', lv, t1, t2, t3, t4, t5, t6, t7, t8, t9, t10, _⟩
    · exact .inl ⟨hh, keep_blk k (h.get 6 rfl) (by simp), keep_blk k (h.get 12 rfl) (by simp)⟩
    · exact .inr ⟨hh, t1, t2, z1', z2', z3', z4', z5', z6', lv, ⟨by rw [List.length_append, l1, l2], t3, t4, t5, t6, t7, t8, t9, t10⟩⟩
  clear hpost hch hSlo n38 h HH pp h38 h39 hd1 hd2 hd3 hd4
  have x1 := old _ _ hset
  have x2 : Blk idc w9 g1 26 ms := old _ _ b1
  have x3 : Blk idc w9 g2 26 rs := old _ _ b2
  have x4 := old _ _ hnews
  have x5 : Blk tc w9 gh 45 (hd.map tid) := old _ _ bh
  have x6 := oldr o1
  have x7 := oldr o2
  have x8 := oldr o3
  clear old oldr hbel
  dsimp only
  go_step
  go_step
  go_step
  refine by_K (c := ?cc) (Q := ?QQ) ?hr ?ht
  case hr => assumption
  exact tail49 w w9 a1 a2 a3 n1 c10 n2 c20 n3 c30 sb nb k1 e1 k2 e2 k3 e3 lb cb tb ib mb vb p38 g1 g2 gh ms rs hd sB sf su uB hB9 hBs9 (by omega) l1 l2 l3 r1 r2 r3 z1 z2 x1 x2 x3 x4 x5 x6 x7 x8 h389 f1 f2 f3 fs res _ _ _ _ _ _ _ _ _ _ _ _ _ _ _ _ _ _ _ _ _ _ _ _ _ _ _ _ _ _ _ _ _ _ _ _ _ _ _ _ _ _ _ _ _ _ _ _ _ _ _ _ _ _ _ _ _ _ _ _ _ _ _ _ _ _ _ _ _ _ _ _ _ _ _ _ _ _ _ _ _ _ _ _ _ _ _ _ _ _ _ _ _ _ _ _ _ _ _ _ _ _ _ _ _ _ _ _ _ _ _ _ _ _ _ _ _ _ _ _ _ _ _ _ _ _ _ _ _ _ _ _ _ _ _ _ _ _ _ _ _ _ _ _ _ _ _ _ _ _ _ _ _ _ _ _ _ _ _ _ _ _ _ _ _ _ _ _ _ _ _ _ _ _ _ _ _ _ _ _ _ _ _ _ _ _ _ _ _ _ _ _ _ _ _ _ _ _ _ _ _ _ _ _ _ _ _ _ _ _ _ _ _ _ _ _ _ _ _ _ _ _ _ _ _ _ _ _ _ _ _ _ _ _ _ _ _ _ _ _ _ _ _ _ _ _ _ _ _ _ _ _ _ _ _ _ _ _ _ _ _ _ _ _ _ _ _ _ _ _ _ _ _ _ _ _ _ _ _ _ _ _ _ _ _ _ _ _ _ _ _ _ _ _ _ _ _ _ _ _ _ _ _ _ _ _ _ _ _ _ _ _ _ _ _ _ _ _ _ _ _ _ _ _ _ _ _ _ _ _ _ _ _ _ _ _ _ _ _ _ _ _ _ _ _ _ _ _ _ _ _ _ _ _ _ _ _ _ _ _ _ _ _ _ _ _ _ _ _ _ _ _ _ _ _ _ _ _ _ _ _ _ _ _ _ _ _

end Go.Proofs.Ybulkdspq
