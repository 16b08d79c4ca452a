/-
  LawS5970AWhole: the stretch from region 53 on.
-/
import Derived.Test.YbulkdspqAT63
namespace Go.Proofs.Ybulkdspq
open Go.RowKit
set_option linter.unusedSimpArgs false
set_option linter.unusedVariables false

theorem run_append_nil2 {P : Program} (w : World) (t ty e : TypeId) (i : TypeInfo) (ht : P.underlying t = some (.slice e)) (hi : P.info? e = some i) (g n c : Nat) (hc : n ≤ c) :
    (Builtin.append_ #[t, t] ty #[.slice (some ⟨g, 0, none⟩) n c, .slice none 0 0]).run P w = .ok (.slice (some ⟨g, 0, none⟩) n c) w := by
  simp [Builtin.append_, run_underlying ht, sizeOf, typeInfo, hi, Builtin.lenOf, Builtin.firstCells, loadCells, loadCellsFrom, hc, storeCells, Result.andThen]
/-- append of bytes that came in. -/
theorem exec_appU {a : Act} {o : Oper} {w : World} (s x : Operand) (ho : o.op = .call { callee := .builtin .append, args := #[s, x], argTypes := #[22, 22] }) (g n c : Nat) (X : List Value) (hs : a.eval s = .slice (some ⟨g, 0, none⟩) n c) (hown : w.ownsRow 0 5 1 (.slice (some ⟨g, 0, none⟩) n c) n X)
    (a1 : Option Addr) (m c1 : Nat) (xs : List Int) (hx : a.eval x = .slice a1 m c1) (hm : xs.length = m) (hnil : a1 = none → m = 0 ∧ c1 = 0) (hr : Rd1 w a1 xs) (hn : n + m ≤ 1000000) :
    ∃ g' c' w', (execOp a.eval o).run Yba.prog w = .ok (.value (.slice (some ⟨g', 0, none⟩) (n + m) c')) w' ∧ w'.ownsRow 0 5 1 (.slice (some ⟨g', 0, none⟩) (n + m) c') (n + m) (X ++ xs.flatMap uc) ∧ w.grownBy w' (some g) ∧ (g' = g ∨ g' = w.heap.size) := by
  obtain ⟨i, hi, hz, hsize, hb⟩ := info_parts info5
  cases a1 with
  | none =>
    obtain ⟨rfl, rfl⟩ := hnil rfl
    have hxs : xs = [] := List.eq_nil_of_length_eq_zero hm
    subst hxs
    have hnc : n ≤ c := by
      rcases hown.2 with ⟨e, _⟩ | ⟨g', cap, cur, e, _, _, h, _⟩
      · cases e
      · cases e; exact h
    have hr' := run_append_nil2 (P := Yba.prog) w 22 o.type 5 i Yba.underlying22 hi g n c hnc
    refine ⟨g, c, w, ?_, by simpa using hown, World.grownBy.refl w _, .inl rfl⟩
    unfold execOp
    simp only [ho, resolve, invoke, builtin, Sem.run_bind, Sem.run_pure, Result.andThen_ok, List.map_toArray, List.map_cons, List.map_nil, hs, hx, hr']
    rfl
  | some ad =>
    obtain ⟨v', w', hrun, h2, h3, h4, h5⟩ := run_append_own_at (P := Yba.prog) w 0 22 o.type 5 i (.int .u8 0) 1 1 Yba.underlying22 hi hz hsize hb rfl (by omega) _ n X hown ad m c1 (xs.flatMap uc) (by rw [flat_len uc_len, hm]) (fun j u hu => by
      have hj : j < xs.length := by have := (List.getElem?_eq_some_iff.1 hu).1; rw [flat_len uc_len] at this; omega
      obtain ⟨b', o', e, _, hc⟩ := hr j xs[j] (List.getElem?_eq_getElem hj)
      cases e
      have := flat_get uc_len xs j xs[j] 0 (List.getElem?_eq_getElem hj) (by omega)
      rw [Nat.mul_one, Nat.add_zero] at this
      rw [this] at hu
      rw [Addr.add_mid, hc]
      exact hu) (flat_one uc_one xs) (by simp [maxLen]; omega) (by omega) (Nat.zero_le _)
    obtain ⟨g', c', rfl⟩ := own_some h2 (fun e => by simpa using (h4.1 e))
    simp only [Value.ownBlock, Option.some.injEq] at h3 h5
    refine ⟨g', c', w', ?_, h2, h3, h5⟩
    unfold execOp
    simp only [ho, resolve, invoke, builtin, Sem.run_bind, Sem.run_pure, Result.andThen_ok, List.map_toArray, List.map_cons, List.map_nil, hs, hx, hrun]
theorem exec_make0 {a : Act} {o : Oper} {w : World} (x : Operand) (ho : o.op = .makeSlice 22 (.const (.int .i64 0)) x) (n : Nat) (hn : n ≤ 1000000) (hx : a.eval x = .int .i64 (n : Int)) :
    ∃ w', (execOp a.eval o).run Yba.prog w = .ok (.value (.slice (some ⟨w.heap.size, 0, none⟩) 0 n)) w' ∧ w'.ownsRow 0 5 1 (.slice (some ⟨w.heap.size, 0, none⟩) 0 n) 0 [] ∧ w.grownBy w' none := by
  obtain ⟨i, hi, hz, hsize, hb⟩ := info_parts info5
  obtain ⟨w', hr, h1, h2⟩ := run_make_own (P := Yba.prog) w 0 22 5 i (.int .u8 0) 1 Yba.underlying22 hi hz hsize .i64 .i64 n (by rw [hb]; omega) (by simp [maxLen]; omega) (Nat.zero_le _)
  refine ⟨w', ?_, h1, h2⟩
  have e0 : a.eval (.const (.int .i64 0)) = .int .i64 0 := rfl
  unfold execOp
  simp only [ho, hx, e0, Sem.run_bind, hr, Result.andThen_ok, Sem.run_pure]
theorem wpList_make0 {ops : Array Oper} {rest : List Oper} {op : Oper} {a : Act} {w : World} {Q : Exit → Act → World → Prop} (hgd : op.guard = none) (x : Operand) (ho : op.op = .makeSlice 22 (.const (.int .i64 0)) x) (n : Nat) (hn : n ≤ 1000000) (hx : a.eval x = .int .i64 (n : Int))
    (h : ∀ w', w'.ownsRow 0 5 1 (.slice (some ⟨w.heap.size, 0, none⟩) 0 n) 0 [] → w.grownBy w' none → wpList Yba.prog ops Q rest (a.put op.dst (.slice (some ⟨w.heap.size, 0, none⟩) 0 n)) w') : wpList Yba.prog ops Q (op :: rest) a w := by
  obtain ⟨w', hr, h1, h2⟩ := exec_make0 (w := w) x ho n hn hx
  exact wpList_exec hgd _ hr (h w' h1 h2)
theorem wpList_appU {ops : Array Oper} {rest : List Oper} {op : Oper} {a : Act} {w : World} {Q : Exit → Act → World → Prop} (hgd : op.guard = none) (s x : Operand) (ho : op.op = .call { callee := .builtin .append, args := #[s, x], argTypes := #[22, 22] }) (g n c : Nat) (X : List Value) (hs : a.eval s = .slice (some ⟨g, 0, none⟩) n c) (hown : w.ownsRow 0 5 1 (.slice (some ⟨g, 0, none⟩) n c) n X)
    (a1 : Option Addr) (m c1 : Nat) (xs : List Int) (hx : a.eval x = .slice a1 m c1) (hm : xs.length = m) (hnil : a1 = none → m = 0 ∧ c1 = 0) (hr : Rd1 w a1 xs) (hn : n + m ≤ 1000000)
    (h : ∀ g' c' w', w'.ownsRow 0 5 1 (.slice (some ⟨g', 0, none⟩) (n + m) c') (n + m) (X ++ xs.flatMap uc) → w.grownBy w' (some g) → (g' = g ∨ g' = w.heap.size) → wpList Yba.prog ops Q rest (a.put op.dst (.slice (some ⟨g', 0, none⟩) (n + m) c')) w') : wpList Yba.prog ops Q (op :: rest) a w := by
  obtain ⟨g', c', w', hrun, h1, h2, h3⟩ := exec_appU s x ho g n c X hs hown a1 m c1 xs hx hm hnil hr hn
  exact wpList_exec hgd _ hrun (h g' c' w' h1 h2 h3)
theorem rd1_at {w w' : World} {a : Option Addr} {xs : List Int} (h : Rd1 w a xs) (hB : Below w.heap.size w w') : Rd1 w' a xs := fun j x hx => by
  obtain ⟨b, o, e, hb, hc⟩ := h j x hx
  exact ⟨b, o, e, Nat.lt_of_lt_of_le hb hB.size, (hB.cell (p := ⟨b, _, none⟩) hb).trans hc⟩
/-- A stretch whose rest is told by a hypothesis, the law's. -/
theorem cell0 {w : World} {q : Nat} {v : Value} {t : TypeId} (h : w.heap[q]? = some (.cells [v].toArray t (0, 0))) : w.cell? ⟨q, 0, none⟩ = some v := by simp only [World.cell?, h]; rfl
theorem cellk {w : World} {q k : Nat} {cs : List Value} {v : Value} {t : TypeId} (h : w.heap[q]? = some (.cells cs.toArray t (0, 0))) (hk : cs[k]? = some v) : w.cell? ⟨q, k, none⟩ = some v := by simp only [World.cell?, h]; simpa using hk

/-- What Push has left, as the law looks at it. -/
def Res (wz : World) (n1 n2 lb cb tb ib mb vb : Nat) (ms rs : List Int) (hs : List Tid) (uB sB sf su : Int) : Prop :=
  (hands ms uB = false ∧ wz.heap[cb]? = some (.cells [.int .i64 0].toArray 3 (0, 0)) ∧ wz.heap[lb]? = some (.cells [.slice none 0 0].toArray 31 (0, 0))) ∨
  (hands ms uB = true ∧ wz.heap[cb]? = some (.cells [.int .i64 1].toArray 3 (0, 0)) ∧ wz.heap[tb]? = some (.cells [.int .i64 su].toArray 3 (0, 0)) ∧ ∃ g1 c1 g2 c2 g3 c3 lv, MG wz (n1 + n2) lb ib mb vb g1 c1 g2 c2 g3 c3 lv (ms ++ rs) hs sB sf)

set_option maxRecDepth 1000000 in
set_option maxHeartbeats 8000000 in
theorem tail53 (w wz : World) (a1 a2 a3 : Option Addr) (n1 c10 n2 c20 n3 c30 lb cb tb ib mb vb p38 g1 c1 g2 c2 g3 c3 : Nat) (lv : Value) (ms rs : List Int) (hd : List Hd) (sB sf su : Int) (hB : Below w.heap.size w wz) (hBs : w.heap.size ≤ wz.heap.size) (hsm : n1 + n2 + n3 ≤ 8192) (l1 : ms.length = n1) (l2 : rs.length = n2) (l3 : hd.length = n3) (r1 : Rd1 w a1 ms) (r2 : Rd1 w a2 rs) (r3 : Rd3 w a3 hd)
    (z1 : a1 = none → n1 = 0 ∧ c10 = 0) (z2 : a2 = none → n2 = 0 ∧ c20 = 0) (h38 : wz.heap[p38]? = some (.cells (idc sB).toArray 26 (0, 0))) (f1 : ∀ b ∈ ms, (Lit.int .u8 b).wf = true) (f2 : ∀ b ∈ rs, (Lit.int .u8 b).wf = true) (fs : (Lit.int .u8 sB).wf = true)
    (hcb : wz.heap[cb]? = some (.cells [.int .i64 1].toArray 3 (0, 0))) (htb : wz.heap[tb]? = some (.cells [.int .i64 su].toArray 3 (0, 0))) (mg : MG wz (n1 + n2) lb ib mb vb g1 c1 g2 c2 g3 c3 lv (ms ++ rs) (hd.map tid) sB sf) (s3 s5 s7 s8 s9 s10 s11 s12 s13 s14 s15 s16 s17 s18 s19 s20 s21 s22 s23 s24 s25 s26 s27 s29 s30 s31 s37 s39 s40 s41 s42 s43 s44 s45 s46 s47 s48 s49 s50 s51 s52 s53 s54 s55 s56 s57 s58 s59 s60 s61 s62 s63 s64 s65 s66 s67 s68 s69 s70 s71 s72 s73 s74 s75 s76 s77 s78 s79 s80 s81 s82 s83 s84 s85 s86 s87 s88 s89 s90 s91 s92 s93 s94 s95 s96 s97 s98 s99 s100 s101 s102 s103 s104 s105 s106 s107 s108 s109 s110 s111 s112 s113 s114 s115 s116 s117 s118 s119 s120 s121 s122 s123 s124 s125 s126 s127 s128 s129 s130 s131 s132 s133 s134 s135 s136 s137 s138 s139 s140 s141 s142 s143 s144 s145 s146 s147 s148 s149 s150 s151 s152 s153 s154 s155 s156 s157 s158 s159 s160 s161 s162 s163 s164 s165 s166 s167 s168 s169 s170 s171 s172 s173 s174 s175 s176 s177 s178 s179 s180 s181 s182 s183 s184 s185 s186 s187 s188 s189 s190 s191 s192 s193 s194 s195 s196 s197 s198 s199 s200 s201 s202 s203 s204 s205 s206 s207 s208 s209 s210 s211 s212 s213 s214 s215 s216 s217 s218 s219 s220 s221 s222 s223 s224 s225 s226 s227 s228 s229 s230 s231 s232 s233 s234 s235 s236 s237 s238 s239 s240 s241 s242 s243 s244 s245 s246 s247 s248 s249 s250 s251 s252 s253 s254 s255 s256 s257 s258 s259 s260 s261 s262 s263 s264 s265 s266 s267 s268 s269 s270 s271 s272 s273 s274 s275 s276 s277 s278 s279 s280 s281 s282 s283 s284 s285 s286 s287 s288 s289 s290 s291 s292 s293 s294 s295 s296 s297 s298 s299 s300 s301 s302 s303 s304 s305 s306 s307 s308 s309 s310 s311 s312 s313 s314 s315 s316 s317 s318 s319 s320 s321 s322 s323 s324 s325 s326 s327 s328 s329 s330 s331 s332 s333 s334 s335 s336 s337 s338 s339 s340 s341 s342 s343 s344 s345 s346 s347 s348 s349 s350 s351 s352 s353 s354 s355 s356 s357 s358 s359 s360 s361 s362 s363 s364 s365 s366 s367 s368 s369 s370 s371 s372 s373 s374 s375 s376 s377 s378 s379 s380 s381 s382 s383 s384 s385 s386 s387 s388 s389 s390 s391 s392 s393 s394 s395 s396 s397 s398 s399 s400 s401 s402 s403 s404 : Value) :
    Code.wp Yba.prog (tailAt 53) (bodyPost Yba.prog Yba.f3 fun e w' => e = .returned (.bool true) ∧ Below w.heap.size w w') ⟨#[.slice a1 n1 c10, .slice a2 n2 c20, .slice a3 n3 c30, s3, .int .i64 sf, s5, .int .i64 su, s7, s8, s9, s10, s11, s12, s13, s14, s15, s16, s17, s18, s19, s20, s21, s22, s23, s24, s25, s26, s27, .pointer (some ⟨lb, 0, none⟩), s29, s30, s31, .pointer (some ⟨cb, 0, none⟩), .pointer (some ⟨tb, 0, none⟩), .pointer (some ⟨ib, 0, none⟩), .pointer (some ⟨mb, 0, none⟩), .pointer (some ⟨vb, 0, none⟩), s37, .pointer (some ⟨p38, 0, none⟩), s39, s40, s41, s42, s43, s44, s45, s46, s47, s48, s49, s50, s51, s52, s53, s54, s55, s56, s57, s58, s59, s60, s61, s62, s63, s64, s65, s66, s67, s68, s69, s70, s71, s72, s73, s74, s75, s76, s77, s78, s79, s80, s81, s82, s83, s84, s85, s86, s87, s88, s89, s90, s91, s92, s93, s94, s95, s96, s97, s98, s99, s100, s101, s102, s103, s104, s105, s106, s107, s108, s109, s110, s111, s112, s113, s114, s115, s116, s117, s118, s119, s120, s121, s122, s123, s124, s125, s126, s127, s128, s129, s130, s131, s132, s133, s134, s135, s136, s137, s138, s139, s140, s141, s142, s143, s144, s145, s146, s147, s148, s149, s150, s151, s152, s153, s154, s155, s156, s157, s158, s159, s160, s161, s162, s163, s164, s165, s166, s167, s168, s169, s170, s171, s172, s173, s174, s175, s176, s177, s178, s179, s180, s181, s182, s183, s184, s185, s186, s187, s188, s189, s190, s191, s192, s193, s194, s195, s196, s197, s198, s199, s200, s201, s202, s203, s204, s205, s206, s207, s208, s209, s210, s211, s212, s213, s214, s215, s216, s217, s218, s219, s220, s221, s222, s223, s224, s225, s226, s227, s228, s229, s230, s231, s232, s233, s234, s235, s236, s237, s238, s239, s240, s241, s242, s243, s244, s245, s246, s247, s248, s249, s250, s251, s252, s253, s254, s255, s256, s257, s258, s259, s260, s261, s262, s263, s264, s265, s266, s267, s268, s269, s270, s271, s272, s273, s274, s275, s276, s277, s278, s279, s280, s281, s282, s283, s284, s285, s286, s287, s288, s289, s290, s291, s292, s293, s294, s295, s296, s297, s298, s299, s300, s301, s302, s303, s304, s305, s306, s307, s308, s309, s310, s311, s312, s313, s314, s315, s316, s317, s318, s319, s320, s321, s322, s323, s324, s325, s326, s327, s328, s329, s330, s331, s332, s333, s334, s335, s336, s337, s338, s339, s340, s341, s342, s343, s344, s345, s346, s347, s348, s349, s350, s351, s352, s353, s354, s355, s356, s357, s358, s359, s360, s361, s362, s363, s364, s365, s366, s367, s368, s369, s370, s371, s372, s373, s374, s375, s376, s377, s378, s379, s380, s381, s382, s383, s384, s385, s386, s387, s388, s389, s390, s391, s392, s393, s394, s395, s396, s397, s398, s399, s400, s401, s402, s403, s404], []⟩ wz := by
  conv => arg 2; whnf
  obtain ⟨i26, hi26, _, hs26, _⟩ := info_parts info26
  obtain ⟨i3, hi3, _, hs3, _⟩ := info_parts info3
  obtain ⟨i54, hi54, _, hs54, _⟩ := info_parts info54
  have HMG : Hid (MG wz (n1 + n2) lb ib mb vb g1 c1 g2 c2 g3 c3 lv (ms ++ rs) (hd.map tid) sB sf) := mg
  clear mg
  have hBx : ∀ w', wz.grownBy w' none → Below w.heap.size w w' := fun w' k => hB.grown k hBs (by simp)
  go_upto_region 56 with (first
    | (refine wpList_is (.makeSlice 22 (.const (.int .i64 0)) (.tmp 286)) rfl ?_; refine wpList_make0 rfl (.tmp 286) rfl (n1 + n2) (by omega) rfl ?_; intro w1 ow1 q1)
    | (refine wpList_is (.call { callee := .builtin .append, args := #[.tmp 288, .tmp 289], argTypes := #[22, 22] }) rfl ?_; refine wpList_appU rfl (.tmp 288) (.tmp 289) rfl wz.heap.size 0 (n1 + n2) [] rfl ow1 a1 n1 c10 ms rfl l1 z1 (rd1_at r1 (hBx w1 q1)) (by omega) ?_; intro gA cA w2 ow2 q2 at2; simp only [Nat.zero_add] at ow2 ⊢)
    | (refine wpList_is (.call { callee := .builtin .append, args := #[.tmp 291, .tmp 292], argTypes := #[22, 22] }) rfl ?_; refine wpList_appU rfl (.tmp 291) (.tmp 292) rfl gA n1 cA _ rfl ow2 a2 n2 c20 rs rfl l2 z2 (rd1_at r2 (hBx w2 (grown_step q1 q2 (fun q e => by cases e; exact .inr (Nat.le_refl _))))) (by omega) ?_; intro gB cB w3 ow3 q3 at3))
  have q2z : wz.grownBy w2 none := grown_step q1 q2 (fun q e => by cases e; exact .inr (Nat.le_refl _))
  have hs1 := q1.size
  have q3z : wz.grownBy w3 none := grown_step q2z q3 (fun q e => by cases e; right; omega)
  have ow : w3.ownsRow 0 5 1 (.slice (some ⟨gB, 0, none⟩) (n1 + n2) cB) (n1 + n2) ((ms ++ rs).flatMap uc) := by
    have e : (ms ++ rs).flatMap uc = [] ++ ms.flatMap uc ++ rs.flatMap uc := by simp
    rw [e]; exact ow3
  clear ow1 ow2 ow3 q1 q2 q3 at2 at3 q2z hs1
  have mg3 : MG w3 (n1 + n2) lb ib mb vb g1 c1 g2 c2 g3 c3 lv (ms ++ rs) (hd.map tid) sB sf := MG.kept HMG q3z
  have hB3 := hBx w3 q3z
  have hBs3 : w.heap.size ≤ w3.heap.size := Nat.le_trans hBs q3z.size
  have hcb3 := keep_blk q3z hcb (by simp)
  have hct := cell0 (keep_blk q3z htb (by simp))
  have h383 := keep_blk q3z h38 (by simp)
  have hcm := cell0 mg3.n
  have hcv := cell0 mg3.v
  have hcl := cell0 mg3.log
  have hib := mg3.i
  obtain ⟨al, cl, rfl, _⟩ := own_form mg3.ol
  have HM3 : Hid (MG w3 (n1 + n2) lb ib mb vb g1 c1 g2 c2 g3 c3 (.slice al (n1 + n2) cl) (ms ++ rs) (hd.map tid) sB sf) := mg3
  clear mg3 HMG hcb htb h38 hB hBs hBx q3z
  go_upto_region 61 with (first
    | (refine wpList_is (.load 3 (.tmp 32)) rfl ?_; refine wpList_load_cell rfl 3 (.tmp 32) rfl cb 0 rfl _ _ hcb3 _ Yba.underlying3 rfl _ rfl ?_)
    | (refine wpList_is (.load 31 (.tmp 34)) rfl ?_; refine wpList_load_cell rfl 31 (.tmp 34) rfl ib 0 rfl _ _ hib _ Yba.underlying31 rfl _ rfl ?_))
  have mgd : MG { w3 with drawn := w3.drawn + 1 } (n1 + n2) lb ib mb vb g1 c1 g2 c2 g3 c3 (.slice al (n1 + n2) cl) (ms ++ rs) (hd.map tid) sB sf := MG.kept HM3 (grown_drew w3)
  have owd := own_kept ow (grown_drew w3) (by simp)
  have hBd : Below w.heap.size w { w3 with drawn := w3.drawn + 1 } := hB3.grown (grown_drew w3) hBs3 (by simp)
  have hBsd : w.heap.size ≤ ({ w3 with drawn := w3.drawn + 1 } : World).heap.size := hBs3
  have h38d : ({ w3 with drawn := w3.drawn + 1 } : World).heap[p38]? = some (.cells (idc sB).toArray 26 (0, 0)) := h383
  have x1 := own_range mgd.o1 idc_len (show (sB :: (ms ++ rs))[0]? = some sB from rfl)
  have x2 := cell_of_range (own_range mgd.o2 ic_len (show (sf :: (ms ++ rs).map n8)[0]? = some sf from rfl))
  have x3 := cell_of_range (own_range mgd.o3 vc_len (show (0 :: (ms ++ rs).map (wd8 (hd.map tid)))[0]? = some 0 from rfl))
  have xi := mgd.i
  have xn := mgd.n
  have xv := mgd.v
  refine wp_region_held (S := fun w' : World => w'.heap = ({ w3 with drawn := w3.drawn + 1 } : World).heap) (by kernel_rfl) ?_
  clear HM3 ow hB3 hBs3 h383 hcb3 hct hcm hcv hcl hib
  generalize ({ w3 with drawn := w3.drawn + 1 } : World) = w4 at *
  have hS : (fun w' : World => w'.heap = w4.heap) w4 := rfl
  have cel : ∀ {w' : World} {p : Addr} {v : Value}, w'.heap = w4.heap → w4.cell? p = some v → w'.cell? p = some v := fun e h => by simp only [World.cell?] at h ⊢; rw [e]; exact h
  refine any_take 0 (some 328) (.slice (some ⟨g1, 0, none⟩) (n1 + n2 + 1) c1) rfl rfl (by kernel_rfl) (by kernel_rfl) (by kernel_rfl) (fun _ _ _ h => h) (yld_cell (by kernel_rfl) 31 (.tmp 34) rfl ib 0 (by kernel_rfl) _ 31 (fun w' e => by rw [show w'.heap = w4.heap from e]; exact xi) _ Yba.underlying31 rfl _ rfl) (by assumption) ?_
  simp only [Act.put, List.setIfInBounds_toArray, List.set_cons_zero, List.set_cons_succ]
  refine any_take 1 (some 329) (.pointer (some ⟨g1, 0 * 20, none⟩)) rfl rfl (by kernel_rfl) (by kernel_rfl) (by kernel_rfl) (fun _ _ _ h => h) (.inl ⟨by kernel_rfl, fun w' _ => exec_index (.tmp 328) (.const (.int .i64 0)) rfl Yba.underlying31 hi26 hs26 g1 (n1 + n2 + 1) c1 0 (by omega) (by kernel_rfl) (by kernel_rfl)⟩) (by assumption) ?_
  simp only [Act.put, List.setIfInBounds_toArray, List.set_cons_zero, List.set_cons_succ]
  refine any_take 2 (some 330) (.agg (idc sB).toArray) rfl rfl (by kernel_rfl) (by kernel_rfl) (by kernel_rfl) (fun _ _ _ h => h) (yieldsIf_load_mid (by kernel_rfl) 26 (.tmp 329) rfl g1 (0 * 20) (by kernel_rfl) (idc sB) _ (fun w' e => range_heap e x1) Yba.underlying26 rfl (size26 sB)) (by assumption) ?_
  simp only [Act.put, List.setIfInBounds_toArray, List.set_cons_zero, List.set_cons_succ]
  refine any_take 3 (some 331) (.agg (idc sB).toArray) rfl rfl (by kernel_rfl) (by kernel_rfl) (by kernel_rfl) (fun _ _ _ h => h) (yld_blk (by kernel_rfl) 26 (.tmp 38) rfl p38 (by kernel_rfl) (idc sB) 26 (fun w' e => by rw [show w'.heap = w4.heap from e]; exact h38d) _ Yba.underlying26 rfl (size26 sB)) (by assumption) ?_
  simp only [Act.put, List.setIfInBounds_toArray, List.set_cons_zero, List.set_cons_succ]
  refine any_take 4 (some 332) (.bool false) rfl rfl (by kernel_rfl) (by kernel_rfl) (by kernel_rfl) (fun _ _ _ h => h) (.inl ⟨by kernel_rfl, fun w' _ => (exec_neq26 (.tmp 330) (.tmp 331) rfl fs fs (by kernel_rfl) (by kernel_rfl)).trans (by simp)⟩) (by assumption) ?_
  simp only [Act.put, List.setIfInBounds_toArray, List.set_cons_zero, List.set_cons_succ]
  refine any_take 5 (some 333) (.bool false) rfl rfl (by kernel_rfl) (by kernel_rfl) (by kernel_rfl) (fun _ _ _ h => h) (.inl ⟨by kernel_rfl, fun _ _ => by kernel_rfl⟩) (by assumption) ?_
  simp only [Act.put, List.setIfInBounds_toArray, List.set_cons_zero, List.set_cons_succ]
  refine any_take 6 (some 334) (.slice (some ⟨g2, 0, none⟩) (n1 + n2 + 1) c2) rfl rfl (by kernel_rfl) (by kernel_rfl) (by kernel_rfl) (fun _ _ _ h => h) (yld_cell (by kernel_rfl) 38 (.tmp 35) rfl mb 0 (by kernel_rfl) _ 38 (fun w' e => by rw [show w'.heap = w4.heap from e]; exact xn) _ Yba.underlying38 rfl _ rfl) (by assumption) ?_
  simp only [Act.put, List.setIfInBounds_toArray, List.set_cons_zero, List.set_cons_succ]
  refine any_take 7 (some 335) (.pointer (some ⟨g2, 0 * 1, none⟩)) rfl rfl (by kernel_rfl) (by kernel_rfl) (by kernel_rfl) (fun _ _ _ h => h) (.inl ⟨by kernel_rfl, fun w' _ => exec_index (.tmp 334) (.const (.int .i64 0)) rfl Yba.underlying38 hi3 hs3 g2 (n1 + n2 + 1) c2 0 (by omega) (by kernel_rfl) (by kernel_rfl)⟩) (by assumption) ?_
  simp only [Act.put, List.setIfInBounds_toArray, List.set_cons_zero, List.set_cons_succ]
  refine any_take 8 (some 336) (.int .i64 sf) rfl rfl (by kernel_rfl) (by kernel_rfl) (by kernel_rfl) (fun _ _ _ h => h) (.inl ⟨by kernel_rfl, fun w' e => exec_load_at 3 (.tmp 335) rfl g2 (0 * 1) (by kernel_rfl) (cel e x2) Yba.underlying3 rfl⟩) (by assumption) ?_
  simp only [Act.put, List.setIfInBounds_toArray, List.set_cons_zero, List.set_cons_succ]
  refine any_take 9 (some 337) (.int .i64 sf) rfl rfl (by kernel_rfl) (by kernel_rfl) (by kernel_rfl) (fun _ _ _ h => h) (.inl ⟨by kernel_rfl, fun _ _ => by kernel_rfl⟩) (by assumption) ?_
  simp only [Act.put, List.setIfInBounds_toArray, List.set_cons_zero, List.set_cons_succ]
  refine any_take 10 (some 338) (.bool false) rfl rfl (by kernel_rfl) (by kernel_rfl) (by kernel_rfl) (fun _ _ _ h => h) (.inl ⟨by kernel_rfl, fun w' _ => exec_neqI (k := .i64) (.tmp 336) (.tmp 337) rfl sf (by kernel_rfl) (by kernel_rfl)⟩) (by assumption) ?_
  simp only [Act.put, List.setIfInBounds_toArray, List.set_cons_zero, List.set_cons_succ]
  refine any_take 11 (some 339) (.bool false) rfl rfl (by kernel_rfl) (by kernel_rfl) (by kernel_rfl) (fun _ _ _ h => h) (.inl ⟨by kernel_rfl, fun _ _ => by kernel_rfl⟩) (by assumption) ?_
  simp only [Act.put, List.setIfInBounds_toArray, List.set_cons_zero, List.set_cons_succ]
  refine any_take 12 (some 340) (.bool false) rfl rfl (by kernel_rfl) (by kernel_rfl) (by kernel_rfl) (fun _ _ _ h => h) (.inl ⟨by kernel_rfl, fun _ _ => by kernel_rfl⟩) (by assumption) ?_
  simp only [Act.put, List.setIfInBounds_toArray, List.set_cons_zero, List.set_cons_succ]
  refine any_take 13 (some 341) (.slice (some ⟨g3, 0, none⟩) (n1 + n2 + 1) c3) rfl rfl (by kernel_rfl) (by kernel_rfl) (by kernel_rfl) (fun _ _ _ h => h) (yld_cell (by kernel_rfl) 51 (.tmp 36) rfl vb 0 (by kernel_rfl) _ 51 (fun w' e => by rw [show w'.heap = w4.heap from e]; exact xv) _ Yba.underlying51 rfl _ rfl) (by assumption) ?_
  simp only [Act.put, List.setIfInBounds_toArray, List.set_cons_zero, List.set_cons_succ]
  refine any_take 14 (some 342) (.pointer (some ⟨g3, 0 * 1, none⟩)) rfl rfl (by kernel_rfl) (by kernel_rfl) (by kernel_rfl) (fun _ _ _ h => h) (.inl ⟨by kernel_rfl, fun w' _ => exec_index (.tmp 341) (.const (.int .i64 0)) rfl Yba.underlying51 hi54 hs54 g3 (n1 + n2 + 1) c3 0 (by omega) (by kernel_rfl) (by kernel_rfl)⟩) (by assumption) ?_
  simp only [Act.put, List.setIfInBounds_toArray, List.set_cons_zero, List.set_cons_succ]
  refine any_take 15 (some 343) (.int .u8 0) rfl rfl (by kernel_rfl) (by kernel_rfl) (by kernel_rfl) (fun _ _ _ h => h) (.inl ⟨by kernel_rfl, fun w' e => exec_load_at 54 (.tmp 342) rfl g3 (0 * 1) (by kernel_rfl) (cel e x3) Yba.underlying54 rfl⟩) (by assumption) ?_
  simp only [Act.put, List.setIfInBounds_toArray, List.set_cons_zero, List.set_cons_succ]
  refine any_take 16 (some 344) (.bool false) rfl rfl (by kernel_rfl) (by kernel_rfl) (by kernel_rfl) (fun _ _ _ h => h) (.inl ⟨by kernel_rfl, fun w' _ => exec_neqI (k := .u8) (.tmp 343) (.const (.int .u8 0)) rfl 0 (by kernel_rfl) (by kernel_rfl)⟩) (by assumption) ?_
  simp only [Act.put, List.setIfInBounds_toArray, List.set_cons_zero, List.set_cons_succ]
  refine any_take 17 (some 345) (.bool false) rfl rfl (by kernel_rfl) (by kernel_rfl) (by kernel_rfl) (fun _ _ _ h => h) (.inl ⟨by kernel_rfl, fun _ _ => by kernel_rfl⟩) (by assumption) ?_
  simp only [Act.put, List.setIfInBounds_toArray, List.set_cons_zero, List.set_cons_succ]
  refine wpAnyH_done (by kernel_rfl) ?_ _
  clear hS cel x1 x2 x3 xi xn xv h38d
  go_upto_if 345 with fail
  go_step
  go_step
  go_step
  refine by_K (c := ?cc) (Q := ?QQ) ?hr ?ht
  case hr => assumption
  exact tail63 w w4 a3 n3 c30 lb ib mb vb gB (n1 + n2) cB g1 c1 g2 c2 g3 c3 _ (ms ++ rs) hd sB sf hBd hBsd (by omega) l3 (by omega) r3 mgd owd (fun b hb => (List.mem_append.1 hb).elim (f1 b) (f2 b)) _ _ _ _ _ _ _ _ _ _ _ _ _ _ _ _ _ _ _ _ _ _ _ _ _ _ _ _ _ _ _ _ _ _ _ _ _ _ _ _ _ _ _ _ _ _ _ _ _ _ _ _ _ _ _ _ _ _ _ _ _ _ _ _ _ _ _ _ _ _ _ _ _ _ _ _ _ _ _ _ _ _ _ _ _ _ _ _ _ _ _ _ _ _ _ _ _ _ _ _ _ _ _ _ _ _ _ _ _ _ _ _ _ _ _ _ _ _ _ _ _ _ _ _ _ _ _ _ _ _ _ _ _ _ _ _ _ _ _ _ _ _ _ _ _ _ _ _ _ _ _ _ _ _ _ _ _ _ _ _ _ _ _ _ _ _ _ _ _ _ _ _ _ _ _ _ _ _ _ _ _ _ _ _ _ _ _ _ _ _ _ _ _ _ _ _ _ _ _ _ _ _ _ _ _ _ _ _ _ _ _ _ _ _ _ _ _ _ _ _ _ _ _ _ _ _ _ _ _ _ _ _ _ _ _ _ _ _ _ _ _ _ _ _ _ _ _ _ _ _ _ _ _ _ _ _ _ _ _ _ _ _ _ _ _ _ _ _ _ _ _ _ _ _ _ _ _ _ _ _ _ _ _ _ _ _ _ _ _ _ _ _ _ _ _ _ _ _ _ _ _ _ _ _ _ _ _ _ _ _ _ _ _ _ _ _ _ _ _ _ _ _ _ _ _ _ _ _ _ _ _ _ _ _ _ _ _ _ _ _ _ _ _ _ _ _ _ _ _ _ _ _ _ _ _ _ _ _ _ _ _ _ _ _ _ _ _ _ _ _ _ _ _ _ _ _ _ _ _ _ _ _ _ _ _ _ _ _ _ _ _ _ _ _ _ _ _ _ _

end Go.Proofs.Ybulkdspq
