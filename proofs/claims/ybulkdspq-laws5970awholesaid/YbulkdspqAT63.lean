/-
  LawS5970AWhole: the last stretch (from region 63 on).
-/
import Derived.Test.YbulkdspqAHs
namespace Go.Proofs.Ybulkdspq
open Go.RowKit
set_option linter.unusedSimpArgs false
set_option linter.unusedVariables false

/-- The code of the law from a region on. -/
def headIs (n : Nat) : Code → Bool
  | .region m _ _ => m == n
  | .seq a _ => headIs n a
  | .block _ c => headIs n c
  | .loop c => headIs n c
  | .scope c => headIs n c
  | _ => false
def fromR (n : Nat) : Code → Option Code
  | .seq a b => if headIs n a then some (.seq a b) else fromR n b
  | .scope c => fromR n c
  | .block _ c => fromR n c
  | c => if headIs n c then some c else none
noncomputable def tailAt (n : Nat) : Code := (Yba.f3.body.bind (fromR n)).getD .skip
theorem tail63_head : headIs 63 (tailAt 63) = true := by kernel_rfl
theorem tail49_head : headIs 49 (tailAt 49) = true := by kernel_rfl
theorem tail26_head : headIs 26 (tailAt 26) = true := by kernel_rfl

theorem exec_neqI {a : Act} {o : Oper} {w : World} {ty : TypeId} {k : IntKind} (x y : Operand) (ho : o.op = .binOp .neq ty x y ty) (z : Int) (hx : a.eval x = .int k z) (hy : a.eval y = .int k z) :
    (execOp a.eval o).run Yba.prog w = .ok (.value (.bool false)) w := by
  have hg : (eqGuard .neq ty x y (.int k z) (.int k z)).run Yba.prog w = .ok () w := by simp [eqGuard]
  unfold execOp
  simp only [ho, hx, hy, Sem.run_bind, hg, Result.andThen_ok]
  simp only [binOp]
  simp [Op.intCmp, Result.andThen]
theorem exec_add1 {a : Act} {o : Oper} {w : World} (x : Operand) (ho : o.op = .binOp .add 3 x (.const (.int .i64 1)) 3) (i : Nat) (hi : i ≤ 1000000) (hx : a.eval x = .int .i64 (i : Int)) :
    (execOp a.eval o).run Yba.prog w = .ok (.value (.int .i64 ((i + 1 : Nat) : Int))) w := by
  have e1 : a.eval (.const (.int .i64 1)) = .int .i64 1 := rfl
  have hw : IntKind.i64.wrap ((i : Int) + 1) = (i : Int) + 1 := by rw [IntKind.wrap_i64]; omega
  unfold execOp
  simp only [ho, hx, e1]
  simp [binOp, eqGuard, Result.andThen, go_sem, Yba.underlying3, hw]
theorem run_load_at {P : Program} {w : World} {b i : Nat} {ty : TypeId} {d : TypeDesc} {v : Value} (hc : w.cell? ⟨b, i, none⟩ = some v) (hu : P.underlying ty = some d) (hd : d.isRow = false) : (loadVar ty ⟨b, i, none⟩).run P w = .ok v w := by
  have hagg : (isAgg ty).run P w = .ok false w := by
    unfold isAgg
    rw [Sem.run_bind, run_underlying hu w]
    cases d <;> simp_all
  simp [loadVar, hagg, hc]
theorem exec_load_at {P : Program} {a : Act} {o : Oper} {w : World} (ty : TypeId) (x : Operand) (ho : o.op = .load ty x) (b i : Nat) (hx : a.eval x = .pointer (some ⟨b, i, none⟩)) {v : Value} (hc : w.cell? ⟨b, i, none⟩ = some v) {d : TypeDesc} (hu : P.underlying ty = some d) (hd : d.isRow = false) : (execOp a.eval o).run P w = .ok (.value v) w := by
  unfold execOp
  simp only [ho, hx, Instr.loadAt, Instr.sureAddr, Sem.run_bind, Sem.run_pure, Result.andThen_ok, run_load_at hc hu hd]

/-- One byte. -/
def uc (z : Int) : List Value := [.int .u8 z]
theorem uc_len (z : Int) : (uc z).length = 1 := rfl
theorem uc_one (z : Int) : ∀ v ∈ uc z, v.oneCell' = true := by intro v hv; simp [uc] at hv; subst hv; rfl
theorem info5 : (Yba.prog.info? 5).map (fun i => (i.zero, i.size, i.bytes)) = some (some (.int .u8 0), 1, 1) := by kernel_rfl
/-- One step of what was heard, as it comes in. -/
structure Hd where
  n : Int
  b : Int
  r : Bool
  f : Int
def hc4 (h : Hd) : List Value := [.int .u8 h.n, .int .u8 h.b, .bool h.r, .int .u8 h.f]
def tid (h : Hd) : Tid := ⟨h.b, n8 h.n, h.r, cv h.f⟩
theorem size43 (h : Hd) : (Yba.prog.info? 43).map (·.size) = some (hc4 h).length := by kernel_rfl
/-- The script of what was heard lies where it came in. -/
def Rd3 (w : World) (a : Option Addr) (hd : List Hd) : Prop := ∀ j h, hd[j]? = some h → ∃ b o, a = some ⟨b, o, none⟩ ∧ b < w.heap.size ∧ w.rangeAt b (o + j * 4) (hc4 h)
/-- Bytes lie where they came in. -/
def Rd1 (w : World) (a : Option Addr) (xs : List Int) : Prop := ∀ j x, xs[j]? = some x → ∃ b o, a = some ⟨b, o, none⟩ ∧ b < w.heap.size ∧ w.cell? ⟨b, o + j, none⟩ = some (.int .u8 x)
theorem range_below {w wr : World} {b o : Nat} {cs : List Value} (h : Below w.heap.size w wr) (hb : b < w.heap.size) (hr : w.rangeAt b o cs) : wr.rangeAt b o cs := fun j v hv => (h.cell (p := ⟨b, _, none⟩) hb).trans (hr j v hv)
theorem alloc43 (w : World) : (Instr.alloc 43 true (.tuple #[])).run Yba.prog w = .ok (.pointer (some ⟨w.heap.size, 0, none⟩)) (w.alloc (.cells (hc4 ⟨0, 0, false, 0⟩).toArray 43)) := by kernel_rfl
theorem wpList_alloc43 {ops : Array Oper} {rest : List Oper} {op : Oper} {a : Act} {w : World} {Q : Exit → Act → World → Prop} (hgd : op.guard = none) (ho : op.op = .alloc 43)
    (h : wpList Yba.prog ops Q rest (a.put op.dst (.pointer (some ⟨w.heap.size, 0, none⟩))) (w.alloc (.cells (hc4 ⟨0, 0, false, 0⟩).toArray 43))) : wpList Yba.prog ops Q (op :: rest) a w := by
  refine wpList_plain hgd fun K hK => ?_
  unfold Oper.wp execOp
  simp only [ho, Sem.run_bind, alloc43, Result.andThen_ok, Sem.run_pure]
  exact hK _ _ h
theorem hc4_one (h : Hd) : ∀ v ∈ hc4 h, v.oneCell' = true := by intro v hv; simp [hc4] at hv; rcases hv with rfl | rfl | rfl | rfl <;> rfl

/-- What the message holds, as the law reads it. -/
structure MG (wr : World) (m lb ib mb vb g1 c1 g2 c2 g3 c3 : Nat) (lv : Value) (W : List Int) (hs : List Tid) (sB sf : Int) : Prop where
  len : W.length = m
  i : wr.heap[ib]? = some (.cells [.slice (some ⟨g1, 0, none⟩) (m + 1) c1].toArray 31 (0, 0))
  n : wr.heap[mb]? = some (.cells [.slice (some ⟨g2, 0, none⟩) (m + 1) c2].toArray 38 (0, 0))
  v : wr.heap[vb]? = some (.cells [.slice (some ⟨g3, 0, none⟩) (m + 1) c3].toArray 51 (0, 0))
  o1 : wr.ownsRow 0 26 20 (.slice (some ⟨g1, 0, none⟩) (m + 1) c1) (m + 1) ((sB :: W).flatMap idc)
  o2 : wr.ownsRow 0 3 1 (.slice (some ⟨g2, 0, none⟩) (m + 1) c2) (m + 1) ((sf :: W.map n8).flatMap ic)
  o3 : wr.ownsRow 0 54 1 (.slice (some ⟨g3, 0, none⟩) (m + 1) c3) (m + 1) ((0 :: W.map (wd8 hs)).flatMap vc)
  log : wr.heap[lb]? = some (.cells [lv].toArray 31 (0, 0))
  ol : wr.ownsRow 0 26 20 lv m (W.flatMap idc)
theorem MG.kept {wr w' : World} {m lb ib mb vb g1 c1 g2 c2 g3 c3 : Nat} {lv : Value} {W : List Int} {hs : List Tid} {sB sf : Int} (h : MG wr m lb ib mb vb g1 c1 g2 c2 g3 c3 lv W hs sB sf) (k : wr.grownBy w' none) : MG w' m lb ib mb vb g1 c1 g2 c2 g3 c3 lv W hs sB sf :=
  ⟨h.len, keep_blk k h.i (by simp), keep_blk k h.n (by simp), keep_blk k h.v (by simp), own_kept h.o1 k (by simp), own_kept h.o2 k (by simp), own_kept h.o3 k (by simp), keep_blk k h.log (by simp), own_kept h.ol k (by simp)⟩
theorem own_slice {w : World} {e size n : Nat} {v : Value} {xs : List Value} (h : w.ownsRow 0 e size v n xs) (hn : 0 < n) : ∃ g c, v = .slice (some ⟨g, 0, none⟩) n c := by
  rcases h.2 with ⟨rfl, rfl⟩ | ⟨g, cap, cur, rfl, _⟩
  · omega
  · exact ⟨g, cap, rfl⟩
theorem cell_of_range {w : World} {b o : Nat} {v : Value} (h : w.rangeAt b o [v]) : w.cell? ⟨b, o, none⟩ = some v := h 0 v rfl

set_option maxRecDepth 1000000 in
set_option maxHeartbeats 8000000 in
theorem tail63 (w wz : World) (a3 : Option Addr) (n3 c30 lb ib mb vb gw m cw g1 c1 g2 c2 g3 c3 : Nat) (lv : Value) (W : List Int) (hd : List Hd) (sB sf : Int) (hB : Below w.heap.size w wz) (hBs : w.heap.size ≤ wz.heap.size) (hm : m ≤ 65536) (hn3 : hd.length = n3) (hn3' : n3 ≤ 65536) (r3 : Rd3 w a3 hd)
    (mg : MG wz m lb ib mb vb g1 c1 g2 c2 g3 c3 lv W (hd.map tid) sB sf) (ow : wz.ownsRow 0 5 1 (.slice (some ⟨gw, 0, none⟩) m cw) m (W.flatMap uc)) (hwf : ∀ b ∈ W, (Lit.int .u8 b).wf = true) (s0 s1 s3 s4 s5 s6 s7 s8 s9 s10 s11 s12 s13 s14 s15 s16 s17 s18 s19 s20 s21 s22 s23 s24 s25 s26 s27 s29 s30 s31 s32 s33 s37 s38 s39 s41 s42 s43 s44 s45 s46 s47 s48 s49 s50 s51 s52 s53 s54 s55 s56 s57 s58 s59 s60 s61 s62 s63 s64 s65 s66 s67 s68 s69 s70 s71 s72 s73 s74 s75 s76 s77 s78 s79 s80 s81 s82 s83 s84 s85 s86 s87 s88 s89 s90 s91 s92 s93 s94 s95 s96 s97 s98 s99 s100 s101 s102 s103 s104 s105 s106 s107 s108 s109 s110 s111 s112 s113 s114 s115 s116 s117 s118 s119 s120 s121 s122 s123 s124 s125 s126 s127 s128 s129 s130 s131 s132 s133 s134 s135 s136 s137 s138 s139 s140 s141 s142 s143 s144 s145 s146 s147 s148 s149 s150 s151 s152 s153 s154 s155 s156 s157 s158 s159 s160 s161 s162 s163 s164 s165 s166 s167 s168 s169 s170 s171 s172 s173 s174 s175 s176 s177 s178 s179 s180 s181 s182 s183 s184 s185 s186 s187 s188 s189 s190 s191 s192 s193 s194 s195 s196 s197 s198 s199 s200 s201 s202 s203 s204 s205 s206 s207 s208 s209 s210 s211 s212 s213 s214 s215 s216 s217 s218 s219 s220 s221 s222 s223 s224 s225 s226 s227 s228 s229 s230 s231 s232 s233 s234 s235 s236 s237 s238 s239 s240 s241 s242 s243 s244 s245 s246 s247 s248 s249 s250 s251 s252 s253 s254 s255 s256 s257 s258 s259 s260 s261 s262 s263 s264 s265 s266 s267 s268 s269 s270 s271 s272 s273 s274 s275 s276 s277 s278 s279 s280 s281 s282 s283 s284 s285 s286 s287 s288 s289 s290 s291 s292 s293 s294 s295 s296 s297 s298 s299 s300 s301 s302 s303 s304 s305 s306 s307 s308 s309 s310 s311 s312 s313 s314 s315 s316 s317 s318 s319 s320 s321 s322 s323 s324 s325 s326 s327 s328 s329 s330 s331 s332 s333 s334 s335 s336 s337 s338 s339 s340 s341 s342 s343 s344 s345 s346 s347 s348 s349 s350 s351 s352 s353 s354 s355 s356 s357 s358 s359 s360 s361 s362 s363 s364 s365 s366 s367 s368 s369 s370 s371 s372 s373 s374 s375 s376 s377 s378 s379 s380 s381 s382 s383 s384 s385 s386 s387 s388 s389 s390 s391 s392 s393 s394 s395 s396 s397 s398 s399 s400 s401 s402 s403 s404 : Value) :
    Code.wp Yba.prog (tailAt 63) (bodyPost Yba.prog Yba.f3 fun e w' => e = .returned (.bool true) ∧ Below w.heap.size w w') ⟨#[s0, s1, .slice a3 n3 c30, s3, s4, s5, s6, s7, s8, s9, s10, s11, s12, s13, s14, s15, s16, s17, s18, s19, s20, s21, s22, s23, s24, s25, s26, s27, .pointer (some ⟨lb, 0, none⟩), s29, s30, s31, s32, s33, .pointer (some ⟨ib, 0, none⟩), .pointer (some ⟨mb, 0, none⟩), .pointer (some ⟨vb, 0, none⟩), s37, s38, s39, .slice (some ⟨gw, 0, none⟩) m cw, s41, s42, s43, s44, s45, s46, s47, s48, s49, s50, s51, s52, s53, s54, s55, s56, s57, s58, s59, s60, s61, s62, s63, s64, s65, s66, s67, s68, s69, s70, s71, s72, s73, s74, s75, s76, s77, s78, s79, s80, s81, s82, s83, s84, s85, s86, s87, s88, s89, s90, s91, s92, s93, s94, s95, s96, s97, s98, s99, s100, s101, s102, s103, s104, s105, s106, s107, s108, s109, s110, s111, s112, s113, s114, s115, s116, s117, s118, s119, s120, s121, s122, s123, s124, s125, s126, s127, s128, s129, s130, s131, s132, s133, s134, s135, s136, s137, s138, s139, s140, s141, s142, s143, s144, s145, s146, s147, s148, s149, s150, s151, s152, s153, s154, s155, s156, s157, s158, s159, s160, s161, s162, s163, s164, s165, s166, s167, s168, s169, s170, s171, s172, s173, s174, s175, s176, s177, s178, s179, s180, s181, s182, s183, s184, s185, s186, s187, s188, s189, s190, s191, s192, s193, s194, s195, s196, s197, s198, s199, s200, s201, s202, s203, s204, s205, s206, s207, s208, s209, s210, s211, s212, s213, s214, s215, s216, s217, s218, s219, s220, s221, s222, s223, s224, s225, s226, s227, s228, s229, s230, s231, s232, s233, s234, s235, s236, s237, s238, s239, s240, s241, s242, s243, s244, s245, s246, s247, s248, s249, s250, s251, s252, s253, s254, s255, s256, s257, s258, s259, s260, s261, s262, s263, s264, s265, s266, s267, s268, s269, s270, s271, s272, s273, s274, s275, s276, s277, s278, s279, s280, s281, s282, s283, s284, s285, s286, s287, s288, s289, s290, s291, s292, s293, s294, s295, s296, s297, s298, s299, s300, s301, s302, s303, s304, s305, s306, s307, s308, s309, s310, s311, s312, s313, s314, s315, s316, s317, s318, s319, s320, s321, s322, s323, s324, s325, s326, s327, s328, s329, s330, s331, s332, s333, s334, s335, s336, s337, s338, s339, s340, s341, s342, s343, s344, s345, s346, s347, s348, s349, s350, s351, s352, s353, s354, s355, s356, s357, s358, s359, s360, s361, s362, s363, s364, s365, s366, s367, s368, s369, s370, s371, s372, s373, s374, s375, s376, s377, s378, s379, s380, s381, s382, s383, s384, s385, s386, s387, s388, s389, s390, s391, s392, s393, s394, s395, s396, s397, s398, s399, s400, s401, s402, s403, s404], []⟩ wz := by
  conv => arg 2; whnf
  obtain ⟨i5, hi5, _, hs5, _⟩ := info_parts info5
  obtain ⟨i26, hi26, _, hs26, _⟩ := info_parts info26
  obtain ⟨i3, hi3, _, hs3, _⟩ := info_parts info3
  obtain ⟨i54, hi54, _, hs54, _⟩ := info_parts info54
  have hW := mg.len
  go_wp2_with fail
  go_loopg [348] m (fun g v wy => ∃ k : Nat, k + g = m ∧ v = .int .i64 k ∧ wz.grownBy wy none)
  case atStart => exact ⟨0, by omega, rfl, World.grownBy.refl wz none⟩
  case round =>
    obtain ⟨k, hk, rfl, hg⟩ := hrel
    by_cases hkm : k < m
    · obtain ⟨b, hb⟩ : ∃ b, W[k]? = some b := ⟨_, List.getElem?_eq_getElem (by omega)⟩
      have hwb : (Lit.int .u8 b).wf = true := hwf b (List.mem_of_getElem? hb)
      have hkm' : (k : Int) < (m : Int) := by omega
      have mg1 := mg.kept hg
      have rb := own_range (own_kept ow hg (by simp)) uc_len hb
      have rbc : wr.cell? ⟨gw, k * 1, none⟩ = some (.int .u8 b) := cell_of_range rb
      obtain ⟨gl, cl, hlv⟩ := own_slice mg1.ol (by omega)
      have hB1 : Below w.heap.size w wr := hB.grown hg hBs (by simp)
      go_upto_region 65 with fail
      go_wp2_with (first
        | (refine wpList_is (.indexAddr 22 (.tmp 346) (.tmp 348)) rfl ?_; refine wpList_index rfl (.tmp 346) (.tmp 348) rfl Yba.underlying22 hi5 hs5 gw m cw k hkm rfl rfl ?_)
        | (refine wpList_is (.load 5 (.tmp 351)) rfl ?_; refine wpList_exec rfl _ (exec_load_at 5 (.tmp 351) rfl gw (k * 1) rfl rbc Yba.underlying5 rfl) ?_))
      refine (aid_any b _).mono ?_
      rintro e w1 ⟨rfl, k1⟩
      go_upto_region 68 with (first
        | (refine wpList_is (.alloc 26) rfl ?_; refine wpList_alloc26 rfl rfl ?_)
        | (refine wpList_is (.store 26 (.tmp 44) (.tmp 354)) rfl ?_; refine wpList_store_blk rfl 26 (.tmp 44) (.tmp 354) rfl w1.heap.size (idc b) rfl rfl _ _ (blk_new _ _ _ _ rfl) rfl (size26 b) (idc_one b) ?_; intro w2 hb2 k2)
        | (refine wpList_is (.convert 5 3 (.tmp 356)) rfl ?_; refine wpList_conv53 rfl (.tmp 356) rfl (b.tmod 8) rfl ?_))
      have hg2 : wz.grownBy w2 none := grown_trans hg (grown_trans k1 (grown_new k2))
      have mg2 := mg.kept hg2
      have hB2 : Below w.heap.size w w2 := hB.grown hg2 hBs (by simp)
      have mg2d : MG { w2 with drawn := w2.drawn + 1 } m lb ib mb vb g1 c1 g2 c2 g3 c3 lv W (hd.map tid) sB sf := mg2.kept (grown_drew w2)
      have hb2d : ({ w2 with drawn := w2.drawn + 1 } : World).heap[w1.heap.size]? = some (.cells (idc b).toArray 26 (0, 0)) := hb2
      have hg2d : wz.grownBy { w2 with drawn := w2.drawn + 1 } none := grown_trans hg2 (grown_drew w2)
      subst hlv
      have x1 := own_range mg2d.ol idc_len hb
      have x2 := own_range mg2d.o1 idc_len (show (sB :: W)[k + 1]? = some b by simpa using hb)
      have x3 := cell_of_range (own_range mg2d.o2 ic_len (show (sf :: W.map n8)[k + 1]? = some (n8 b) by simp [hb]))
      have x4 := cell_of_range (own_range mg2d.o3 vc_len (show (0 :: W.map (wd8 (hd.map tid)))[k + 1]? = some (wd8 (hd.map tid) b) by simp [hb]))
      rw [Nat.mul_one] at x3
      have xl := mg2d.log
      have xi := mg2d.i
      have xn := mg2d.n
      clear mg1 rb rbc hB1 k1 k2 mg2 hB2 hg hb2 mg2d hg2
      refine wp_region_held (S := fun w' : World => w'.heap = ({ w2 with drawn := w2.drawn + 1 } : World).heap) (by kernel_rfl) ?_
      generalize ({ w2 with drawn := w2.drawn + 1 } : World) = w3 at *
      have hS : (fun w' : World => w'.heap = w3.heap) w3 := rfl
      have cel : ∀ {w' : World} {p : Addr} {v : Value}, w'.heap = w3.heap → w3.cell? p = some v → w'.cell? p = some v := fun e h => by simp only [World.cell?] at h ⊢; rw [e]; exact h
      refine any_take 0 (some 358) (.slice (some ⟨gl, 0, none⟩) m cl) rfl rfl (by kernel_rfl) (by kernel_rfl) (by kernel_rfl) (fun _ _ _ h => h) (yld_cell (by kernel_rfl) 31 (.tmp 28) rfl lb 0 (by kernel_rfl) _ 31 (fun w' e => by rw [show w'.heap = w3.heap from e]; exact xl) _ Yba.underlying31 rfl _ rfl) (by assumption) ?_
      simp only [Act.put, List.setIfInBounds_toArray, List.set_cons_zero, List.set_cons_succ]
      refine any_take 1 (some 359) (.int .i64 k) rfl rfl (by kernel_rfl) (by kernel_rfl) (by kernel_rfl) (fun _ _ _ h => h) (.inl ⟨by kernel_rfl, fun _ _ => by kernel_rfl⟩) (by assumption) ?_
      simp only [Act.put, List.setIfInBounds_toArray, List.set_cons_zero, List.set_cons_succ]
      refine any_take 2 (some 360) (.pointer (some ⟨gl, k * 20, none⟩)) rfl rfl (by kernel_rfl) (by kernel_rfl) (by kernel_rfl) (fun _ _ _ h => h) (.inl ⟨by kernel_rfl, fun w' _ => exec_index (.tmp 358) (.tmp 359) rfl Yba.underlying31 hi26 hs26 gl m cl k hkm (by kernel_rfl) (by kernel_rfl)⟩) (by assumption) ?_
      simp only [Act.put, List.setIfInBounds_toArray, List.set_cons_zero, List.set_cons_succ]
      refine any_take 3 (some 361) (.agg (idc b).toArray) rfl rfl (by kernel_rfl) (by kernel_rfl) (by kernel_rfl) (fun _ _ _ h => h) (yieldsIf_load_mid (by kernel_rfl) 26 (.tmp 360) rfl gl (k * 20) (by kernel_rfl) (idc b) _ (fun w' e => range_heap e x1) Yba.underlying26 rfl (size26 b)) (by assumption) ?_
      simp only [Act.put, List.setIfInBounds_toArray, List.set_cons_zero, List.set_cons_succ]
      refine any_take 4 (some 362) (.agg (idc b).toArray) rfl rfl (by kernel_rfl) (by kernel_rfl) (by kernel_rfl) (fun _ _ _ h => h) (yld_blk (by kernel_rfl) 26 (.tmp 44) rfl w1.heap.size (by kernel_rfl) (idc b) 26 (fun w' e => by rw [show w'.heap = w3.heap from e]; exact hb2d) _ Yba.underlying26 rfl (size26 b)) (by assumption) ?_
      simp only [Act.put, List.setIfInBounds_toArray, List.set_cons_zero, List.set_cons_succ]
      refine any_take 5 (some 363) (.bool false) rfl rfl (by kernel_rfl) (by kernel_rfl) (by kernel_rfl) (fun _ _ _ h => h) (.inl ⟨by kernel_rfl, fun w' _ => (exec_neq26 (.tmp 361) (.tmp 362) rfl hwb hwb (by kernel_rfl) (by kernel_rfl)).trans (by simp)⟩) (by assumption) ?_
      simp only [Act.put, List.setIfInBounds_toArray, List.set_cons_zero, List.set_cons_succ]
      refine any_take 6 (some 364) (.bool false) rfl rfl (by kernel_rfl) (by kernel_rfl) (by kernel_rfl) (fun _ _ _ h => h) (.inl ⟨by kernel_rfl, fun _ _ => by kernel_rfl⟩) (by assumption) ?_
      simp only [Act.put, List.setIfInBounds_toArray, List.set_cons_zero, List.set_cons_succ]
      refine any_take 7 (some 365) (.slice (some ⟨g1, 0, none⟩) (m + 1) c1) rfl rfl (by kernel_rfl) (by kernel_rfl) (by kernel_rfl) (fun _ _ _ h => h) (yld_cell (by kernel_rfl) 31 (.tmp 34) rfl ib 0 (by kernel_rfl) _ 31 (fun w' e => by rw [show w'.heap = w3.heap from e]; exact xi) _ Yba.underlying31 rfl _ rfl) (by assumption) ?_
      simp only [Act.put, List.setIfInBounds_toArray, List.set_cons_zero, List.set_cons_succ]
      refine any_take 8 (some 366) (.int .i64 k) rfl rfl (by kernel_rfl) (by kernel_rfl) (by kernel_rfl) (fun _ _ _ h => h) (.inl ⟨by kernel_rfl, fun _ _ => by kernel_rfl⟩) (by assumption) ?_
      simp only [Act.put, List.setIfInBounds_toArray, List.set_cons_zero, List.set_cons_succ]
      refine any_take 9 (some 367) (.int .i64 ((k : Int) + 1)) rfl rfl (by kernel_rfl) (by kernel_rfl) (by kernel_rfl) (fun _ _ _ h => h) (.inl ⟨by kernel_rfl, fun w' _ => exec_add1 (.tmp 366) rfl k (by omega) (by kernel_rfl)⟩) (by assumption) ?_
      simp only [Act.put, List.setIfInBounds_toArray, List.set_cons_zero, List.set_cons_succ]
      refine any_take 10 (some 368) (.pointer (some ⟨g1, (k + 1) * 20, none⟩)) rfl rfl (by kernel_rfl) (by kernel_rfl) (by kernel_rfl) (fun _ _ _ h => h) (.inl ⟨by kernel_rfl, fun w' _ => exec_index (.tmp 365) (.tmp 367) rfl Yba.underlying31 hi26 hs26 g1 (m + 1) c1 (k + 1) (by omega) (by kernel_rfl) (by kernel_rfl)⟩) (by assumption) ?_
      simp only [Act.put, List.setIfInBounds_toArray, List.set_cons_zero, List.set_cons_succ]
      refine any_take 11 (some 369) (.agg (idc b).toArray) rfl rfl (by kernel_rfl) (by kernel_rfl) (by kernel_rfl) (fun _ _ _ h => h) (yieldsIf_load_mid (by kernel_rfl) 26 (.tmp 368) rfl g1 ((k + 1) * 20) (by kernel_rfl) (idc b) _ (fun w' e => range_heap e x2) Yba.underlying26 rfl (size26 b)) (by assumption) ?_
      simp only [Act.put, List.setIfInBounds_toArray, List.set_cons_zero, List.set_cons_succ]
      refine any_take 12 (some 370) (.agg (idc b).toArray) rfl rfl (by kernel_rfl) (by kernel_rfl) (by kernel_rfl) (fun _ _ _ h => h) (yld_blk (by kernel_rfl) 26 (.tmp 44) rfl w1.heap.size (by kernel_rfl) (idc b) 26 (fun w' e => by rw [show w'.heap = w3.heap from e]; exact hb2d) _ Yba.underlying26 rfl (size26 b)) (by assumption) ?_
      simp only [Act.put, List.setIfInBounds_toArray, List.set_cons_zero, List.set_cons_succ]
      refine any_take 13 (some 371) (.bool false) rfl rfl (by kernel_rfl) (by kernel_rfl) (by kernel_rfl) (fun _ _ _ h => h) (.inl ⟨by kernel_rfl, fun w' _ => (exec_neq26 (.tmp 369) (.tmp 370) rfl hwb hwb (by kernel_rfl) (by kernel_rfl)).trans (by simp)⟩) (by assumption) ?_
      simp only [Act.put, List.setIfInBounds_toArray, List.set_cons_zero, List.set_cons_succ]
      refine any_take 14 (some 372) (.bool false) rfl rfl (by kernel_rfl) (by kernel_rfl) (by kernel_rfl) (fun _ _ _ h => h) (.inl ⟨by kernel_rfl, fun _ _ => by kernel_rfl⟩) (by assumption) ?_
      simp only [Act.put, List.setIfInBounds_toArray, List.set_cons_zero, List.set_cons_succ]
      refine any_take 15 (some 373) (.bool false) rfl rfl (by kernel_rfl) (by kernel_rfl) (by kernel_rfl) (fun _ _ _ h => h) (.inl ⟨by kernel_rfl, fun _ _ => by kernel_rfl⟩) (by assumption) ?_
      simp only [Act.put, List.setIfInBounds_toArray, List.set_cons_zero, List.set_cons_succ]
      refine any_take 16 (some 374) (.slice (some ⟨g2, 0, none⟩) (m + 1) c2) rfl rfl (by kernel_rfl) (by kernel_rfl) (by kernel_rfl) (fun _ _ _ h => h) (yld_cell (by kernel_rfl) 38 (.tmp 35) rfl mb 0 (by kernel_rfl) _ 38 (fun w' e => by rw [show w'.heap = w3.heap from e]; exact xn) _ Yba.underlying38 rfl _ rfl) (by assumption) ?_
      simp only [Act.put, List.setIfInBounds_toArray, List.set_cons_zero, List.set_cons_succ]
      refine any_take 17 (some 375) (.int .i64 k) rfl rfl (by kernel_rfl) (by kernel_rfl) (by kernel_rfl) (fun _ _ _ h => h) (.inl ⟨by kernel_rfl, fun _ _ => by kernel_rfl⟩) (by assumption) ?_
      simp only [Act.put, List.setIfInBounds_toArray, List.set_cons_zero, List.set_cons_succ]
      refine any_take 18 (some 376) (.int .i64 ((k : Int) + 1)) rfl rfl (by kernel_rfl) (by kernel_rfl) (by kernel_rfl) (fun _ _ _ h => h) (.inl ⟨by kernel_rfl, fun w' _ => exec_add1 (.tmp 375) rfl k (by omega) (by kernel_rfl)⟩) (by assumption) ?_
      simp only [Act.put, List.setIfInBounds_toArray, List.set_cons_zero, List.set_cons_succ]
      refine any_take 19 (some 377) (.pointer (some ⟨g2, k + 1, none⟩)) rfl rfl (by kernel_rfl) (by kernel_rfl) (by kernel_rfl) (fun _ _ _ h => h) (.inl ⟨by kernel_rfl, fun w' _ => (exec_index (.tmp 374) (.tmp 376) rfl Yba.underlying38 hi3 hs3 g2 (m + 1) c2 (k + 1) (by omega) (by kernel_rfl) (by kernel_rfl)).trans (by rw [Nat.mul_one])⟩) (by assumption) ?_
      simp only [Act.put, List.setIfInBounds_toArray, List.set_cons_zero, List.set_cons_succ]
      refine any_take 20 (some 378) (.int .i64 (n8 b)) rfl rfl (by kernel_rfl) (by kernel_rfl) (by kernel_rfl) (fun _ _ _ h => h) (.inl ⟨by kernel_rfl, fun w' e => exec_load_at 3 (.tmp 377) rfl g2 (k + 1) (by kernel_rfl) (cel e x3) Yba.underlying3 rfl⟩) (by assumption) ?_
      simp only [Act.put, List.setIfInBounds_toArray, List.set_cons_zero, List.set_cons_succ]
      refine any_take 21 (some 379) (.int .i64 (n8 b)) rfl rfl (by kernel_rfl) (by kernel_rfl) (by kernel_rfl) (fun _ _ _ h => h) (.inl ⟨by kernel_rfl, fun _ _ => by kernel_rfl⟩) (by assumption) ?_
      simp only [Act.put, List.setIfInBounds_toArray, List.set_cons_zero, List.set_cons_succ]
      refine any_take 22 (some 380) (.bool false) rfl rfl (by kernel_rfl) (by kernel_rfl) (by kernel_rfl) (fun _ _ _ h => h) (.inl ⟨by kernel_rfl, fun w' _ => exec_neqI (k := .i64) (.tmp 378) (.tmp 379) rfl (n8 b) (by kernel_rfl) (by kernel_rfl)⟩) (by assumption) ?_
      simp only [Act.put, List.setIfInBounds_toArray, List.set_cons_zero, List.set_cons_succ]
      refine any_take 23 (some 381) (.bool false) rfl rfl (by kernel_rfl) (by kernel_rfl) (by kernel_rfl) (fun _ _ _ h => h) (.inl ⟨by kernel_rfl, fun _ _ => by kernel_rfl⟩) (by assumption) ?_
      simp only [Act.put, List.setIfInBounds_toArray, List.set_cons_zero, List.set_cons_succ]
      refine wpAnyH_done (by kernel_rfl) ?_ _
      clear hS cel x1 x2 x3 xl xi xn
      have hB3 : Below w.heap.size w w3 := hB.grown hg2d hBs (by simp)
      have hs3z : w.heap.size ≤ w3.heap.size := Nat.le_trans hBs hg2d.size
      have hwd : wd8 (hd.map tid) b = word (hear ((hd.map tid).take n3) (n8 b)).1.r (hear ((hd.map tid).take n3) (n8 b)).2 := by
        have e : (hd.map tid).take n3 = hd.map tid := List.take_of_length_le (by rw [List.length_map]; omega)
        rw [e]; rfl
      have MG0 : Hid (MG wz m lb ib mb vb g1 c1 g2 c2 g3 c3 (.slice (some ⟨gl, 0, none⟩) m cl) W (hd.map tid) sB sf) := mg
      clear mg hb2d
      go_wp2_with fail
      have n8def : cv (b.tmod 8) = n8 b := rfl
      rw [hwd] at x4
      clear hwd
      go_loopg [46, 384] n3 (fun g x v wy => ∃ i : Nat, i + g = n3 ∧ v = .int .i64 i ∧ x = .int .u8 (word (hear ((hd.map tid).take i) (n8 b)).1.r (hear ((hd.map tid).take i) (n8 b)).2) ∧ w3.grownBy wy none)
      case atStart => exact ⟨0, by omega, rfl, rfl, World.grownBy.refl w3 none⟩
      case round =>
        obtain ⟨i, hi, rfl, rfl, hgi⟩ := hrel
        by_cases hin : i < n3
        · obtain ⟨h, hh⟩ : ∃ h, hd[i]? = some h := ⟨_, List.getElem?_eq_getElem (by omega)⟩
          obtain ⟨b0, o0, rfl, hb0, hr0⟩ := r3 i h hh
          have hin' : (i : Int) < (n3 : Int) := by omega
          have hBi : Below w.heap.size w wr := hB3.grown hgi hs3z (by simp)
          have hri := range_below hBi hb0 hr0
          have ht : (hd.map tid)[i]? = some (tid h) := by simp [hh]
          have hstep := hear_take (hd.map tid) (n8 b) ht
          have HST : Hid (hear ((hd.map tid).take (i + 1)) (n8 b) = if (tid h).n = n8 b then (tid h, true) else hear ((hd.map tid).take i) (n8 b)) := hstep
          clear hstep hr0 ht
          go_upto_region 73 with fail
          go_upto_region 74 with (first
            | (refine wpList_is (.load 43 (.tmp 386)) rfl ?_; refine wpList_load_mid rfl 43 (.tmp 386) rfl b0 (o0 + i * 4) rfl (hc4 h) _ hri Yba.underlying43 rfl (size43 h) ?_)
            | (refine wpList_is (.alloc 43) rfl ?_; refine wpList_alloc43 rfl rfl ?_)
            | (refine wpList_is (.store 43 (.tmp 48) (.tmp 387)) rfl ?_; refine wpList_store_blk rfl 43 (.tmp 48) (.tmp 387) rfl wr.heap.size (hc4 h) rfl rfl _ _ (blk_new _ _ _ _ rfl) rfl (size43 h) (hc4_one h) ?_; intro w4 hb4 k4))
          have hg4 : w3.grownBy w4 none := grown_trans hgi (grown_new k4)
          clear k4 hri hBi
          by_cases hx : n8 h.n = n8 b
          · have hst : hear ((hd.map tid).take (i + 1)) (n8 b) = (tid h, true) := (show hear ((hd.map tid).take (i + 1)) (n8 b) = if (tid h).n = n8 b then (tid h, true) else hear ((hd.map tid).take i) (n8 b) from HST).trans (if_pos hx)
            have HX : Hid (hear ((hd.map tid).take (i + 1)) (n8 b) = (tid h, true)) := hst
            have hcv : cv (h.n.tmod 8) = cv (b.tmod 8) := hx
            clear hst HST hx n8def
            cases hr : h.r
            · have HR : Hid (h.r = false) := hr
              have hc2 : (hc4 h)[2]? = some (.bool false) := by rw [← hr]; rfl
              clear hr
              go_wp2_with (first
                | (refine wpList_is (.load 5 (.tmp 388)) rfl ?_; refine wpList_load_cell rfl 5 (.tmp 388) rfl wr.heap.size 0 rfl _ _ hb4 _ Yba.underlying5 rfl (.int .u8 h.n) rfl ?_)
                | (refine wpList_is (.convert 5 3 (.tmp 390)) rfl ?_; refine wpList_conv53 rfl (.tmp 390) rfl (h.n.tmod 8) rfl ?_)
                | (refine wpList_is (.load 4 (.tmp 394)) rfl ?_; refine wpList_load_cell rfl 4 (.tmp 394) rfl wr.heap.size 2 rfl _ _ hb4 _ Yba.underlying4 rfl _ hc2 ?_))
              go_roundg (n3 - (i + 1))
              case measure => omega
              case rel => exact ⟨i + 1, by omega, by go_num, by rw [show hear ((hd.map tid).take (i + 1)) (n8 b) = (tid h, true) from HX]; simp [word, tid, show h.r = false from HR], hg4⟩
            · have HR : Hid (h.r = true) := hr
              have hc2 : (hc4 h)[2]? = some (.bool true) := by rw [← hr]; rfl
              clear hr
              go_wp2_with (first
                | (refine wpList_is (.load 5 (.tmp 388)) rfl ?_; refine wpList_load_cell rfl 5 (.tmp 388) rfl wr.heap.size 0 rfl _ _ hb4 _ Yba.underlying5 rfl (.int .u8 h.n) rfl ?_)
                | (refine wpList_is (.convert 5 3 (.tmp 390)) rfl ?_; refine wpList_conv53 rfl (.tmp 390) rfl (h.n.tmod 8) rfl ?_)
                | (refine wpList_is (.load 4 (.tmp 394)) rfl ?_; refine wpList_load_cell rfl 4 (.tmp 394) rfl wr.heap.size 2 rfl _ _ hb4 _ Yba.underlying4 rfl _ hc2 ?_))
              go_roundg (n3 - (i + 1))
              case measure => omega
              case rel => exact ⟨i + 1, by omega, by go_num, by rw [show hear ((hd.map tid).take (i + 1)) (n8 b) = (tid h, true) from HX]; simp [word, tid, show h.r = true from HR], hg4⟩
          · have hst : hear ((hd.map tid).take (i + 1)) (n8 b) = hear ((hd.map tid).take i) (n8 b) := (show hear ((hd.map tid).take (i + 1)) (n8 b) = if (tid h).n = n8 b then (tid h, true) else hear ((hd.map tid).take i) (n8 b) from HST).trans (if_neg hx)
            have HX : Hid (hear ((hd.map tid).take (i + 1)) (n8 b) = hear ((hd.map tid).take i) (n8 b)) := hst
            have hcv : ¬ cv (h.n.tmod 8) = cv (b.tmod 8) := hx
            clear hst HST hx n8def
            go_wp2_with (first
                | (refine wpList_is (.load 5 (.tmp 388)) rfl ?_; refine wpList_load_cell rfl 5 (.tmp 388) rfl wr.heap.size 0 rfl _ _ hb4 _ Yba.underlying5 rfl (.int .u8 h.n) rfl ?_)
                | (refine wpList_is (.convert 5 3 (.tmp 390)) rfl ?_; refine wpList_conv53 rfl (.tmp 390) rfl (h.n.tmod 8) rfl ?_))
            go_roundg (n3 - (i + 1))
            case measure => omega
            case rel => exact ⟨i + 1, by omega, by go_num, by rw [show hear ((hd.map tid).take (i + 1)) (n8 b) = hear ((hd.map tid).take i) (n8 b) from HX], hg4⟩
        · have hin' : n3 = i := by omega
          subst hin'
          have mg5 := MG.kept MG0 (grown_trans hg2d hgi)
          have xv := mg5.v
          have x5 : wr.cell? ⟨g3, (k + 1) * 1, none⟩ = some (.int .u8 (word (hear ((hd.map tid).take n3) (n8 b)).1.r (hear ((hd.map tid).take n3) (n8 b)).2)) := by
            have lt3 : g3 < w3.heap.size := (own_base (MG.kept MG0 hg2d).o3 rfl).2
            simp only [World.cell?] at x4 ⊢
            rw [hgi.block g3 lt3 (by simp)]
            exact x4
          clear x4 mg5 n8def
          go_upto_region 79 with fail
          go_upto_if 403 with (first
            | (refine wpList_is (.load 51 (.tmp 36)) rfl ?_; refine wpList_load_cell rfl 51 (.tmp 36) rfl vb 0 rfl _ _ xv _ Yba.underlying51 rfl _ rfl ?_)
            | (refine wpList_is (.binOp .add 3 (.tmp 398) (.const (.int .i64 1)) 3) rfl ?_; refine wpList_exec rfl _ (exec_add1 (.tmp 398) rfl k (by omega) rfl) ?_)
            | (refine wpList_is (.indexAddr 51 (.tmp 397) (.tmp 399)) rfl ?_; refine wpList_index rfl (.tmp 397) (.tmp 399) rfl Yba.underlying51 hi54 hs54 g3 (m + 1) c3 (k + 1) (by omega) rfl rfl ?_)
            | (refine wpList_is (.load 54 (.tmp 400)) rfl ?_; refine wpList_exec rfl _ (exec_load_at 54 (.tmp 400) rfl g3 ((k + 1) * 1) rfl x5 Yba.underlying54 rfl) ?_)
            | (refine wpList_is (.binOp .neq 54 (.tmp 401) (.tmp 402) 54) rfl ?_; refine wpList_exec rfl _ (exec_neqI (k := .u8) (.tmp 401) (.tmp 402) rfl _ rfl rfl) ?_))
          clear x5 xv
          go_wp2_with fail
          go_roundg (m - (k + 1))
          case measure => omega
          case rel => exact ⟨k + 1, by omega, by go_num, grown_trans hg2d hgi⟩
    · have hkm' : m = k := by omega
      subst hkm'
      go_wp2_with fail
      refine bodyPost_ret (v := .bool true) (by kernel_rfl) rfl ⟨rfl, hB.grown hg hBs (by simp)⟩

end Go.Proofs.Ybulkdspq
