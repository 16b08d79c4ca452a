/-
  LawS5970CWhole: from region 19 on: the tops.
-/
import Derived.Test.YbulkdspqFmtCT26
namespace Go.Proofs.YbulkdspqFmt
open Go.RowKit
set_option linter.unusedSimpArgs false
set_option linter.unusedVariables false

theorem any_appR {ops : Array Oper} {S : World → Prop} {md : Region.Mode} {Q : Exit → Act → World → Prop} {fuel : Nat} {listed : Array Bool} {a : Act} {oi : Oper} {w : World} (k : Nat) (d : Option Tmp) (hi : ops[k]? = some oi) (hd : oi.dst = d) (hr : Region.ready md ops listed = [k]) (hw : Region.wanted oi (yielded ops a.tmps) = true) {t e : TypeId} {z : Value} {size bytes : Nat} (ht : Ybaf.prog.underlying t = some (.slice e)) (hinfo : (Ybaf.prog.info? e).map (fun i => (i.zero, i.size, i.bytes)) = some (some z, size, bytes)) (hzs : z.cells.size = size) (hsz : 0 < size) (hby : bytes ≤ 48)
    (s x : Operand) (ho : oi.op = .call { callee := .builtin .append, args := #[s, x], argTypes := #[t, t] }) (v : Value) (n : Nat) (xs : List Value) (hs : a.eval s = v) (hown : w.ownsRow 0 e size v n xs)
    (vx : Value) (m : Nat) (news : List Value) (hx : a.eval x = vx) (hox : w.ownsRow 0 e size vx m news) (h1 : ∀ u ∈ news, u.oneCell' = true) (hn : n + m ≤ 1000000)
    (h : ∀ v' w', w'.ownsRow 0 e size v' (n + m) (xs ++ news) → w.grownBy w' v.ownBlock → (v'.ownBlock = v.ownBlock ∨ v'.ownBlock = some w.heap.size) → S w' ∧ wpAnyH Ybaf.prog md ops Q S fuel (listed.setIfInBounds k true) (a.put d v') w') : wpAnyH Ybaf.prog md ops Q S (fuel + 1) listed a w := by
  obtain ⟨v', w', hrun, h2, h3, h5⟩ := exec_appR ht hinfo hzs hsz hby s x ho v n xs hs hown vx m news hx hox h1 hn
  exact any_one k d v' w' hi hd hr hw hrun (h v' w' h2 h3 h5).1 (h v' w' h2 h3 h5).2
theorem be_top {f : Nat → Int} (hf : Byt f) : Lib.beZ (((List.range 8).map (fun j => f (0 + j))).take 8) = topN (nm f) := by
  have h0 := hf 0 (by omega); have h1 := hf 1 (by omega); have h2 := hf 2 (by omega); have h3 := hf 3 (by omega)
  have h4 := hf 4 (by omega); have h5 := hf 5 (by omega); have h6 := hf 6 (by omega); have h7 := hf 7 (by omega)
  have h8 := hf 8 (by omega); have h9 := hf 9 (by omega); have h10 := hf 10 (by omega); have h11 := hf 11 (by omega)
  have hl := loW_bd hf
  have e : (List.range 8).map (fun j => f (0 + j)) = [f 0, f 1, f 2, f 3, f 4, f 5, f 6, f 7] := by simp [List.range_succ]
  rw [e, nm_words]
  unfold topN hiW miW
  simp [Lib.beZ, Lib.beFromZ]
  omega

attribute [local irreducible] wpList in
set_option maxRecDepth 1000000 in
set_option maxHeartbeats 16000000 in
theorem tail19 (w wz : World) (s h : Int) (b17 : Nat) (vi0 : Value) (ids refs : List Int) (a3 : Option Addr) (n3 c3 : Nat) (l3 : refs.length = n3) (r3 : Rdu w a3 refs) (gd : Good s ids refs) (hh : 1 ≤ h) (hh4 : h ≤ 4) (g : w.grownBy wz none) (x17 : wz.heap[b17]? = some (.cells (ic s).toArray 25 (0, 0))) (oi : wz.ownsRow 0 25 20 vi0 ids.length (ids.flatMap ic)) (su ss al0 asl : Int) (hsu : Sm su) (hss : 0 ≤ ss ∧ ss < 256) (hal0 : Sm al0) (has : 0 ≤ asl ∧ asl < 256) (s0 s1 s2 s8 s9 s10 s11 s12 s13 s14 s15 s16 s20 s21 s22 s23 s24 s25 s26 s27 s28 s29 s30 s31 s32 s33 s34 s35 s36 s37 s38 s39 s40 s41 s42 s43 s44 s45 s46 s47 s48 s49 s50 s51 s52 s53 s54 s55 s56 s57 s58 s59 s60 s61 s62 s63 s64 s65 s66 s67 s68 s69 s70 s71 s72 s73 s74 s75 s76 s77 s78 s79 s80 s81 s82 s83 s84 s85 s86 s87 s88 s89 s90 s91 s92 s93 s94 s95 s96 s97 s98 s99 s100 s101 s102 s103 s104 s105 s106 s107 s108 s109 s110 s111 s112 s113 s114 s115 s116 s117 s118 s119 s120 s121 s122 s123 s124 s125 s126 s127 s128 s129 s130 s131 s132 s133 s134 s135 s136 s137 s138 s139 s140 s141 s142 s143 s144 s145 s146 s147 s148 s149 s150 s151 s152 s153 s154 s155 s156 s157 s158 s159 s160 s161 s162 s163 s164 s165 s166 s167 s168 s169 s170 s171 s172 s173 s174 s175 s176 s177 s178 s179 s180 s181 s182 s183 s184 s185 s186 s187 s188 s189 s190 s191 s192 s193 s194 s195 s196 s197 s198 s199 s200 s201 s202 s203 s204 s205 s206 s207 s208 s209 s210 s211 s212 s213 s214 s215 s216 s217 s218 s219 s220 s221 s222 s223 s224 s225 s226 s227 s228 s229 s230 s231 s232 s233 s234 s235 s236 s237 s238 s239 s240 s241 s242 s243 s244 s245 s246 s247 s248 s249 s250 s251 s252 s253 s254 s255 s256 s257 s258 s259 s260 s261 s262 s263 s264 s265 s266 s267 s268 s269 s270 s271 s272 s273 s274 s275 s276 s277 s278 s279 s280 s281 s282 s283 s284 s285 s286 s287 s288 s289 s290 s291 s292 s293 s294 s295 s296 s297 s298 s299 s300 s301 s302 s303 s304 s305 s306 s307 s308 s309 s310 s311 s312 s313 s314 s315 s316 s317 s318 s319 s320 s321 s322 s323 s324 s325 s326 s327 s328 s329 s330 s331 s332 s333 s334 s335 s336 s337 s338 s339 s340 s341 s342 s343 s344 s345 s346 s347 s348 s349 s350 s351 s352 s353 s354 s355 s356 s357 s358 s359 s360 s361 s362 s363 s364 s365 s366 s367 s368 s369 s370 s371 s372 s373 s374 s375 s376 s377 s378 s379 s380 s381 s382 s383 s384 s385 s386 s387 s388 s389 s390 s391 s392 s393 s394 s395 s396 s397 s398 s399 s400 s401 s402 s403 s404 s405 s406 s407 : Value) : Code.wp Ybaf.prog (tailAt 19) (bodyPost Ybaf.prog Ybaf.f3 fun e w' => e = .returned (.bool true) ∧ w.grownBy w' none) ⟨[s0, s1, s2, .slice a3 n3 c3, .int .u16 su, .int .u8 ss, .int .u16 al0, .int .u8 asl, s8, s9, s10, s11, s12, s13, s14, s15, s16, .pointer (some ⟨b17, 0, none⟩), .int .i64 h, vi0, s20, s21, s22, s23, s24, s25, s26, s27, s28, s29, s30, s31, s32, s33, s34, s35, s36, s37, s38, s39, s40, s41, s42, s43, s44, s45, s46, s47, s48, s49, s50, s51, s52, s53, s54, s55, s56, s57, s58, s59, s60, s61, s62, s63, s64, s65, s66, s67, s68, s69, s70, s71, s72, s73, s74, s75, s76, s77, s78, s79, s80, s81, s82, s83, s84, s85, s86, s87, s88, s89, s90, s91, s92, s93, s94, s95, s96, s97, s98, s99, s100, s101, s102, s103, s104, s105, s106, s107, s108, s109, s110, s111, s112, s113, s114, s115, s116, s117, s118, s119, s120, s121, s122, s123, s124, s125, s126, s127, s128, s129, s130, s131, s132, s133, s134, s135, s136, s137, s138, s139, s140, s141, s142, s143, s144, s145, s146, s147, s148, s149, s150, s151, s152, s153, s154, s155, s156, s157, s158, s159, s160, s161, s162, s163, s164, s165, s166, s167, s168, s169, s170, s171, s172, s173, s174, s175, s176, s177, s178, s179, s180, s181, s182, s183, s184, s185, s186, s187, s188, s189, s190, s191, s192, s193, s194, s195, s196, s197, s198, s199, s200, s201, s202, s203, s204, s205, s206, s207, s208, s209, s210, s211, s212, s213, s214, s215, s216, s217, s218, s219, s220, s221, s222, s223, s224, s225, s226, s227, s228, s229, s230, s231, s232, s233, s234, s235, s236, s237, s238, s239, s240, s241, s242, s243, s244, s245, s246, s247, s248, s249, s250, s251, s252, s253, s254, s255, s256, s257, s258, s259, s260, s261, s262, s263, s264, s265, s266, s267, s268, s269, s270, s271, s272, s273, s274, s275, s276, s277, s278, s279, s280, s281, s282, s283, s284, s285, s286, s287, s288, s289, s290, s291, s292, s293, s294, s295, s296, s297, s298, s299, s300, s301, s302, s303, s304, s305, s306, s307, s308, s309, s310, s311, s312, s313, s314, s315, s316, s317, s318, s319, s320, s321, s322, s323, s324, s325, s326, s327, s328, s329, s330, s331, s332, s333, s334, s335, s336, s337, s338, s339, s340, s341, s342, s343, s344, s345, s346, s347, s348, s349, s350, s351, s352, s353, s354, s355, s356, s357, s358, s359, s360, s361, s362, s363, s364, s365, s366, s367, s368, s369, s370, s371, s372, s373, s374, s375, s376, s377, s378, s379, s380, s381, s382, s383, s384, s385, s386, s387, s388, s389, s390, s391, s392, s393, s394, s395, s396, s397, s398, s399, s400, s401, s402, s403, s404, s405, s406, s407].toArray, []⟩ wz := by
  conv => arg 2; whnf
  try dsimp only
  obtain ⟨ti, hti, _, hts, _⟩ := info_parts info25
  obtain ⟨ai, ci, evi, fi⟩ := own_form oi
  subst evi
  have hli := gd.li
  go_wp2_with fail
  go_loopg [25, 125] ids.length (fun g v25 v125 wr => ∃ (i : Nat), i + g = ids.length ∧ v125 = .int .i64 i ∧ wr.ownsRow 0 32 1 v25 i ((ids.take i).flatMap (tpc s)) ∧ Aside (∀ q, v25.ownBlock = some q → wz.heap.size ≤ q) ∧ wz.grownBy wr none)
  case atStart => exact ⟨0, by omega, rfl, own_nil _ _ _, (fun q hq => by simp [Value.ownBlock] at hq), World.grownBy.refl _ none⟩
  case round =>
    obtain ⟨i, hi, rfl, ow, F, gr⟩ := hrel
    by_cases hin : i < ids.length
    · obtain ⟨y, hy⟩ : ∃ y, ids[i]? = some y := ⟨_, List.getElem?_eq_getElem hin⟩
      have hsy := (gd.mi y (List.mem_of_getElem? hy)).1
      obtain ⟨gi, rfl⟩ := fi (by omega)
      have hin' : (i : Int) < (ids.length : Int) := by omega
      have ry : wr.rangeAt gi (i * 20) (ic y) := own_ti (own_kept oi gr (by simp)) hy
      go_wp2_with (first
        | (refine wpList_is (.indexAddr 27 (.tmp 123) (.tmp 125)) rfl ?_; refine wpList_exec rfl _ (exec_index (.tmp 123) (.tmp 125) rfl Ybaf.underlying27 hti hts gi ids.length ci i hin rfl rfl) ?_)
        | (refine wpList_is (.load 25 (.tmp 127)) rfl ?_; refine wpList_load_mid rfl 25 (.tmp 127) rfl gi (i * 20) rfl (ic y) _ ry Ybaf.underlying25 rfl (size25 _) ?_)
        | (refine wpList_is (.alloc 25) rfl ?_; refine wpList_alloc25 rfl rfl ?_)
        | (refine wpList_is (.store 25 (.tmp 27) (.tmp 128)) rfl ?_; refine wpList_store_blk rfl 25 (.tmp 27) (.tmp 128) rfl wr.heap.size (ic y) rfl rfl _ _ (heap_alloc_new wr _) rfl (size25 _) (ic_one _) ?_; intro u1 y1 q1; have k1 : wr.grownBy u1 none := grown_new q1; have z17 := keep_blk (grown_trans gr k1) x17 (by simp); clear q1)
        | (refine wpList_is (.load 25 (.tmp 27)) rfl ?_; refine wpList_load_blk rfl 25 (.tmp 27) rfl wr.heap.size rfl (ic y) 25 y1 _ Ybaf.underlying25 rfl (size25 _) ?_)
        | (refine wpList_is (.load 25 (.tmp 17)) rfl ?_; refine wpList_load_blk rfl 25 (.tmp 17) rfl b17 rfl (ic s) 25 z17 _ Ybaf.underlying25 rfl (size25 _) ?_))
      refine (dist_any (byt_cf hsy) (byt_cf gd.sm) _).mono ?_
      rintro e u3 ⟨rfl, q3⟩
      have ow3 := own_kept ow (grown_trans k1 q3) (by simp)
      have g3 := grown_trans gr (grown_trans k1 q3)
      clear ow gr k1 q3 y1 z17 ry
      go_upto_region 24 with (first
        | (refine wpList_is (.alloc 25) rfl ?_; refine wpList_alloc25 rfl rfl ?_)
        | (refine wpList_is (.store 25 (.tmp 28) (.tmp 131)) rfl ?_; refine wpList_store_blk rfl 25 (.tmp 28) (.tmp 131) rfl u3.heap.size (ab (dg (cf y) (cf s))) rfl rfl _ _ (heap_alloc_new u3 _) rfl (size25 _) (ab_one _) ?_; intro u4 y4 q4; have k4 : u3.grownBy u4 none := grown_new q4; clear q4))
      refine wp_region_held (S := (fun w' : World => w'.heap[u3.heap.size]? = some (.cells (ab (dg (cf y) (cf s))).toArray 25 (0, 0)))) (by kernel_rfl) ?_
      have hS : (fun w' : World => w'.heap[u3.heap.size]? = some (.cells (ab (dg (cf y) (cf s))).toArray 25 (0, 0))) { u4 with drawn := u4.drawn + 1 } := y4
      have ow4 := own_kept ow3 (grown_trans k4 (grown_drew u4)) (by simp)
      have g4 := grown_trans g3 (grown_trans k4 (grown_drew u4))
      have hs4 : u3.heap.size ≤ ({ u4 with drawn := u4.drawn + 1 } : World).heap.size := k4.size
      clear y4 k4 ow3
      generalize ({ u4 with drawn := u4.drawn + 1 } : World) = u5 at *
      have hgs := g3.size
      clear g3
      refine any_take 0 (some 132) u25 rfl rfl (by kernel_rfl) (by kernel_rfl) (by kernel_rfl) (fun _ _ _ h => h) (.inl ⟨by kernel_rfl, fun _ _ => by kernel_rfl⟩) (by assumption) ?_
      simp only [Act.put, List.setIfInBounds_toArray, List.set_cons_zero, List.set_cons_succ]
      refine any_take 1 (some 133) (.agg #[]) rfl rfl (by kernel_rfl) (by kernel_rfl) (by kernel_rfl) (fun _ _ _ h => h) (.inl ⟨by kernel_rfl, fun _ _ => by kernel_rfl⟩) (by assumption) ?_
      simp only [Act.put, List.setIfInBounds_toArray, List.set_cons_zero, List.set_cons_succ]
      refine any_take 2 (some 134) (.slice (some ⟨u3.heap.size, 0, none⟩) 8 20) rfl rfl (by kernel_rfl) (by kernel_rfl) (by kernel_rfl) (fun _ _ _ h => h) (.inl ⟨by kernel_rfl, fun _ _ => by kernel_rfl⟩) (by assumption) ?_
      simp only [Act.put, List.setIfInBounds_toArray, List.set_cons_zero, List.set_cons_succ]
      refine any_call 3 (some 135) 8 #[.agg #[], .slice (some ⟨u3.heap.size, 0, none⟩) 8 20] rfl rfl (by kernel_rfl) (by kernel_rfl) (by kernel_rfl) ?_
      refine (Ybaf.beU64 ⟨u3.heap.size, 0, none⟩ 8 20 ((List.range 8).map (fun j => dg (cf y) (cf s) (0 + j))) _ (by omega) (by simp) (cells_of hS 0 8 (by omega)) (wf_of (byt_dg (byt_cf gd.sm) (byt_cf hsy)) 0 8 (by omega))).mono ?_
      rintro e u6 ⟨rfl, q6⟩
      have k6 := below_grown q6
      have et : Lib.beZ (((List.range 8).map (fun j => dg (cf y) (cf s) (0 + j))).take 8) = topN (D s y) := by rw [be_top (byt_dg (byt_cf gd.sm) (byt_cf hsy)), ds_dg (byt_cf gd.sm) (byt_cf hsy)]; rfl
      rw [et]
      have hS6 : (fun w' : World => w'.heap[u3.heap.size]? = some (.cells (ab (dg (cf y) (cf s))).toArray 25 (0, 0))) u6 := keep_blk k6 hS (by simp)
      refine ⟨_, rfl, hS6, ?_⟩
      simp only [Act.put, List.setIfInBounds_toArray, List.set_cons_zero, List.set_cons_succ]
      have ga : u6.grownBy (u6.alloc (.cells [Value.int .u64 (topN (D s y))].toArray 32)) none := World.grownBy_alloc _ _ none
      have ow7 := own_kept ow4 (grown_trans k6 ga) (by simp)
      have ob := own_bs30 (topN (D s y)) u6
      have g7 := grown_trans g4 (grown_trans k6 ga)
      have hS7 : (fun w' : World => w'.heap[u3.heap.size]? = some (.cells (ab (dg (cf y) (cf s))).toArray 25 (0, 0))) (u6.alloc (.cells [Value.int .u64 (topN (D s y))].toArray 32)) := keep_blk ga hS6 (by simp)
      have hs7 : u6.heap.size ≤ (u6.alloc (.cells [Value.int .u64 (topN (D s y))].toArray 32)).heap.size := by simp
      have hs6 := k6.size
      refine any_one 4 (some 136) (.slice (some ⟨u6.heap.size, 0, none⟩) 1 1) _ rfl rfl (by kernel_rfl) (by kernel_rfl) (exec_bs30 (.tmp 135) rfl (topN (D s y)) (by kernel_rfl)) hS7 ?_
      simp only [Act.put, List.setIfInBounds_toArray, List.set_cons_zero, List.set_cons_succ]
      clear hS hS6 et q6 k6 ga g4 ow4
      generalize (u6.alloc (.cells [Value.int .u64 (topN (D s y))].toArray 32)) = u7 at *
      refine any_appR 5 (some 137) rfl rfl (by kernel_rfl) (by kernel_rfl) Ybaf.underlying30 info32 rfl (by omega) (by omega) (.tmp 132) (.tmp 136) rfl u25 i _ (by kernel_rfl) ow7 _ 1 [.int .u64 (topN (D s y))] (by kernel_rfl) ob (tp_one (s := s) y) (by omega) ?_
      intro v' u8 o8 q8 hat
      have hf : ∀ q, u25.ownBlock = some q → some u3.heap.size ≠ some q := fun q hq e => by
        rw [Option.some.inj e] at hS7
        exact own_ne ow7 hS7 (by decide) hq.symm
      have hS8 : (fun w' : World => w'.heap[u3.heap.size]? = some (.cells (ab (dg (cf y) (cf s))).toArray 25 (0, 0))) u8 := keep_blk q8 hS7 (fun e => hf _ e.symm rfl)
      refine ⟨hS8, ?_⟩
      simp only [Act.put, List.setIfInBounds_toArray, List.set_cons_zero, List.set_cons_succ]
      refine any_take 6 (some 25) v' rfl rfl (by kernel_rfl) (by kernel_rfl) (by kernel_rfl) (fun _ _ _ h => h) (.inl ⟨by kernel_rfl, fun _ _ => by kernel_rfl⟩) (by assumption) ?_
      simp only [Act.put, List.setIfInBounds_toArray, List.set_cons_zero, List.set_cons_succ]
      refine wpAnyH_done (by kernel_rfl) ?_ _
      have g8 := grow_own g7 q8 F.out
      clear hS7 hS8 hf
      go_wp2_with fail
      go_roundg (ids.length - (i + 1))
      case measure => omega
      case rel =>
        refine ⟨i + 1, by omega, by go_num, ?_, fun q hq => ?_, g8⟩
        · rw [List.take_add_one, hy, List.flatMap_append]
          simpa using o8
        · rcases hat with h | h
          · exact F.out q (by rw [← h]; exact hq)
          · rw [h] at hq
            have := Option.some.inj hq
            omega
    · have ei : i = ids.length := by omega
      subst ei
      rw [List.take_length] at ow
      have x17' := keep_blk gr x17 (by simp)
      have oi' := own_kept oi gr (by simp)
      clear x17 oi F
      go_upto_if 126 with fail
      go_step
      go_step
      go_step
      refine by_K (c := ?cc) (Q := ?QQ) ?hr ?ht
      case hr => assumption
      exact tail26 w wr s h b17 _ u25 ids refs a3 n3 c3 l3 r3 gd hh hh4 (grown_trans g gr) x17' oi' ow su ss al0 asl hsu hss hal0 has _ _ _ _ _ _ _ _ _ _ _ _ _ _ _ _ _ _ _ _ _ _ _ _ _ _ _ _ _ _ _ _ _ _ _ _ _ _ _ _ _ _ _ _ _ _ _ _ _ _ _ _ _ _ _ _ _ _ _ _ _ _ _ _ _ _ _ _ _ _ _ _ _ _ _ _ _ _ _ _ _ _ _ _ _ _ _ _ _ _ _ _ _ _ _ _ _ _ _ _ _ _ _ _ _ _ _ _ _ _ _ _ _ _ _ _ _ _ _ _ _ _ _ _ _ _ _ _ _ _ _ _ _ _ _ _ _ _ _ _ _ _ _ _ _ _ _ _ _ _ _ _ _ _ _ _ _ _ _ _ _ _ _ _ _ _ _ _ _ _ _ _ _ _ _ _ _ _ _ _ _ _ _ _ _ _ _ _ _ _ _ _ _ _ _ _ _ _ _ _ _ _ _ _ _ _ _ _ _ _ _ _ _ _ _ _ _ _ _ _ _ _ _ _ _ _ _ _ _ _ _ _ _ _ _ _ _ _ _ _ _ _ _ _ _ _ _ _ _ _ _ _ _ _ _ _ _ _ _ _ _ _ _ _ _ _ _ _ _ _ _ _ _ _ _ _ _ _ _ _ _ _ _ _ _ _ _ _ _ _ _ _ _ _ _ _ _ _ _ _ _ _ _ _ _ _ _ _ _ _ _ _ _ _ _ _ _ _ _ _ _ _ _ _ _ _ _ _ _ _ _ _ _ _ _ _ _ _ _ _ _ _ _ _ _ _ _ _ _ _ _ _ _ _ _ _ _ _ _ _ _ _ _ _ _ _ _ _ _ _ _ _ _ _ _ _ _ _ _ _ _ _ _ _ _ _ _ _ _ _ _ _ _ _ _ _ _ _ _
end Go.Proofs.YbulkdspqFmt
