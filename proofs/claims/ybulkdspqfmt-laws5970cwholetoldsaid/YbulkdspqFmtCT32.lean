/-
  LawS5970CWhole: from region 32 on: the trustset is laid.
-/
import Derived.Test.YbulkdspqFmtCT37
namespace Go.Proofs.YbulkdspqFmt
open Go.RowKit
set_option linter.unusedSimpArgs false
set_option linter.unusedVariables false

theorem own_ne {w : World} {b : Nat} {e t : TypeId} {sz : Nat} {v : Value} {n : Nat} {xs : List Value} {p : Nat} {cs : Array Value} (h : w.ownsRow b e sz v n xs) (hp : w.heap[p]? = some (.cells cs t (0, 0))) (hne : e ≠ t) : some p ≠ v.ownBlock := by
  intro e1
  rcases h.2 with ⟨rfl, _⟩ | ⟨g, cap, cur, rfl, _, hg, _⟩
  · simp [Value.ownBlock] at e1
  · simp only [Value.ownBlock, Option.some.injEq] at e1
    subst e1
    rw [hg] at hp
    simp only [Option.some.injEq, Obj.cells.injEq] at hp
    exact hne hp.2.1
theorem own_one {w : World} {b : Nat} {e : TypeId} {sz : Nat} {v : Value} {n : Nat} {xs : List Value} (h : w.ownsRow b e sz v n xs) : v.oneCell' = true := by
  rcases h.2 with ⟨rfl, _⟩ | ⟨g, cap, cur, rfl, _⟩ <;> rfl
theorem size27 : (Ybaf.prog.info? 27).map (·.size) = some 1 := by kernel_rfl
theorem size30 : (Ybaf.prog.info? 30).map (·.size) = some 1 := by kernel_rfl
theorem tp_one {s : Int} (x : Int) : ∀ v ∈ tpc s x, v.oneCell' = true := by intro v hv; simp at hv; subst hv; rfl

attribute [local irreducible] wpList in
set_option maxRecDepth 1000000 in
set_option maxHeartbeats 16000000 in
theorem tail32 (w wz : World) (s h : Int) (b17 : Nat) (vi0 vt0 vr0 : Value) (ids refs : List Int) (gd : Good s ids refs) (hh : 1 ≤ h) (hh4 : h ≤ 4) (g : w.grownBy wz none) (x17 : wz.heap[b17]? = some (.cells (ic s).toArray 25 (0, 0))) (oi : wz.ownsRow 0 25 20 vi0 ids.length (ids.flatMap ic)) (ot : wz.ownsRow 0 32 1 vt0 ids.length (ids.flatMap (tpc s))) (orr : wz.ownsRow 0 25 20 vr0 refs.length (refs.flatMap ic)) (su ss al0 asl : Int) (hsu : Sm su) (hss : 0 ≤ ss ∧ ss < 256) (hal0 : Sm al0) (has : 0 ≤ asl ∧ asl < 256) (s0 s1 s2 s3 s8 s9 s10 s11 s12 s13 s14 s15 s16 s20 s21 s22 s23 s24 s26 s27 s28 s30 s31 s32 s33 s34 s35 s36 s37 s38 s39 s40 s41 s42 s43 s44 s45 s46 s47 s48 s49 s50 s51 s52 s53 s54 s55 s56 s57 s58 s59 s60 s61 s62 s63 s64 s65 s66 s67 s68 s69 s70 s71 s72 s73 s74 s75 s76 s77 s78 s79 s80 s81 s82 s83 s84 s85 s86 s87 s88 s89 s90 s91 s92 s93 s94 s95 s96 s97 s98 s99 s100 s101 s102 s103 s104 s105 s106 s107 s108 s109 s110 s111 s112 s113 s114 s115 s116 s117 s118 s119 s120 s121 s122 s123 s124 s125 s126 s127 s128 s129 s130 s131 s132 s133 s134 s135 s136 s137 s138 s139 s140 s141 s142 s143 s144 s145 s146 s147 s148 s149 s150 s151 s152 s153 s154 s155 s156 s157 s158 s159 s160 s161 s162 s163 s164 s165 s166 s167 s168 s169 s170 s171 s172 s173 s174 s175 s176 s177 s178 s179 s180 s181 s182 s183 s184 s185 s186 s187 s188 s189 s190 s191 s192 s193 s194 s195 s196 s197 s198 s199 s200 s201 s202 s203 s204 s205 s206 s207 s208 s209 s210 s211 s212 s213 s214 s215 s216 s217 s218 s219 s220 s221 s222 s223 s224 s225 s226 s227 s228 s229 s230 s231 s232 s233 s234 s235 s236 s237 s238 s239 s240 s241 s242 s243 s244 s245 s246 s247 s248 s249 s250 s251 s252 s253 s254 s255 s256 s257 s258 s259 s260 s261 s262 s263 s264 s265 s266 s267 s268 s269 s270 s271 s272 s273 s274 s275 s276 s277 s278 s279 s280 s281 s282 s283 s284 s285 s286 s287 s288 s289 s290 s291 s292 s293 s294 s295 s296 s297 s298 s299 s300 s301 s302 s303 s304 s305 s306 s307 s308 s309 s310 s311 s312 s313 s314 s315 s316 s317 s318 s319 s320 s321 s322 s323 s324 s325 s326 s327 s328 s329 s330 s331 s332 s333 s334 s335 s336 s337 s338 s339 s340 s341 s342 s343 s344 s345 s346 s347 s348 s349 s350 s351 s352 s353 s354 s355 s356 s357 s358 s359 s360 s361 s362 s363 s364 s365 s366 s367 s368 s369 s370 s371 s372 s373 s374 s375 s376 s377 s378 s379 s380 s381 s382 s383 s384 s385 s386 s387 s388 s389 s390 s391 s392 s393 s394 s395 s396 s397 s398 s399 s400 s401 s402 s403 s404 s405 s406 s407 : Value) : Code.wp Ybaf.prog (tailAt 32) (bodyPost Ybaf.prog Ybaf.f3 fun e w' => e = .returned (.bool true) ∧ w.grownBy w' none) ⟨[s0, s1, s2, s3, .int .u16 su, .int .u8 ss, .int .u16 al0, .int .u8 asl, s8, s9, s10, s11, s12, s13, s14, s15, s16, .pointer (some ⟨b17, 0, none⟩), .int .i64 h, vi0, s20, s21, s22, s23, s24, vt0, s26, s27, s28, vr0, s30, s31, s32, s33, s34, s35, s36, s37, s38, s39, s40, s41, s42, s43, s44, s45, s46, s47, s48, s49, s50, s51, s52, s53, s54, s55, s56, s57, s58, s59, s60, s61, s62, s63, s64, s65, s66, s67, s68, s69, s70, s71, s72, s73, s74, s75, s76, s77, s78, s79, s80, s81, s82, s83, s84, s85, s86, s87, s88, s89, s90, s91, s92, s93, s94, s95, s96, s97, s98, s99, s100, s101, s102, s103, s104, s105, s106, s107, s108, s109, s110, s111, s112, s113, s114, s115, s116, s117, s118, s119, s120, s121, s122, s123, s124, s125, s126, s127, s128, s129, s130, s131, s132, s133, s134, s135, s136, s137, s138, s139, s140, s141, s142, s143, s144, s145, s146, s147, s148, s149, s150, s151, s152, s153, s154, s155, s156, s157, s158, s159, s160, s161, s162, s163, s164, s165, s166, s167, s168, s169, s170, s171, s172, s173, s174, s175, s176, s177, s178, s179, s180, s181, s182, s183, s184, s185, s186, s187, s188, s189, s190, s191, s192, s193, s194, s195, s196, s197, s198, s199, s200, s201, s202, s203, s204, s205, s206, s207, s208, s209, s210, s211, s212, s213, s214, s215, s216, s217, s218, s219, s220, s221, s222, s223, s224, s225, s226, s227, s228, s229, s230, s231, s232, s233, s234, s235, s236, s237, s238, s239, s240, s241, s242, s243, s244, s245, s246, s247, s248, s249, s250, s251, s252, s253, s254, s255, s256, s257, s258, s259, s260, s261, s262, s263, s264, s265, s266, s267, s268, s269, s270, s271, s272, s273, s274, s275, s276, s277, s278, s279, s280, s281, s282, s283, s284, s285, s286, s287, s288, s289, s290, s291, s292, s293, s294, s295, s296, s297, s298, s299, s300, s301, s302, s303, s304, s305, s306, s307, s308, s309, s310, s311, s312, s313, s314, s315, s316, s317, s318, s319, s320, s321, s322, s323, s324, s325, s326, s327, s328, s329, s330, s331, s332, s333, s334, s335, s336, s337, s338, s339, s340, s341, s342, s343, s344, s345, s346, s347, s348, s349, s350, s351, s352, s353, s354, s355, s356, s357, s358, s359, s360, s361, s362, s363, s364, s365, s366, s367, s368, s369, s370, s371, s372, s373, s374, s375, s376, s377, s378, s379, s380, s381, s382, s383, s384, s385, s386, s387, s388, s389, s390, s391, s392, s393, s394, s395, s396, s397, s398, s399, s400, s401, s402, s403, s404, s405, s406, s407].toArray, []⟩ wz := by
  conv => arg 2; whnf
  try dsimp only
  obtain ⟨ti, hti, _, hts, _⟩ := info_parts info25
  have hli := gd.li
  have hlr := gd.lr
  have hm1 : (-9223372036854775808 : Int) ≤ 2 * h := by omega
  have hm2 : (2 * h : Int) < 9223372036854775808 := by omega
  go_wp2_with (first
    | (refine wpList_is (.load 25 (.tmp 17)) rfl ?_; refine wpList_load_blk rfl 25 (.tmp 17) rfl b17 rfl (ic s) 25 x17 _ Ybaf.underlying25 rfl (size25 _) ?_)
    | (refine wpList_is (.binOp .mul 3 (.const (.int .i64 2)) (.tmp 152) 3) rfl ?_; refine wpList_exec rfl _ (exec_mul3 (.const (.int .i64 2)) (.tmp 152) rfl 2 h hm1 hm2 rfl rfl) ?_))
  refine (new9 gd.sm hh hh4 _).mono ?_
  rintro e u0 ⟨p, vi1, vt1, rfl, hp, bp0, oi1, ot1, G0⟩
  have fi1 : ∀ q, vi1.ownBlock = some q → wz.heap.size ≤ q := fun q hq => (own_base oi1 hq).1
  have ft1 : ∀ q, vt1.ownBlock = some q → wz.heap.size ≤ q := fun q hq => (own_base ot1 hq).1
  have oi2 := own_weak oi1
  have ot2 := own_weak ot1
  clear oi1 ot1
  go_upto_region 34 with (first
    | (refine wpList_is (.load 27 (.tmp 158)) rfl ?_; refine wpList_load_cell rfl 27 (.tmp 158) rfl p 24 rfl _ _ bp0 _ Ybaf.underlying27 rfl vi1 rfl ?_)
    | (refine wpList_is (.call { callee := .builtin .append, args := #[.tmp 159, .tmp 160], argTypes := #[27, 27] }) rfl ?_; refine wpList_appR rfl Ybaf.underlying27 info25 rfl (by omega) (by omega) (.tmp 159) (.tmp 160) rfl vi1 0 [] rfl oi2 vi0 ids.length (ids.flatMap ic) rfl (own_kept oi G0 (by simp)) (flat_one ic_one _) (by omega) ?_; intro v2 w1 o2 q1 hat1)
    | (refine wpList_is (.store 27 (.tmp 163) (.tmp 161)) rfl ?_; refine wpList_store_cell rfl 27 (.tmp 163) (.tmp 161) rfl p 24 v2 rfl rfl _ _ (keep_blk q1 bp0 (own_ne oi2 bp0 (by decide))) size27 (by rw [tsc_len]; decide) (own_one o2) (tsc s h v2 vt1 (.slice none 0 0)) rfl ?_; intro w2 bp1 q2))
  have G1 : wz.grownBy w1 none := grow_own G0 q1 fi1
  have ot3 := own_kept ot2 q1 (fun q hq e => own_apart oi2 ot2 (by decide) e hq)
  have bpx := keep_blk q1 bp0 (own_ne oi2 bp0 (by decide))
  have G2 : wz.grownBy w2 none := grow_own G1 q2 (fun y hy => by simp at hy; omega)
  have ot4 := own_kept ot3 q2 (fun q hq e => by rw [Option.some.inj e] at bpx; exact own_ne ot3 bpx (by decide) hq.symm)
  have o3 := own_kept o2 q2 (fun q hq e => by rw [Option.some.inj e] at bpx; exact own_ne o2 bpx (by decide) hq.symm)
  clear bpx ot3 o2 ot2 oi2 bp0 G0 G1 q1 q2 hat1 fi1
  go_upto_region 35 with (first
    | (refine wpList_is (.load 30 (.tmp 167)) rfl ?_; refine wpList_load_cell rfl 30 (.tmp 167) rfl p 25 rfl _ _ bp1 _ Ybaf.underlying30 rfl vt1 rfl ?_)
    | (refine wpList_is (.call { callee := .builtin .append, args := #[.tmp 168, .tmp 169], argTypes := #[30, 30] }) rfl ?_; refine wpList_appR rfl Ybaf.underlying30 info32 rfl (by omega) (by omega) (.tmp 168) (.tmp 169) rfl vt1 0 [] rfl ot4 vt0 ids.length (ids.flatMap (tpc s)) rfl (own_kept ot G2 (by simp)) (flat_one tp_one _) (by omega) ?_; intro v4 w3 o4 q3 hat3)
    | (refine wpList_is (.store 30 (.tmp 172) (.tmp 170)) rfl ?_; refine wpList_store_cell rfl 30 (.tmp 172) (.tmp 170) rfl p 25 v4 rfl rfl _ _ (keep_blk q3 bp1 (own_ne ot4 bp1 (by decide))) size30 (by rw [tsc_len]; decide) (own_one o4) (tsc s h v2 v4 (.slice none 0 0)) rfl ?_; intro w4 bp2 q4))
  have G3 : wz.grownBy w3 none := grow_own G2 q3 ft1
  have o5 := own_kept o3 q3 (fun q hq e => own_apart ot4 o3 (by decide) e hq)
  have bpx := keep_blk q3 bp1 (own_ne ot4 bp1 (by decide))
  have G4 : wz.grownBy w4 none := grow_own G3 q4 (fun y hy => by simp at hy; omega)
  have o6 := own_kept o5 q4 (fun q hq e => by rw [Option.some.inj e] at bpx; exact own_ne o5 bpx (by decide) hq.symm)
  have o7 := own_kept o4 q4 (fun q hq e => by rw [Option.some.inj e] at bpx; exact own_ne o4 bpx (by decide) hq.symm)
  clear bpx o5 o4 o3 ot4 bp1 G2 G3 q3 q4 hat3 ft1
  go_upto_region 36 with (first
    | (refine wpList_is (.call { callee := .builtin .append, args := #[.const (.slice none 0 0), .tmp 174], argTypes := #[27, 27] }) rfl ?_; refine wpList_appR rfl Ybaf.underlying27 info25 rfl (by omega) (by omega) (.const (.slice none 0 0)) (.tmp 174) rfl (.slice none 0 0) 0 [] rfl (own_nil _ _ _) vr0 refs.length (refs.flatMap ic) rfl (own_kept orr G4 (by simp)) (flat_one ic_one _) (by omega) ?_; intro v6 w5 o8 q5 hat5)
    | (refine wpList_is (.store 27 (.tmp 177) (.tmp 175)) rfl ?_; refine wpList_store_cell rfl 27 (.tmp 177) (.tmp 175) rfl p 26 v6 rfl rfl _ _ (keep_blk q5 bp2 (by simp [Value.ownBlock])) size27 (by rw [tsc_len]; decide) (own_one o8) (tsc s h v2 v4 v6) rfl ?_; intro w6 bp3 q6))
  have q5' : w4.grownBy w5 none := q5
  have G5 : wz.grownBy w5 none := grown_trans G4 q5'
  have bpx := keep_blk q5' bp2 (by simp)
  have o9 := own_kept o6 q5' (by simp)
  have o10 := own_kept o7 q5' (by simp)
  have G6 : wz.grownBy w6 none := grow_own G5 q6 (fun y hy => by simp at hy; omega)
  have o11 := own_kept o9 q6 (fun q hq e => by rw [Option.some.inj e] at bpx; exact own_ne o9 bpx (by decide) hq.symm)
  have o12 := own_kept o10 q6 (fun q hq e => by rw [Option.some.inj e] at bpx; exact own_ne o10 bpx (by decide) hq.symm)
  have o13 := own_kept o8 q6 (fun q hq e => by rw [Option.some.inj e] at bpx; exact own_ne o8 bpx (by decide) hq.symm)
  clear bpx o6 o7 o8 o9 o10 bp2 G4 G5 q5 q5' q6 hat5
  simp only [Nat.zero_add, List.nil_append] at o11 o12 o13
  go_upto_region 36 with fail
  rename_i K hK
  have HK : Hid _ := hK
  clear hK
  go_wp2_with (first
    | (refine wpList_is (.load 41 (.tmp 180)) rfl ?_; refine wpList_load_mid rfl 41 (.tmp 180) rfl p 20 rfl (uN (nm (cf s))) _ (tsc_from bp3) Ybaf.underlying41 rfl (size41n _) ?_)
    | (refine wpList_is (.alloc 41) rfl ?_; refine wpList_alloc41 rfl rfl ?_)
    | (refine wpList_is (.store 41 (.tmp 33) (.tmp 181)) rfl ?_; refine wpList_store_blk rfl 41 (.tmp 33) (.tmp 181) rfl w6.heap.size (uN (nm (cf s))) rfl rfl _ _ (heap_alloc_new w6 _) rfl (size41n _) (un_one _) ?_; intro w7 x33 q7; have k7 : w6.grownBy w7 none := grown_new q7; clear q7))
  have G7 : wz.grownBy w7 none := grown_trans G6 k7
  have m : MS w w7 s h b17 p w6.heap.size vi0 vt0 vr0 v2 v4 v6 ids refs := ⟨grown_trans g G7, keep_blk G7 x17 (by simp), ⟨keep_blk k7 bp3 (by simp), own_kept o11 k7 (by simp), own_kept o12 k7 (by simp), own_kept o13 k7 (by simp)⟩, x33, own_kept oi G7 (by simp), own_kept ot G7 (by simp), own_kept orr G7 (by simp)⟩
  unfold Hid at HK
  refine HK _ _ ?_
  exact tail37 w w7 s h b17 p w6.heap.size vi0 vt0 vr0 v2 v4 v6 ids refs gd hh hh4 m su ss al0 asl hsu hss hal0 has _ _ _ _ _ _ _ _ _ _ _ _ _ _ _ _ _ _ _ _ _ _ _ _ _ _ _ _ _ _ _ _ _ _ _ _ _ _ _ _ _ _ _ _ _ _ _ _ _ _ _ _ _ _ _ _ _ _ _ _ _ _ _ _ _ _ _ _ _ _ _ _ _ _ _ _ _ _ _ _ _ _ _ _ _ _ _ _ _ _ _ _ _ _ _ _ _ _ _ _ _ _ _ _ _ _ _ _ _ _ _ _ _ _ _ _ _ _ _ _ _ _ _ _ _ _ _ _ _ _ _ _ _ _ _ _ _ _ _ _ _ _ _ _ _ _ _ _ _ _ _ _ _ _ _ _ _ _ _ _ _ _ _ _ _ _ _ _ _ _ _ _ _ _ _ _ _ _ _ _ _ _ _ _ _ _ _ _ _ _ _ _ _ _ _ _ _ _ _ _ _ _ _ _ _ _ _ _ _ _ _ _ _ _ _ _ _ _ _ _ _ _ _ _ _ _ _ _ _ _ _ _ _ _ _ _ _ _ _ _ _ _ _ _ _ _ _ _ _ _ _ _ _ _ _ _ _ _ _ _ _ _ _ _ _ _ _ _ _ _ _ _ _ _ _ _ _ _ _ _ _ _ _ _ _ _ _ _ _ _ _ _ _ _ _ _ _ _ _ _ _ _ _ _ _ _ _ _ _ _ _ _ _ _ _ _ _ _ _ _ _ _ _ _ _ _ _ _ _ _ _ _ _ _ _ _ _ _ _ _ _ _ _ _ _ _ _ _ _ _ _ _ _ _ _ _ _ _ _ _ _ _ _ _ _ _ _ _ _ _ _ _ _ _ _ _ _ _ _ _ _ _ _ _ _ _ _ _ _ _ _ _ _ _ _ _ _
end Go.Proofs.YbulkdspqFmt
