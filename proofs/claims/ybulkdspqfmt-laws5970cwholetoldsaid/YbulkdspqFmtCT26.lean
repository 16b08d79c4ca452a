/-
  LawS5970CWhole: from region 26 on: the refused.
-/
import Derived.Test.YbulkdspqFmtCT32
namespace Go.Proofs.YbulkdspqFmt
open Go.RowKit
set_option linter.unusedSimpArgs false
set_option linter.unusedVariables false

/-- Sixteen-bit numbers that came in. -/
def Rdu (w : World) (a : Option Addr) (xs : List Int) : Prop := ∀ i x, xs[i]? = some x → ∃ b o, a = some ⟨b, o, none⟩ ∧ b < w.heap.size ∧ w.cell? ⟨b, o + i, none⟩ = some (.int .u16 x)

attribute [local irreducible] wpList in
set_option maxRecDepth 1000000 in
set_option maxHeartbeats 16000000 in
theorem tail26 (w wz : World) (s h : Int) (b17 : Nat) (vi0 vt0 : Value) (ids refs : List Int) (a3 : Option Addr) (n3 c3 : Nat) (l3 : refs.length = n3) (r3 : Rdu w a3 refs) (gd : Good s ids refs) (hh : 1 ≤ h) (hh4 : h ≤ 4) (g : w.grownBy wz none) (x17 : wz.heap[b17]? = some (.cells (ic s).toArray 25 (0, 0))) (oi : wz.ownsRow 0 25 20 vi0 ids.length (ids.flatMap ic)) (ot : wz.ownsRow 0 32 1 vt0 ids.length (ids.flatMap (tpc s))) (su ss al0 asl : Int) (hsu : Sm su) (hss : 0 ≤ ss ∧ ss < 256) (hal0 : Sm al0) (has : 0 ≤ asl ∧ asl < 256) (s0 s1 s2 s8 s9 s10 s11 s12 s13 s14 s15 s16 s20 s21 s22 s23 s24 s26 s27 s28 s29 s30 s31 s32 s33 s34 s35 s36 s37 s38 s39 s40 s41 s42 s43 s44 s45 s46 s47 s48 s49 s50 s51 s52 s53 s54 s55 s56 s57 s58 s59 s60 s61 s62 s63 s64 s65 s66 s67 s68 s69 s70 s71 s72 s73 s74 s75 s76 s77 s78 s79 s80 s81 s82 s83 s84 s85 s86 s87 s88 s89 s90 s91 s92 s93 s94 s95 s96 s97 s98 s99 s100 s101 s102 s103 s104 s105 s106 s107 s108 s109 s110 s111 s112 s113 s114 s115 s116 s117 s118 s119 s120 s121 s122 s123 s124 s125 s126 s127 s128 s129 s130 s131 s132 s133 s134 s135 s136 s137 s138 s139 s140 s141 s142 s143 s144 s145 s146 s147 s148 s149 s150 s151 s152 s153 s154 s155 s156 s157 s158 s159 s160 s161 s162 s163 s164 s165 s166 s167 s168 s169 s170 s171 s172 s173 s174 s175 s176 s177 s178 s179 s180 s181 s182 s183 s184 s185 s186 s187 s188 s189 s190 s191 s192 s193 s194 s195 s196 s197 s198 s199 s200 s201 s202 s203 s204 s205 s206 s207 s208 s209 s210 s211 s212 s213 s214 s215 s216 s217 s218 s219 s220 s221 s222 s223 s224 s225 s226 s227 s228 s229 s230 s231 s232 s233 s234 s235 s236 s237 s238 s239 s240 s241 s242 s243 s244 s245 s246 s247 s248 s249 s250 s251 s252 s253 s254 s255 s256 s257 s258 s259 s260 s261 s262 s263 s264 s265 s266 s267 s268 s269 s270 s271 s272 s273 s274 s275 s276 s277 s278 s279 s280 s281 s282 s283 s284 s285 s286 s287 s288 s289 s290 s291 s292 s293 s294 s295 s296 s297 s298 s299 s300 s301 s302 s303 s304 s305 s306 s307 s308 s309 s310 s311 s312 s313 s314 s315 s316 s317 s318 s319 s320 s321 s322 s323 s324 s325 s326 s327 s328 s329 s330 s331 s332 s333 s334 s335 s336 s337 s338 s339 s340 s341 s342 s343 s344 s345 s346 s347 s348 s349 s350 s351 s352 s353 s354 s355 s356 s357 s358 s359 s360 s361 s362 s363 s364 s365 s366 s367 s368 s369 s370 s371 s372 s373 s374 s375 s376 s377 s378 s379 s380 s381 s382 s383 s384 s385 s386 s387 s388 s389 s390 s391 s392 s393 s394 s395 s396 s397 s398 s399 s400 s401 s402 s403 s404 s405 s406 s407 : Value) : Code.wp Ybaf.prog (tailAt 26) (bodyPost Ybaf.prog Ybaf.f3 fun e w' => e = .returned (.bool true) ∧ w.grownBy w' none) ⟨[s0, s1, s2, .slice a3 n3 c3, .int .u16 su, .int .u8 ss, .int .u16 al0, .int .u8 asl, s8, s9, s10, s11, s12, s13, s14, s15, s16, .pointer (some ⟨b17, 0, none⟩), .int .i64 h, vi0, s20, s21, s22, s23, s24, vt0, s26, s27, s28, s29, s30, s31, s32, s33, s34, s35, s36, s37, s38, s39, s40, s41, s42, s43, s44, s45, s46, s47, s48, s49, s50, s51, s52, s53, s54, s55, s56, s57, s58, s59, s60, s61, s62, s63, s64, s65, s66, s67, s68, s69, s70, s71, s72, s73, s74, s75, s76, s77, s78, s79, s80, s81, s82, s83, s84, s85, s86, s87, s88, s89, s90, s91, s92, s93, s94, s95, s96, s97, s98, s99, s100, s101, s102, s103, s104, s105, s106, s107, s108, s109, s110, s111, s112, s113, s114, s115, s116, s117, s118, s119, s120, s121, s122, s123, s124, s125, s126, s127, s128, s129, s130, s131, s132, s133, s134, s135, s136, s137, s138, s139, s140, s141, s142, s143, s144, s145, s146, s147, s148, s149, s150, s151, s152, s153, s154, s155, s156, s157, s158, s159, s160, s161, s162, s163, s164, s165, s166, s167, s168, s169, s170, s171, s172, s173, s174, s175, s176, s177, s178, s179, s180, s181, s182, s183, s184, s185, s186, s187, s188, s189, s190, s191, s192, s193, s194, s195, s196, s197, s198, s199, s200, s201, s202, s203, s204, s205, s206, s207, s208, s209, s210, s211, s212, s213, s214, s215, s216, s217, s218, s219, s220, s221, s222, s223, s224, s225, s226, s227, s228, s229, s230, s231, s232, s233, s234, s235, s236, s237, s238, s239, s240, s241, s242, s243, s244, s245, s246, s247, s248, s249, s250, s251, s252, s253, s254, s255, s256, s257, s258, s259, s260, s261, s262, s263, s264, s265, s266, s267, s268, s269, s270, s271, s272, s273, s274, s275, s276, s277, s278, s279, s280, s281, s282, s283, s284, s285, s286, s287, s288, s289, s290, s291, s292, s293, s294, s295, s296, s297, s298, s299, s300, s301, s302, s303, s304, s305, s306, s307, s308, s309, s310, s311, s312, s313, s314, s315, s316, s317, s318, s319, s320, s321, s322, s323, s324, s325, s326, s327, s328, s329, s330, s331, s332, s333, s334, s335, s336, s337, s338, s339, s340, s341, s342, s343, s344, s345, s346, s347, s348, s349, s350, s351, s352, s353, s354, s355, s356, s357, s358, s359, s360, s361, s362, s363, s364, s365, s366, s367, s368, s369, s370, s371, s372, s373, s374, s375, s376, s377, s378, s379, s380, s381, s382, s383, s384, s385, s386, s387, s388, s389, s390, s391, s392, s393, s394, s395, s396, s397, s398, s399, s400, s401, s402, s403, s404, s405, s406, s407].toArray, []⟩ wz := by
  conv => arg 2; whnf
  try dsimp only
  have hlr := gd.lr
  go_wp2_with fail
  go_loopg [29, 141] n3 (fun g v29 v141 wr => ∃ (i : Nat), i + g = n3 ∧ v141 = .int .i64 i ∧ wr.ownsRow 0 25 20 v29 i ((refs.take i).flatMap ic) ∧ Aside (∀ q, v29.ownBlock = some q → wz.heap.size ≤ q) ∧ wz.grownBy wr none)
  case atStart => exact ⟨0, by omega, rfl, own_nil _ _ _, (fun q hq => by simp [Value.ownBlock] at hq), World.grownBy.refl _ none⟩
  case round =>
    obtain ⟨i, hi, rfl, ow, F, gr⟩ := hrel
    by_cases hin : i < n3
    · obtain ⟨x, hx⟩ : ∃ x, refs[i]? = some x := ⟨_, List.getElem?_eq_getElem (by omega)⟩
      have hsx := gd.mr x (List.mem_of_getElem? hx)
      obtain ⟨b, o, rfl, hb, hc0⟩ := r3 i x hx
      have hin' : (i : Int) < (n3 : Int) := by omega
      have hc : wr.cell? ⟨b, o + i, none⟩ = some (.int .u16 x) := by
        simp only [World.cell?] at hc0 ⊢
        rw [(grown_trans g gr).block b hb (by simp)]
        exact hc0
      go_wp2_with fail
      refine (cid_any x hsx.1 hsx.2 _).mono ?_
      rintro e u1 ⟨rfl, q1⟩
      have ow1 := own_kept ow q1 (by simp)
      have g1 := grown_trans gr q1
      have ga : u1.grownBy (u1.alloc (.cells (ic x).toArray 25)) none := World.grownBy_alloc _ _ none
      have ow2 := own_kept ow1 ga (by simp)
      have ob := own_bs27 x u1
      have g2 := grown_trans g1 ga
      have hsz : u1.heap.size < (u1.alloc (.cells (ic x).toArray 25)).heap.size := by simp
      have hs1 := g1.size
      clear hc ow ow1
      go_wp2_with (first
        | (refine wpList_is (.buildSlice 27 1 #[(0, .tmp 147)]) rfl ?_; refine wpList_exec rfl _ (exec_bs27 (.tmp 147) rfl x rfl) ?_)
        | (refine wpList_is (.call { callee := .builtin .append, args := #[.tmp 145, .tmp 148], argTypes := #[27, 27] }) rfl ?_; refine wpList_appR rfl Ybaf.underlying27 info25 rfl (by omega) (by omega) (.tmp 145) (.tmp 148) rfl u29 i _ rfl ow2 _ 1 (ic x) rfl ob (ic_one x) (by omega) ?_; intro v' u3 o3 q3 hat))
      go_roundg (n3 - (i + 1))
      case measure => omega
      case rel =>
        refine ⟨i + 1, by omega, by go_num, ?_, fun q hq => ?_, grow_own g2 q3 F.out⟩
        · rw [List.take_add_one, hx, List.flatMap_append]
          simpa using o3
        · rcases hat with h | h
          · exact F.out q (by rw [← h]; exact hq)
          · rw [h] at hq
            have := Option.some.inj hq
            omega
    · have ei : i = refs.length := by omega
      subst ei
      rw [List.take_length] at ow
      have x17' := keep_blk gr x17 (by simp)
      have oi' := own_kept oi gr (by simp)
      have ot' := own_kept ot gr (by simp)
      clear x17 oi ot F
      go_upto_if 142 with fail
      go_step
      go_step
      go_step
      refine by_K (c := ?cc) (Q := ?QQ) ?hr ?ht
      case hr => assumption
      exact tail32 w wr s h b17 vi0 vt0 u29 ids refs gd hh hh4 (grown_trans g gr) x17' oi' ot' ow su ss al0 asl hsu hss hal0 has _ _ _ _ _ _ _ _ _ _ _ _ _ _ _ _ _ _ _ _ _ _ _ _ _ _ _ _ _ _ _ _ _ _ _ _ _ _ _ _ _ _ _ _ _ _ _ _ _ _ _ _ _ _ _ _ _ _ _ _ _ _ _ _ _ _ _ _ _ _ _ _ _ _ _ _ _ _ _ _ _ _ _ _ _ _ _ _ _ _ _ _ _ _ _ _ _ _ _ _ _ _ _ _ _ _ _ _ _ _ _ _ _ _ _ _ _ _ _ _ _ _ _ _ _ _ _ _ _ _ _ _ _ _ _ _ _ _ _ _ _ _ _ _ _ _ _ _ _ _ _ _ _ _ _ _ _ _ _ _ _ _ _ _ _ _ _ _ _ _ _ _ _ _ _ _ _ _ _ _ _ _ _ _ _ _ _ _ _ _ _ _ _ _ _ _ _ _ _ _ _ _ _ _ _ _ _ _ _ _ _ _ _ _ _ _ _ _ _ _ _ _ _ _ _ _ _ _ _ _ _ _ _ _ _ _ _ _ _ _ _ _ _ _ _ _ _ _ _ _ _ _ _ _ _ _ _ _ _ _ _ _ _ _ _ _ _ _ _ _ _ _ _ _ _ _ _ _ _ _ _ _ _ _ _ _ _ _ _ _ _ _ _ _ _ _ _ _ _ _ _ _ _ _ _ _ _ _ _ _ _ _ _ _ _ _ _ _ _ _ _ _ _ _ _ _ _ _ _ _ _ _ _ _ _ _ _ _ _ _ _ _ _ _ _ _ _ _ _ _ _ _ _ _ _ _ _ _ _ _ _ _ _ _ _ _ _ _ _ _ _ _ _ _ _ _ _ _ _ _ _ _ _ _ _ _ _ _ _ _ _ _ _ _ _ _ _ _ _
end Go.Proofs.YbulkdspqFmt
