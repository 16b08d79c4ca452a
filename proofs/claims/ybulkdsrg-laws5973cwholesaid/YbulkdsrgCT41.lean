/-
  LawS5973CWhole: the stretch behind the third loop (from region 41 on).
-/
import Derived.Test.YbulkdsrgCT62
namespace Go.Proofs.Ybulkdsrg
open Go.RowKit
set_option linter.unusedSimpArgs false
set_option linter.unusedVariables false

set_option maxRecDepth 1000000 in
set_option maxHeartbeats 4000000 in
theorem tail41 {k : Ky} (hk : k.Wf) (w w0 w3 w5 wr : World) (kb hi2 N : Nat) (x ts : Int) (hx : (Lit.int .u32 x).wf = true) (L : List Nd) (m : Option Nat) (D : DataW Unit) (u19 u20 : Value) (hN6 : ¬ 65536 < N) (hL : L.length ≤ N)
    (hsz0 : w0.heap.size = w.heap.size + 2) (hbs : w0.heap[w.heap.size]? = some (.cells (sc k.s).toArray 23 (0, 0))) (hbd : w0.heap[w.heap.size + 1]? = some (.cells (sc k.d).toArray 23 (0, 0))) (hb0 : Below w.heap.size w w0)
    (hszr : w.heap.size + 2 ≤ hi2) (hs2 : hi2 ≤ kb) (hs3 : kb < w3.heap.size) (hsz5 : w3.heap.size ≤ w5.heap.size) (hszy : w5.heap.size + 2 ≤ wr.heap.size)
    (hstY : St wr k (w.heap.size + 2) hi2 (w.heap.size + 2) L m D N) (hkbY : wr.heap[kb]? = some (.cells (kc k x).toArray 34 (0, 0))) (hJ1 : wr.heap[w5.heap.size]? = some (.cells (bef D k 8).toArray 62 (0, 0))) (hJ2 : wr.heap[w5.heap.size + 1]? = some (.cells (bok D k 8).toArray 63 (0, 0)))
    (hbelY : Below (w.heap.size + 2) w0 wr) (hnsY : wr.ownsRow w3.heap.size 27 1 u19 L.length (nRow L L.length)) (hdsY : wr.ownsRow w3.heap.size 60 86 u20 L.length (dRow k L L.length)) (s0 s1 s2 s7 s10 s11 s12 s13 s14 s16 s17 s21 s30 s31 s32 s33 s34 s35 s36 s37 s38 s39 s40 s41 s42 s43 s44 s45 s46 s47 s48 s49 s50 s51 s52 s53 s54 s55 s56 s57 s58 s59 s60 s61 s62 s63 s64 s65 s66 s67 s68 s69 s70 s71 s72 s73 s74 s75 s76 s77 s78 s79 s80 s81 s82 s83 s84 s85 s86 s87 s88 s89 s90 s91 s92 s93 s94 s95 s96 s97 s98 s99 s100 s101 s102 s103 s104 s105 s106 s107 s108 s109 s110 s111 s112 s113 s114 s115 s116 s117 s118 s119 s120 s121 s122 s123 s124 s125 s126 s127 s128 s129 s130 s131 s132 s133 s134 s135 s136 s137 s138 s139 s140 s141 s142 s143 s144 s145 s146 s147 s148 s149 s150 s151 s152 s153 s154 s155 s156 s157 s158 s159 s160 s161 s162 s163 s164 s165 s166 s167 s168 s169 s170 s171 s172 s173 s174 s175 s176 s177 s178 s179 s180 s181 s182 s183 s184 s185 s186 s187 s188 s189 s190 s191 s192 s193 s194 s195 s196 s197 s198 s199 s200 s201 s202 s203 s204 s205 s206 s207 s208 s209 s210 s211 s212 s213 s214 s215 s216 s217 s218 s219 s220 s221 s222 s223 s224 s225 s226 s227 s228 s229 s230 s231 s232 s233 s234 s235 s236 s237 s238 s239 s240 s241 s242 s243 s244 s245 s246 s247 s248 s249 s250 s251 s252 s253 s254 s255 s256 s257 s258 s259 s260 s261 s262 s263 s264 s265 s266 s267 s268 s269 s270 s271 s272 s273 s274 s275 s276 s277 s278 s279 s280 s281 s282 s283 s284 s285 s286 s287 s288 s289 s290 s291 s292 s293 s294 s295 s296 s297 s298 s299 s300 s301 s302 s303 s304 s305 s306 s307 s308 s309 s310 s311 s312 s313 s314 s315 : Value) :
    Code.wp Yba.prog (tailAt 41) (bodyPost Yba.prog Yba.f3 fun e w' => e = .returned (.bool true) ∧ Below w.heap.size w w') ⟨#[s0, s1, s2, .int .u32 x, .int .u8 k.pr, .bool k.v, .int .i64 ts, s7, .pointer (some ⟨w.heap.size, 0, none⟩), .pointer (some ⟨w.heap.size + 1, 0, none⟩), s10, s11, s12, s13, s14, .pointer (some ⟨w.heap.size + 2, 0, none⟩), s16, s17, .pointer (some ⟨kb, 0, none⟩), u19, u20, s21, .int .i64 L.length, vp (hd L), vp (lt L), .int .i64 (Maps.size D), vp (gt D k x), .bool (Maps.has D (kl k x)), .pointer (some ⟨w5.heap.size, 0, none⟩), .pointer (some ⟨w5.heap.size + 1, 0, none⟩), s30, s31, s32, s33, s34, s35, s36, s37, s38, s39, s40, s41, s42, s43, s44, s45, s46, s47, s48, s49, s50, s51, s52, s53, s54, s55, s56, s57, s58, s59, s60, s61, s62, s63, s64, s65, s66, s67, s68, s69, s70, s71, s72, s73, s74, s75, s76, s77, s78, s79, s80, s81, s82, s83, s84, s85, s86, s87, s88, s89, s90, s91, s92, s93, s94, s95, s96, s97, s98, s99, s100, s101, s102, s103, s104, s105, s106, s107, s108, s109, s110, s111, s112, s113, s114, s115, s116, s117, s118, s119, s120, s121, s122, s123, s124, s125, s126, s127, s128, s129, s130, s131, s132, s133, s134, s135, s136, s137, s138, s139, s140, s141, s142, s143, s144, s145, s146, s147, s148, s149, s150, s151, s152, s153, s154, s155, s156, s157, s158, s159, s160, s161, s162, s163, s164, s165, s166, s167, s168, s169, s170, s171, s172, s173, s174, s175, s176, s177, s178, s179, s180, s181, s182, s183, s184, s185, s186, s187, s188, s189, s190, s191, s192, s193, s194, s195, s196, s197, s198, s199, s200, s201, s202, s203, s204, s205, s206, s207, s208, s209, s210, s211, s212, s213, s214, s215, s216, s217, s218, s219, s220, s221, s222, s223, s224, s225, s226, s227, s228, s229, s230, s231, s232, s233, s234, s235, s236, s237, s238, s239, s240, s241, s242, s243, s244, s245, s246, s247, s248, s249, s250, s251, s252, s253, s254, s255, s256, s257, s258, s259, s260, s261, s262, s263, s264, s265, s266, s267, s268, s269, s270, s271, s272, s273, s274, s275, s276, s277, s278, s279, s280, s281, s282, s283, s284, s285, s286, s287, s288, s289, s290, s291, s292, s293, s294, s295, s296, s297, s298, s299, s300, s301, s302, s303, s304, s305, s306, s307, s308, s309, s310, s311, s312, s313, s314, s315], []⟩ wr := by
  conv => arg 2; whnf
  have hNm : N < maxLen := by simp [maxLen]; omega
  go_wp2_with (refine wpList_is (.load 34 (.tmp 18)) rfl ?_; refine wpList_load_blk rfl 34 (.tmp 18) rfl kb rfl (kc k x) 34 hkbY _ Yba.underlying34 rfl (size34 _ _) ?_)
  refine (open_any hk ts hx hstY (by omega) hNm).mono ?_
  rintro e w6 ⟨db, mb, rfl, hdb, hmb, hst6, hout6⟩
  have hs6 := hout6.size
  have hkb6 : w6.heap[kb]? = some (.cells (kc k x).toArray 34 (0, 0)) := (hout6.block _ (by omega) (.inr (by omega))).trans hkbY
  have hbe6 : w6.heap[w5.heap.size]? = some (.cells (bef D k 8).toArray 62 (0, 0)) := (hout6.block _ (by omega) (.inr (by omega))).trans hJ1
  have hbo6 : w6.heap[w5.heap.size + 1]? = some (.cells (bok D k 8).toArray 63 (0, 0)) := (hout6.block _ (by omega) (.inr (by omega))).trans hJ2
  have hns6 : w6.ownsRow w3.heap.size 27 1 u19 L.length (nRow L L.length) := own_move hnsY (fun q hq1 hq => hout6.block q hq (.inr (by omega)))
  have hds6 : w6.ownsRow w3.heap.size 60 86 u20 L.length (dRow k L L.length) := own_move hdsY (fun q hq1 hq => hout6.block q hq (.inr (by omega)))
  have hbel6 : Below (w.heap.size + 2) w0 w6 := Below.of_out hbelY hout6 (Nat.le_refl _) (by omega)
  have hsrc6 : w6.heap[w.heap.size]? = some (.cells (sc k.s).toArray 23 (0, 0)) := (hbel6.block _ (by omega)).trans hbs
  have hdst6 : w6.heap[w.heap.size + 1]? = some (.cells (sc k.d).toArray 23 (0, 0)) := (hbel6.block _ (by omega)).trans hbd
  have hd6 : w6.heap[db]? = some (.cells (dc k x ts (lt L) none).toArray 60 (0, 0)) := by
    have := hst6.node L.length _ (get_last L _)
    rwa [pv_last, nx_last] at this
  have hdl6 : db < w6.heap.size := (Array.getElem?_eq_some_iff.1 hd6).1
  have hisD := hstY.isMap
  have htidy := hstY.tidy
  have hszD := hstY.size_le
  clear hstY hkbY hJ1 hJ2 hbelY hnsY hdsY hout6
  simp only [vp_some]
  go_upto_region 44 with fail
  go_upto_region 45 with (first
    | (refine wpList_is (.load 34 (.tmp 18)) rfl ?_; refine wpList_load_blk rfl 34 (.tmp 18) rfl kb rfl (kc k x) 34 hkb6 _ Yba.underlying34 rfl (size34 _ _) ?_)
    | (refine wpList_is (.build 60 #[(0, .tmp 186), (9, .tmp 187), (10, .tmp 188)]) rfl ?_; refine wpList_build60 rfl (.tmp 186) (.tmp 187) (.tmp 188) rfl k x ts (lt L) rfl rfl rfl ?_)
    | (refine wpList_is (.alloc 60) rfl ?_; refine wpList_alloc60 rfl rfl ?_)
    | (refine wpList_is (.store 60 (.tmp 34) (.tmp 189)) rfl ?_; refine wpList_store_blk rfl 60 (.tmp 34) (.tmp 189) rfl w6.heap.size (dc k x ts (lt L) none) rfl rfl _ _ (blk_new _ _ _ _ rfl) rfl (size60 _ _ _ _ _) (dc_one _ _ _ _ _) ?_; intro w7 hb7 hg7))
  simp only [Act.put, List.setIfInBounds_toArray, List.set_cons_zero, List.set_cons_succ]
  have hB7 : Below w6.heap.size w6 w7 := (Below.refl _ _).grown (grown_new hg7) (Nat.le_refl _) (by simp)
  have hd7 : w7.heap[db]? = some (.cells (dc k x ts (lt L) none).toArray 60 (0, 0)) := (hB7.block _ hdl6).trans hd6
  clear hg7
  refine wp_region_held (S := fun w' : World => w'.heap = w7.heap) (by kernel_rfl) ?_
  have hS : (fun w' : World => w'.heap = w7.heap) { w7 with drawn := w7.drawn + 1 } := rfl
  refine any_take 0 (some 190) (.pointer (some ⟨db, 0, none⟩)) rfl rfl (by kernel_rfl) (by kernel_rfl) (by kernel_rfl) (fun _ _ _ h => h) (.inl ⟨by kernel_rfl, fun _ _ => by kernel_rfl⟩) (by assumption) ?_
  simp only [Act.put, List.setIfInBounds_toArray, List.set_cons_zero, List.set_cons_succ]
  refine any_take 1 (some 191) (.pointer (some ⟨db, 0, none⟩)) rfl rfl (by kernel_rfl) (by kernel_rfl) (by kernel_rfl) (fun _ _ _ h => h) (.inl ⟨by kernel_rfl, fun _ _ => by kernel_rfl⟩) (by assumption) ?_
  simp only [Act.put, List.setIfInBounds_toArray, List.set_cons_zero, List.set_cons_succ]
  refine any_take 2 (some 192) (.agg (dc k x ts (lt L) none).toArray) rfl rfl (by kernel_rfl) (by kernel_rfl) (by kernel_rfl) (fun _ _ _ h => h) (yld_blk (by kernel_rfl) 60 (.tmp 191) rfl db rfl _ 60 (fun w' e => by rw [show w'.heap = w7.heap from e]; exact hd7) _ Yba.underlying60 rfl (size60 _ _ _ _ _)) (by assumption) ?_
  simp only [Act.put, List.setIfInBounds_toArray, List.set_cons_zero, List.set_cons_succ]
  refine any_take 3 (some 193) (.agg (dc k x ts (lt L) none).toArray) rfl rfl (by kernel_rfl) (by kernel_rfl) (by kernel_rfl) (fun _ _ _ h => h) (yld_blk (by kernel_rfl) 60 (.tmp 34) rfl w6.heap.size rfl _ 60 (fun w' e => by rw [show w'.heap = w7.heap from e]; exact hb7) _ Yba.underlying60 rfl (size60 _ _ _ _ _)) (by assumption) ?_
  simp only [Act.put, List.setIfInBounds_toArray, List.set_cons_zero, List.set_cons_succ]
  refine any_take 4 (some 194) (.bool false) rfl rfl (by kernel_rfl) (by kernel_rfl) (by kernel_rfl) (fun _ _ _ h => h) (.inl ⟨by kernel_rfl, fun w' _ => exec_neq60 (.tmp 192) (.tmp 193) rfl hk hx ts (lt L) none rfl rfl⟩) (by assumption) ?_
  simp only [Act.put, List.setIfInBounds_toArray, List.set_cons_zero, List.set_cons_succ]
  refine wpAnyH_done (by kernel_rfl) ?_ _
  have hB8 : Below w6.heap.size w6 { w7 with drawn := w7.drawn + 1 } := ⟨hB7.os, hB7.tape, hB7.output, hB7.size, hB7.block⟩
  clear hS hd7 hB7 hb7
  generalize { w7 with drawn := w7.drawn + 1 } = w8 at hB8 ⊢
  go_upto_region 47 with fail
  have hgt : gt (D.put (kl k x) (vd (some db))) k x = some db := gt_put_same hisD hk hx (some db)
  have hblk8 := hB8.block
  refine wp_region_held (S := fun w' : World => ∀ q, q < w6.heap.size → w'.heap[q]? = w6.heap[q]?) (by kernel_rfl) ?_
  have hS : (fun w' : World => ∀ q, q < w6.heap.size → w'.heap[q]? = w6.heap[q]?) { w8 with drawn := w8.drawn + 1 } := hblk8
  have hfr6 := hst6.fr
  refine any_take 0 (some 195) (.pointer (some ⟨w.heap.size + 2, 0, none⟩)) rfl rfl (by kernel_rfl) (by kernel_rfl) (by kernel_rfl) (fun _ _ _ h => h) (.inl ⟨by kernel_rfl, fun _ _ => by kernel_rfl⟩) (by assumption) ?_
  simp only [Act.put, List.setIfInBounds_toArray, List.set_cons_zero, List.set_cons_succ]
  refine any_take 1 (some 196) (.pointer (some ⟨w.heap.size + 2, 0, none⟩)) rfl rfl (by kernel_rfl) (by kernel_rfl) (by kernel_rfl) (fun _ _ _ h => h) (.inl ⟨by kernel_rfl, fun _ _ => by kernel_rfl⟩) (by assumption) ?_
  simp only [Act.put, List.setIfInBounds_toArray, List.set_cons_zero, List.set_cons_succ]
  refine any_take 2 (some 197) (.pointer (some ⟨w.heap.size + 2, 0, none⟩)) rfl rfl (by kernel_rfl) (by kernel_rfl) (by kernel_rfl) (fun _ _ _ h => h) (.inl ⟨by kernel_rfl, fun _ _ => by kernel_rfl⟩) (by assumption) ?_
  simp only [Act.put, List.setIfInBounds_toArray, List.set_cons_zero, List.set_cons_succ]
  refine any_take 3 (some 198) (.map (some mb)) rfl rfl (by kernel_rfl) (by kernel_rfl) (by kernel_rfl) (fun _ _ _ h => h) (yld_cell (by kernel_rfl) 26 (.tmp 197) rfl (w.heap.size + 2) 0 rfl _ 29 (fun w' e => (e _ hfr6.2).trans hst6.fs) _ Yba.underlying26 rfl _ (fc0 _ _ _)) (by assumption) ?_
  simp only [Act.put, List.setIfInBounds_toArray, List.set_cons_zero, List.set_cons_succ]
  refine any_take 4 (some 199) (.bool false) rfl rfl (by kernel_rfl) (by kernel_rfl) (by kernel_rfl) (fun _ _ _ h => h) (.inl ⟨by kernel_rfl, fun _ _ => by kernel_rfl⟩) (by assumption) ?_
  simp only [Act.put, List.setIfInBounds_toArray, List.set_cons_zero, List.set_cons_succ]
  refine any_take 5 (some 200) (.bool false) rfl rfl (by kernel_rfl) (by kernel_rfl) (by kernel_rfl) (fun _ _ _ h => h) (.inl ⟨by kernel_rfl, fun _ _ => by kernel_rfl⟩) (by assumption) ?_
  simp only [Act.put, List.setIfInBounds_toArray, List.set_cons_zero, List.set_cons_succ]
  refine any_take 6 (some 201) (.pointer (some ⟨w.heap.size + 2, 0, none⟩)) rfl rfl (by kernel_rfl) (by kernel_rfl) (by kernel_rfl) (fun _ _ _ h => h) (.inl ⟨by kernel_rfl, fun _ _ => by kernel_rfl⟩) (by assumption) ?_
  simp only [Act.put, List.setIfInBounds_toArray, List.set_cons_zero, List.set_cons_succ]
  refine any_take 7 (some 202) (.pointer (some ⟨w.heap.size + 2, 0, none⟩)) rfl rfl (by kernel_rfl) (by kernel_rfl) (by kernel_rfl) (fun _ _ _ h => h) (.inl ⟨by kernel_rfl, fun _ _ => by kernel_rfl⟩) (by assumption) ?_
  simp only [Act.put, List.setIfInBounds_toArray, List.set_cons_zero, List.set_cons_succ]
  refine any_take 8 (some 203) (.pointer (some ⟨w.heap.size + 2, 0, none⟩)) rfl rfl (by kernel_rfl) (by kernel_rfl) (by kernel_rfl) (fun _ _ _ h => h) (.inl ⟨by kernel_rfl, fun _ _ => by kernel_rfl⟩) (by assumption) ?_
  simp only [Act.put, List.setIfInBounds_toArray, List.set_cons_zero, List.set_cons_succ]
  refine any_take 9 (some 204) (.map (some mb)) rfl rfl (by kernel_rfl) (by kernel_rfl) (by kernel_rfl) (fun _ _ _ h => h) (yld_cell (by kernel_rfl) 26 (.tmp 203) rfl (w.heap.size + 2) 0 rfl _ 29 (fun w' e => (e _ hfr6.2).trans hst6.fs) _ Yba.underlying26 rfl _ (fc0 _ _ _)) (by assumption) ?_
  simp only [Act.put, List.setIfInBounds_toArray, List.set_cons_zero, List.set_cons_succ]
  refine any_take 10 (some 205) (.agg (kc k x).toArray) rfl rfl (by kernel_rfl) (by kernel_rfl) (by kernel_rfl) (fun _ _ _ h => h) (yld_blk (by kernel_rfl) 34 (.tmp 18) rfl kb rfl (kc k x) 34 (fun w' e => (e _ (by omega)).trans hkb6) _ Yba.underlying34 rfl (size34 k x)) (by assumption) ?_
  simp only [Act.put, List.setIfInBounds_toArray, List.set_cons_zero, List.set_cons_succ]
  refine any_take 11 (some 206) (.pointer (some ⟨db, 0, none⟩)) rfl rfl (by kernel_rfl) (by kernel_rfl) (by kernel_rfl) (fun _ _ _ h => h) (.inl ⟨by kernel_rfl, fun w' e => (exec_look1 (.tmp 204) (.tmp 205) rfl hk hx (hst6.at (w' := w') (B := w6.heap.size) e (Nat.le_refl _) (Nat.le_refl _)) rfl rfl).trans (by rw [hgt]; rfl)⟩) (by assumption) ?_
  simp only [Act.put, List.setIfInBounds_toArray, List.set_cons_zero, List.set_cons_succ]
  refine any_take 12 (some 207) (.pointer (some ⟨db, 0, none⟩)) rfl rfl (by kernel_rfl) (by kernel_rfl) (by kernel_rfl) (fun _ _ _ h => h) (.inl ⟨by kernel_rfl, fun _ _ => by kernel_rfl⟩) (by assumption) ?_
  simp only [Act.put, List.setIfInBounds_toArray, List.set_cons_zero, List.set_cons_succ]
  refine any_take 13 (some 208) (.bool false) rfl rfl (by kernel_rfl) (by kernel_rfl) (by kernel_rfl) (fun _ _ _ h => h) (.inl ⟨by kernel_rfl, fun w' _ => exec_nePP (.tmp 206) (.tmp 207) rfl db rfl rfl⟩) (by assumption) ?_
  simp only [Act.put, List.setIfInBounds_toArray, List.set_cons_zero, List.set_cons_succ]
  refine any_take 14 (some 209) (.bool false) rfl rfl (by kernel_rfl) (by kernel_rfl) (by kernel_rfl) (fun _ _ _ h => h) (.inl ⟨by kernel_rfl, fun _ _ => by kernel_rfl⟩) (by assumption) ?_
  simp only [Act.put, List.setIfInBounds_toArray, List.set_cons_zero, List.set_cons_succ]
  refine wpAnyH_done (by kernel_rfl) ?_ _
  have hB9 : Below w6.heap.size w6 { w8 with drawn := w8.drawn + 1 } := ⟨hB8.os, hB8.tape, hB8.output, hB8.size, hB8.block⟩
  clear hS hB8 hblk8
  generalize { w8 with drawn := w8.drawn + 1 } = w9 at hB9 ⊢
  have hsp := Maps.size_put (k := kl k x) htidy (vd (some db))
  go_upto_if 212 with fail
  go_cut [35] (fun v wx => v = .int .i64 (Maps.size (D.put (kl k x) (vd (some db)))) ∧ wx = w9)
  case first =>
    have HSP : Hid (Maps.size (D.put (kl k x) (vd (some db))) = if Maps.has D (kl k x) = true then Maps.size D else Maps.size D + 1) := hsp
    clear hsp
    have hszD' : (Maps.size D : Int) ≤ 65536 := by omega
    go_wp2_with fail
    · go_meet
      case rel =>
        have hsp : Maps.size (D.put (kl k x) (vd (some db))) = if Maps.has D (kl k x) = true then Maps.size D else Maps.size D + 1 := HSP
        rename_i hh
        have hh' : Maps.has D (kl k x) = false := by simpa using hh
        rw [hh'] at hsp
        rw [hsp]
        exact ⟨by go_num, rfl⟩
    · go_meet
      case rel =>
        have hsp : Maps.size (D.put (kl k x) (vd (some db))) = if Maps.has D (kl k x) = true then Maps.size D else Maps.size D + 1 := HSP
        rename_i hh
        have hh' : Maps.has D (kl k x) = true := by simpa using hh
        rw [hh'] at hsp
        rw [hsp]
        exact ⟨rfl, rfl⟩
  case rest =>
    obtain ⟨rfl, rfl⟩ := hcut
    clear hsp
    have hst9 : St wc k (w.heap.size + 2) w6.heap.size (w.heap.size + 2) (L ++ [⟨db, x, ts⟩]) (some mb) (D.put (kl k x) (vd (some db))) (N + 1) := hst6.at (B := w6.heap.size) hB9.block (Nat.le_refl _) (Nat.le_refl _)
    have hfs9 := hst9.fs
    go_upto_region 54 with (first
      | (refine wpList_is (.load 26 (.tmp 217)) rfl ?_; refine wpList_load_cell rfl 26 (.tmp 217) rfl (w.heap.size + 2) 0 rfl _ _ hfs9 _ Yba.underlying26 rfl _ (fc0 _ _ _) ?_)
      | (refine wpList_is (.call { callee := Callee.builtin Builtin.len, args := #[.tmp 218], argTypes := #[26] }) rfl ?_; refine wpList_len26 rfl (.tmp 218) rfl (some mb) rfl hst9 ?_))
    clear hfs9 hst9
    go_wp2_with fail
    clear hgt hmb
    have hblk9 := hB9
    clear hB9
    go_loopg [36] 8 (fun g v wy => ∃ i : Nat, i + g = 8 ∧ v = .int .i64 i ∧ Below w6.heap.size w6 wy)
    case atStart => exact ⟨0, by omega, rfl, hblk9⟩
    case round =>
      obtain ⟨i, hi, rfl, hB⟩ := hrel
      clear hblk9
      by_cases hi8 : i < 8
      · have hi8' : (i : Int) < 8 := by omega
        have hwi := wf8 hi8
        have hsrcR : wr.heap[w.heap.size]? = some (.cells (sc k.s).toArray 23 (0, 0)) := (hB.block _ (by omega)).trans hsrc6
        have hdstR : wr.heap[w.heap.size + 1]? = some (.cells (sc k.d).toArray 23 (0, 0)) := (hB.block _ (by omega)).trans hdst6
        go_wp2_with (first
          | (refine wpList_is (.load 23 (.tmp 8)) rfl ?_; refine wpList_load_blk rfl 23 (.tmp 8) rfl _ rfl (sc k.s) 23 hsrcR _ Yba.underlying23 rfl (size23 _) ?_)
          | (refine wpList_is (.load 23 (.tmp 9)) rfl ?_; refine wpList_load_blk rfl 23 (.tmp 9) rfl _ rfl (sc k.d) 23 hdstR _ Yba.underlying23 rfl (size23 _) ?_)
          | (refine wpList_is (.convert 3 24 (.tmp 228)) rfl ?_; refine wpList_conv8 rfl (.tmp 228) rfl hi8 rfl ?_))
        refine (key_any k (i : Int) _).mono ?_
        rintro e w10 ⟨rfl, hg10⟩
        have hkb10 : w10.heap[kb]? = some (.cells (kc k x).toArray 34 (0, 0)) := keep_blk hg10 ((hB.block _ (by omega)).trans hkb6) (by simp)
        have hs10 := hg10.size
        have hsB := hB.size
        have hB10 : Below w6.heap.size w6 w10 := hB.grown hg10 hsB (by simp)
        clear hsrcR hdstR hB hg10
        go_upto_if 235 with (first
          | (refine wpList_is (.store 34 (.tmp 37) (.tmp 232)) rfl ?_; refine wpList_store_blk rfl 34 (.tmp 37) (.tmp 232) rfl w10.heap.size (kc k i) rfl rfl _ _ (blk_new _ _ _ _ rfl) rfl (size34 _ _) (kc_one _ _) ?_; intro w11 hb11 hg11)
          | (refine wpList_is (.load 34 (.tmp 37)) rfl ?_; refine wpList_load_blk rfl 34 (.tmp 37) rfl w10.heap.size rfl (kc k i) 34 hb11 _ Yba.underlying34 rfl (size34 _ _) ?_)
          | (refine wpList_is (.load 34 (.tmp 18)) rfl ?_; refine wpList_load_blk rfl 34 (.tmp 18) rfl kb rfl (kc k x) 34 (keep_blk (grown_new hg11) hkb10 (by simp)) _ Yba.underlying34 rfl (size34 _ _) ?_)
          | (refine wpList_is (.binOp .eql 34 (.tmp 233) (.tmp 234) 34) rfl ?_; refine wpList_eql34 rfl (.tmp 233) (.tmp 234) rfl hk hwi hx rfl rfl ?_))
        have hB11 : Below w6.heap.size w6 w11 := hB10.grown (grown_new hg11) (by omega) (by simp)
        clear hg11 hkb10 hB10
        by_cases hix : (i : Int) = x
        · have hdec : decide ((i : Int) = x) = true := by simp [hix]
          simp only [hdec]
          clear hdec hix
          go_wp2_with fail
          go_roundg (8 - (i + 1))
          case measure => omega
          case rel => exact ⟨i + 1, by omega, by go_num, hB11⟩
        · have hdec : decide ((i : Int) = x) = false := by simp [hix]
          simp only [hdec]
          have hgo : gt (D.put (kl k x) (vd (some db))) k i = gt D k i := gt_put_other hk hx hwi hix _
          have hho : Maps.has (D.put (kl k x) (vd (some db))) (kl k i) = Maps.has D (kl k i) := Maps.has_put_other (kl_ne hk hwi hx hix) _
          clear hdec hix
          go_upto_region 59 with fail
          refine wp_region_held (S := fun w' : World => w'.heap = w11.heap) (by kernel_rfl) ?_
          have hS : (fun w' : World => w'.heap = w11.heap) { w11 with drawn := w11.drawn + 1 } := rfl
          refine any_take 0 (some 237) (.pointer (some ⟨w.heap.size + 2, 0, none⟩)) rfl rfl (by kernel_rfl) (by kernel_rfl) (by kernel_rfl) (fun _ _ _ h => h) (.inl ⟨by kernel_rfl, fun _ _ => by kernel_rfl⟩) (by assumption) ?_
          simp only [Act.put, List.setIfInBounds_toArray, List.set_cons_zero, List.set_cons_succ]
          refine any_take 1 (some 238) (.pointer (some ⟨w.heap.size + 2, 0, none⟩)) rfl rfl (by kernel_rfl) (by kernel_rfl) (by kernel_rfl) (fun _ _ _ h => h) (.inl ⟨by kernel_rfl, fun _ _ => by kernel_rfl⟩) (by assumption) ?_
          simp only [Act.put, List.setIfInBounds_toArray, List.set_cons_zero, List.set_cons_succ]
          refine any_take 2 (some 239) (.pointer (some ⟨w.heap.size + 2, 0, none⟩)) rfl rfl (by kernel_rfl) (by kernel_rfl) (by kernel_rfl) (fun _ _ _ h => h) (.inl ⟨by kernel_rfl, fun _ _ => by kernel_rfl⟩) (by assumption) ?_
          simp only [Act.put, List.setIfInBounds_toArray, List.set_cons_zero, List.set_cons_succ]
          refine any_take 3 (some 240) (.map (some mb)) rfl rfl (by kernel_rfl) (by kernel_rfl) (by kernel_rfl) (fun _ _ _ h => h) (yld_cell (by kernel_rfl) 26 (.tmp 239) rfl (w.heap.size + 2) 0 rfl _ 29 (fun w' e => by rw [show w'.heap = w11.heap from e]; exact (hB11.block _ hfr6.2).trans hst6.fs) _ Yba.underlying26 rfl _ (fc0 _ _ _)) (by assumption) ?_
          simp only [Act.put, List.setIfInBounds_toArray, List.set_cons_zero, List.set_cons_succ]
          refine any_take 4 (some 241) (.agg (kc k i).toArray) rfl rfl (by kernel_rfl) (by kernel_rfl) (by kernel_rfl) (fun _ _ _ h => h) (yld_blk (by kernel_rfl) 34 (.tmp 37) rfl w10.heap.size rfl (kc k i) 34 (fun w' e => by rw [show w'.heap = w11.heap from e]; exact hb11) _ Yba.underlying34 rfl (size34 _ _)) (by assumption) ?_
          simp only [Act.put, List.setIfInBounds_toArray, List.set_cons_zero, List.set_cons_succ]
          refine any_take 5 (some 242) (.tuple #[vp (gt D k i), .bool (Maps.has D (kl k i))]) rfl rfl (by kernel_rfl) (by kernel_rfl) (by kernel_rfl) (fun _ _ _ h => h) (.inl ⟨by kernel_rfl, fun w' e => (exec_look (.tmp 240) (.tmp 241) rfl hk hwi (hst6.at (w' := w') (B := w6.heap.size) (fun q hq => by rw [show w'.heap = w11.heap from e]; exact hB11.block q hq) (Nat.le_refl _) (Nat.le_refl _)) rfl rfl).trans (by rw [hgo, hho])⟩) (by assumption) ?_
          simp only [Act.put, List.setIfInBounds_toArray, List.set_cons_zero, List.set_cons_succ]
          refine any_take 6 (some 236) (.tuple #[vp (gt D k i), .bool (Maps.has D (kl k i))]) rfl rfl (by kernel_rfl) (by kernel_rfl) (by kernel_rfl) (fun _ _ _ h => h) (.inl ⟨by kernel_rfl, fun _ _ => by kernel_rfl⟩) (by assumption) ?_
          simp only [Act.put, List.setIfInBounds_toArray, List.set_cons_zero, List.set_cons_succ]
          refine any_take 7 (some 243) (vp (gt D k i)) rfl rfl (by kernel_rfl) (by kernel_rfl) (by kernel_rfl) (fun _ _ _ h => h) (.inl ⟨by kernel_rfl, fun _ _ => by kernel_rfl⟩) (by assumption) ?_
          simp only [Act.put, List.setIfInBounds_toArray, List.set_cons_zero, List.set_cons_succ]
          refine any_take 8 (some 244) (.bool (Maps.has D (kl k i))) rfl rfl (by kernel_rfl) (by kernel_rfl) (by kernel_rfl) (fun _ _ _ h => h) (.inl ⟨by kernel_rfl, fun _ _ => by kernel_rfl⟩) (by assumption) ?_
          simp only [Act.put, List.setIfInBounds_toArray, List.set_cons_zero, List.set_cons_succ]
          refine any_take 9 (some 38) (vp (gt D k i)) rfl rfl (by kernel_rfl) (by kernel_rfl) (by kernel_rfl) (fun _ _ _ h => h) (.inl ⟨by kernel_rfl, fun _ _ => by kernel_rfl⟩) (by assumption) ?_
          simp only [Act.put, List.setIfInBounds_toArray, List.set_cons_zero, List.set_cons_succ]
          refine any_take 10 (some 39) (.bool (Maps.has D (kl k i))) rfl rfl (by kernel_rfl) (by kernel_rfl) (by kernel_rfl) (fun _ _ _ h => h) (.inl ⟨by kernel_rfl, fun _ _ => by kernel_rfl⟩) (by assumption) ?_
          simp only [Act.put, List.setIfInBounds_toArray, List.set_cons_zero, List.set_cons_succ]
          refine wpAnyH_done (by kernel_rfl) ?_ _
          have hB12 : Below w6.heap.size w6 { w11 with drawn := w11.drawn + 1 } := ⟨hB11.os, hB11.tape, hB11.output, hB11.size, hB11.block⟩
          clear hS hB11 hb11 hgo hho hwi
          generalize { w11 with drawn := w11.drawn + 1 } = w12 at hB12 ⊢
          have hbe12 : w12.heap[w5.heap.size]? = some (.cells (bef D k 8).toArray 62 (0, 0)) := (hB12.block _ (by omega)).trans hbe6
          have hbo12 : w12.heap[w5.heap.size + 1]? = some (.cells (bok D k 8).toArray 63 (0, 0)) := (hB12.block _ (by omega)).trans hbo6
          have hcell := range_of_blk hbe12 i _ (bef_get D k hi8)
          simp only [Nat.zero_add] at hcell
          have hne := neVV (gt D k i)
          have hgd := fun op x y => guardVV op x y (gt D k i)
          go_wp2_with (first
            | (refine wpList_is (.load 4 (.tmp 247)) rfl ?_; refine wpList_load_cell rfl 4 (.tmp 247) rfl (w5.heap.size + 1) i rfl _ _ hbo12 _ Yba.underlying4 rfl _ (bok_get D k hi8) ?_)
            | (refine wpList_is (.load 27 (.tmp 253)) rfl ?_; refine wpList_load_cell rfl 27 (.tmp 253) rfl w5.heap.size i rfl _ _ hbe12 _ Yba.underlying27 rfl _ (bef_get D k hi8) ?_))
          go_roundg (8 - (i + 1))
          case measure => omega
          case rel => exact ⟨i + 1, by omega, by go_num, hB12⟩
      · have hi9 : 8 = i := by omega
        subst hi9
        go_upto_if 223 with fail
        go_step
        go_step
        go_step
        refine by_K (c := ?cc) (Q := ?QQ) ?hr ?ht
        case hr => assumption
        exact tail62 hk w w6 _ (w.heap.size + 2) db mb w3.heap.size N x ts _ L hst6 (by omega) _ _ hns6 hds6 (hb0.trans (hbel6.mono (by omega))) (by have := hst6.fr; omega) hB _ _ _ _ _ _ _ _ _ _ _ _ _ _ _ _ _ _ _ _ _ _ _ _ _ _ _ _ _ _ _ _ _ _ _ _ _ _ _ _ _ _ _ _ _ _ _ _ _ _ _ _ _ _ _ _ _ _ _ _ _ _ _ _ _ _ _ _ _ _ _ _ _ _ _ _ _ _ _ _ _ _ _ _ _ _ _ _ _ _ _ _ _ _ _ _ _ _ _ _ _ _ _ _ _ _ _ _ _ _ _ _ _ _ _ _ _ _ _ _ _ _ _ _ _ _ _ _ _ _ _ _ _ _ _ _ _ _ _ _ _ _ _ _ _ _ _ _ _ _ _ _ _ _ _ _ _ _ _ _ _ _ _ _ _ _ _ _ _ _ _ _ _ _ _ _ _ _ _ _ _ _ _ _ _ _ _ _ _ _ _ _ _ _ _ _ _ _ _ _ _ _ _ _ _ _ _ _ _ _ _ _ _ _ _ _ _ _ _ _ _ _ _ _ _ _ _ _ _ _ _ _ _ _ _ _ _ _ _ _ _ _ _ _ _ _ _ _ _ _ _ _ _ _ _ _ _ _ _ _ _ _ _ _ _ _ _ _ _ _ _ _ _ _ _ _ _ _ _ _ _ _ _ _ _ _ _ _ _ _ _ _ _ _ _ _ _ _ _ _ _ _ _ _ _ _ _ _ _ _ _

end Go.Proofs.Ybulkdsrg
