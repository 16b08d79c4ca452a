/-
  LawS5973CWhole: the stretch behind the fourth loop (from region 62 on).
-/
import Derived.Test.YbulkdsrgCT69
namespace Go.Proofs.Ybulkdsrg
open Go.RowKit
set_option linter.unusedSimpArgs false
set_option linter.unusedVariables false

set_option maxRecDepth 1000000 in
set_option maxHeartbeats 4000000 in
theorem tail62 {k : Ky} (hk : k.Wf) (w w6 wr : World) (f db mb B N : Nat) (x ts : Int) (D' : DataW Unit) (L : List Nd) (hst6 : St w6 k (w.heap.size + 2) w6.heap.size f (L ++ [⟨db, x, ts⟩]) (some mb) D' (N + 1)) (hL : L.length ≤ 65536) (u19 u20 : Value)
    (hns6 : w6.ownsRow B 27 1 u19 L.length (nRow L L.length)) (hds6 : w6.ownsRow B 60 86 u20 L.length (dRow k L L.length)) (hw6 : Below w.heap.size w w6) (hw6s : w.heap.size ≤ w6.heap.size) (hB : Below w6.heap.size w6 wr) (s0 s1 s2 s3 s4 s5 s6 s7 s8 s9 s10 s11 s12 s13 s14 s16 s17 s18 s21 s22 s24 s25 s26 s27 s28 s29 s30 s31 s32 s34 s35 s36 s37 s38 s39 s40 s41 s42 s43 s44 s45 s46 s47 s48 s49 s50 s51 s52 s53 s54 s55 s56 s57 s58 s59 s60 s61 s62 s63 s64 s65 s66 s67 s68 s69 s70 s71 s72 s73 s74 s75 s76 s77 s78 s79 s80 s81 s82 s83 s84 s85 s86 s87 s88 s89 s90 s91 s92 s93 s94 s95 s96 s97 s98 s99 s100 s101 s102 s103 s104 s105 s106 s107 s108 s109 s110 s111 s112 s113 s114 s115 s116 s117 s118 s119 s120 s121 s122 s123 s124 s125 s126 s127 s128 s129 s130 s131 s132 s133 s134 s135 s136 s137 s138 s139 s140 s141 s142 s143 s144 s145 s146 s147 s148 s149 s150 s151 s152 s153 s154 s155 s156 s157 s158 s159 s160 s161 s162 s163 s164 s165 s166 s167 s168 s169 s170 s171 s172 s173 s174 s175 s176 s177 s178 s179 s180 s181 s182 s183 s184 s185 s186 s187 s188 s189 s190 s191 s192 s193 s194 s195 s196 s197 s198 s199 s200 s201 s202 s203 s204 s205 s206 s207 s208 s209 s210 s211 s212 s213 s214 s215 s216 s217 s218 s219 s220 s221 s222 s223 s224 s225 s226 s227 s228 s229 s230 s231 s232 s233 s234 s235 s236 s237 s238 s239 s240 s241 s242 s243 s244 s245 s246 s247 s248 s249 s250 s251 s252 s253 s254 s255 s256 s257 s258 s259 s260 s261 s262 s263 s264 s265 s266 s267 s268 s269 s270 s271 s272 s273 s274 s275 s276 s277 s278 s279 s280 s281 s282 s283 s284 s285 s286 s287 s288 s289 s290 s291 s292 s293 s294 s295 s296 s297 s298 s299 s300 s301 s302 s303 s304 s305 s306 s307 s308 s309 s310 s311 s312 s313 s314 s315 : Value) :
    Code.wp Yba.prog (tailAt 62) (bodyPost Yba.prog Yba.f3 fun e w' => e = .returned (.bool true) ∧ Below w.heap.size w w') ⟨#[s0, s1, s2, s3, s4, s5, s6, s7, s8, s9, s10, s11, s12, s13, s14, .pointer (some ⟨f, 0, none⟩), s16, s17, s18, u19, u20, s21, s22, vp (hd L), s24, s25, s26, s27, s28, s29, s30, s31, s32, .pointer (some ⟨db, 0, none⟩), s34, s35, s36, s37, s38, s39, s40, s41, s42, s43, s44, s45, s46, s47, s48, s49, s50, s51, s52, s53, s54, s55, s56, s57, s58, s59, s60, s61, s62, s63, s64, s65, s66, s67, s68, s69, s70, s71, s72, s73, s74, s75, s76, s77, s78, s79, s80, s81, s82, s83, s84, s85, s86, s87, s88, s89, s90, s91, s92, s93, s94, s95, s96, s97, s98, s99, s100, s101, s102, s103, s104, s105, s106, s107, s108, s109, s110, s111, s112, s113, s114, s115, s116, s117, s118, s119, s120, s121, s122, s123, s124, s125, s126, s127, s128, s129, s130, s131, s132, s133, s134, s135, s136, s137, s138, s139, s140, s141, s142, s143, s144, s145, s146, s147, s148, s149, s150, s151, s152, s153, s154, s155, s156, s157, s158, s159, s160, s161, s162, s163, s164, s165, s166, s167, s168, s169, s170, s171, s172, s173, s174, s175, s176, s177, s178, s179, s180, s181, s182, s183, s184, s185, s186, s187, s188, s189, s190, s191, s192, s193, s194, s195, s196, s197, s198, s199, s200, s201, s202, s203, s204, s205, s206, s207, s208, s209, s210, s211, s212, s213, s214, s215, s216, s217, s218, s219, s220, s221, s222, s223, s224, s225, s226, s227, s228, s229, s230, s231, s232, s233, s234, s235, s236, s237, s238, s239, s240, s241, s242, s243, s244, s245, s246, s247, s248, s249, s250, s251, s252, s253, s254, s255, s256, s257, s258, s259, s260, s261, s262, s263, s264, s265, s266, s267, s268, s269, s270, s271, s272, s273, s274, s275, s276, s277, s278, s279, s280, s281, s282, s283, s284, s285, s286, s287, s288, s289, s290, s291, s292, s293, s294, s295, s296, s297, s298, s299, s300, s301, s302, s303, s304, s305, s306, s307, s308, s309, s310, s311, s312, s313, s314, s315], []⟩ wr := by
  conv => arg 2; whnf
  have hstR : St wr k (w.heap.size + 2) w6.heap.size f (L ++ [⟨db, x, ts⟩]) (some mb) D' (N + 1) := hst6.at (B := w6.heap.size) hB.block (Nat.le_refl _) (Nat.le_refl _)
  have hfsR := hstR.fs
  have hndR := hstR.node
  clear hstR
  have hnP := nePP db
  have hnV := neVV (hd L)
  have hgV := fun op x y => guardVV op x y (hd L)
  have heN := eq27 (hd L)
  have hgN := guard27 .eql (.tmp 263) (.const (.pointer none)) (hd L)
  go_upto_if 264 with (first
    | (refine wpList_is (.load 27 (.tmp 259)) rfl ?_; refine wpList_load_cell rfl 27 (.tmp 259) rfl f 2 rfl _ _ hfsR _ Yba.underlying27 rfl (.pointer (some ⟨db, 0, none⟩)) (by rw [fc2, lt_snoc]; rfl) ?_))
  go_cut [] (fun wx => wx = wr)
  case first =>
    by_cases hL0 : L = []
    · have hb0' : (hd L).isNone = true := by rw [(hd_nil_iff L).2 hL0]; rfl
      have HL : Hid (L = []) := hL0
      simp only [hb0']
      clear hL0 hb0' heN hgN hnV hgV
      go_wp2_with (first
        | (refine wpList_is (.load 27 (.tmp 267)) rfl ?_; refine wpList_load_cell rfl 27 (.tmp 267) rfl f 1 rfl _ _ hfsR _ Yba.underlying27 rfl (.pointer (some ⟨db, 0, none⟩)) (by rw [fc1, hd_snoc, if_pos (show L = [] from HL)]; rfl) ?_))
      go_meet
      case rel => rfl
    · have hb0' : (hd L).isNone = false := by
        cases h0 : hd L with
        | none => exact absurd ((hd_nil_iff L).1 h0) hL0
        | some b => rfl
      have HL : Hid (¬ L = []) := hL0
      simp only [hb0']
      clear hL0 hb0' heN hgN
      go_wp2_with (first
        | (refine wpList_is (.load 27 (.tmp 273)) rfl ?_; refine wpList_load_cell rfl 27 (.tmp 273) rfl f 1 rfl _ _ hfsR _ Yba.underlying27 rfl (vp (hd L)) (by rw [fc1, hd_snoc, if_neg (show ¬ L = [] from HL)]) ?_))
      go_meet
      case rel => rfl
  case rest =>
    subst hcut
    clear hnV hgV heN hgN
    obtain ⟨a19, c19, rfl, hg19⟩ := own_form hns6
    obtain ⟨a20, c20, rfl, hg20⟩ := own_form hds6
    refine by_K (c := ?cc) (Q := ?QQ) ?hr ?ht
    case hr => assumption
    exact tail69 hk w w6 _ f db mb B N x ts D' a19 a20 c19 c20 L hst6 hL hns6 hds6 hw6 hw6s hB _ _ _ _ _ _ _ _ _ _ _ _ _ _ _ _ _ _ _ _ _ _ _ _ _ _ _ _ _ _ _ _ _ _ _ _ _ _ _ _ _ _ _ _ _ _ _ _ _ _ _ _ _ _ _ _ _ _ _ _ _ _ _ _ _ _ _ _ _ _ _ _ _ _ _ _ _ _ _ _ _ _ _ _ _ _ _ _ _ _ _ _ _ _ _ _ _ _ _ _ _ _ _ _ _ _ _ _ _ _ _ _ _ _ _ _ _ _ _ _ _ _ _ _ _ _ _ _ _ _ _ _ _ _ _ _ _ _ _ _ _ _ _ _ _ _ _ _ _ _ _ _ _ _ _ _ _ _ _ _ _ _ _ _ _ _ _ _ _ _ _ _ _ _ _ _ _ _ _ _ _ _ _ _ _ _ _ _ _ _ _ _ _ _ _ _ _ _ _ _ _ _ _ _ _ _ _ _ _ _ _ _ _ _ _ _ _ _ _ _ _ _ _ _ _ _ _ _ _ _ _ _ _ _ _ _ _ _ _ _ _ _ _ _ _ _ _ _ _ _ _ _ _ _ _ _ _ _ _ _ _ _ _ _ _ _ _ _ _ _ _ _ _ _ _ _ _ _ _ _ _ _ _ _ _ _ _ _ _ _ _ _ _ _ _ _ _ _ _ _ _ _ _ _ _ _ _ _ _ _ _ _

end Go.Proofs.Ybulkdsrg
