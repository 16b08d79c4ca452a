/-
  LawS5970AWhole: the stretch behind Push (from region 49 on).
-/
import Derived.Test.YbulkdspqAT53
namespace Go.Proofs.Ybulkdspq
open Go.RowKit
set_option linter.unusedSimpArgs false
set_option linter.unusedVariables false

set_option maxRecDepth 1000000 in
set_option maxHeartbeats 8000000 in
theorem tail49 (w wz : World) (a1 a2 a3 : Option Addr) (n1 c10 n2 c20 n3 c30 sb nb k1 e1 k2 e2 k3 e3 lb cb tb ib mb vb p38 g1 g2 gh : Nat) (ms rs : List Int) (hd : List Hd) (sB sf su uB : Int) (hB : Below w.heap.size w wz) (hBs : w.heap.size ≤ wz.heap.size) (hsm : n1 + n2 + n3 ≤ 8192) (l1 : ms.length = n1) (l2 : rs.length = n2) (l3 : hd.length = n3) (r1 : Rd1 w a1 ms) (r2 : Rd1 w a2 rs) (r3 : Rd3 w a3 hd)
    (z1 : a1 = none → n1 = 0 ∧ c10 = 0) (z2 : a2 = none → n2 = 0 ∧ c20 = 0) (hset : wz.heap[sb]? = some (.cells (setc (.slice (some ⟨g1, 0, none⟩) n1 n1) (.slice (some ⟨g2, 0, none⟩) n2 n2)).toArray 34 (0, 0))) (b1 : Blk idc wz g1 26 ms) (b2 : Blk idc wz g2 26 rs) (hnews : wz.heap[nb]? = some (.cells (newsc (.slice (some ⟨gh, 0, none⟩) n3 n3)).toArray 41 (0, 0))) (bh : Blk tc wz gh 45 (hd.map tid))
    (o1 : wz.ownsRow 0 26 20 (.slice (some ⟨k1, 0, none⟩) n1 e1) n1 (ms.flatMap idc)) (o2 : wz.ownsRow 0 26 20 (.slice (some ⟨k2, 0, none⟩) n2 e2) n2 (rs.flatMap idc)) (o3 : wz.ownsRow 0 45 23 (.slice (some ⟨k3, 0, none⟩) n3 e3) n3 ((hd.map tid).flatMap tc)) (h38 : wz.heap[p38]? = some (.cells (idc sB).toArray 26 (0, 0)))
    (f1 : ∀ b ∈ ms, (Lit.int .u8 b).wf = true) (f2 : ∀ b ∈ rs, (Lit.int .u8 b).wf = true) (f3 : ∀ h ∈ hd, (Lit.int .u8 h.b).wf = true) (fs : (Lit.int .u8 sB).wf = true) (res : Res wz n1 n2 lb cb tb ib mb vb ms rs (hd.map tid) uB sB sf su) (s3 s5 s8 s9 s10 s11 s12 s13 s14 s15 s16 s18 s19 s20 s21 s23 s24 s29 s30 s31 s37 s39 s40 s41 s42 s43 s44 s45 s46 s47 s48 s49 s50 s51 s52 s53 s54 s55 s56 s57 s58 s59 s60 s61 s62 s63 s64 s65 s66 s67 s68 s69 s70 s71 s72 s73 s74 s75 s76 s77 s78 s79 s80 s81 s82 s83 s84 s85 s86 s87 s88 s89 s90 s91 s92 s93 s94 s95 s96 s97 s98 s99 s100 s101 s102 s103 s104 s105 s106 s107 s108 s109 s110 s111 s112 s113 s114 s115 s116 s117 s118 s119 s120 s121 s122 s123 s124 s125 s126 s127 s128 s129 s130 s131 s132 s133 s134 s135 s136 s137 s138 s139 s140 s141 s142 s143 s144 s145 s146 s147 s148 s149 s150 s151 s152 s153 s154 s155 s156 s157 s158 s159 s160 s161 s162 s163 s164 s165 s166 s167 s168 s169 s170 s171 s172 s173 s174 s175 s176 s177 s178 s179 s180 s181 s182 s183 s184 s185 s186 s187 s188 s189 s190 s191 s192 s193 s194 s195 s196 s197 s198 s199 s200 s201 s202 s203 s204 s205 s206 s207 s208 s209 s210 s211 s212 s213 s214 s215 s216 s217 s218 s219 s220 s221 s222 s223 s224 s225 s226 s227 s228 s229 s230 s231 s232 s233 s234 s235 s236 s237 s238 s239 s240 s241 s242 s243 s244 s245 s246 s247 s248 s249 s250 s251 s252 s253 s254 s255 s256 s257 s258 s259 s260 s261 s262 s263 s264 s265 s266 s267 s268 s269 s270 s271 s272 s273 s274 s275 s276 s277 s278 s279 s280 s281 s282 s283 s284 s285 s286 s287 s288 s289 s290 s291 s292 s293 s294 s295 s296 s297 s298 s299 s300 s301 s302 s303 s304 s305 s306 s307 s308 s309 s310 s311 s312 s313 s314 s315 s316 s317 s318 s319 s320 s321 s322 s323 s324 s325 s326 s327 s328 s329 s330 s331 s332 s333 s334 s335 s336 s337 s338 s339 s340 s341 s342 s343 s344 s345 s346 s347 s348 s349 s350 s351 s352 s353 s354 s355 s356 s357 s358 s359 s360 s361 s362 s363 s364 s365 s366 s367 s368 s369 s370 s371 s372 s373 s374 s375 s376 s377 s378 s379 s380 s381 s382 s383 s384 s385 s386 s387 s388 s389 s390 s391 s392 s393 s394 s395 s396 s397 s398 s399 s400 s401 s402 s403 s404 : Value) :
    Code.wp Yba.prog (tailAt 49) (bodyPost Yba.prog Yba.f3 fun e w' => e = .returned (.bool true) ∧ Below w.heap.size w w') ⟨#[.slice a1 n1 c10, .slice a2 n2 c20, .slice a3 n3 c30, s3, .int .i64 sf, s5, .int .i64 su, .int .u8 uB, s8, s9, s10, s11, s12, s13, s14, s15, s16, .pointer (some ⟨sb, 0, none⟩), s18, s19, s20, s21, .pointer (some ⟨nb, 0, none⟩), s23, s24, .slice (some ⟨k1, 0, none⟩) n1 e1, .slice (some ⟨k2, 0, none⟩) n2 e2, .slice (some ⟨k3, 0, none⟩) n3 e3, .pointer (some ⟨lb, 0, none⟩), s29, s30, s31, .pointer (some ⟨cb, 0, none⟩), .pointer (some ⟨tb, 0, none⟩), .pointer (some ⟨ib, 0, none⟩), .pointer (some ⟨mb, 0, none⟩), .pointer (some ⟨vb, 0, none⟩), s37, .pointer (some ⟨p38, 0, none⟩), s39, s40, s41, s42, s43, s44, s45, s46, s47, s48, s49, s50, s51, s52, s53, s54, s55, s56, s57, s58, s59, s60, s61, s62, s63, s64, s65, s66, s67, s68, s69, s70, s71, s72, s73, s74, s75, s76, s77, s78, s79, s80, s81, s82, s83, s84, s85, s86, s87, s88, s89, s90, s91, s92, s93, s94, s95, s96, s97, s98, s99, s100, s101, s102, s103, s104, s105, s106, s107, s108, s109, s110, s111, s112, s113, s114, s115, s116, s117, s118, s119, s120, s121, s122, s123, s124, s125, s126, s127, s128, s129, s130, s131, s132, s133, s134, s135, s136, s137, s138, s139, s140, s141, s142, s143, s144, s145, s146, s147, s148, s149, s150, s151, s152, s153, s154, s155, s156, s157, s158, s159, s160, s161, s162, s163, s164, s165, s166, s167, s168, s169, s170, s171, s172, s173, s174, s175, s176, s177, s178, s179, s180, s181, s182, s183, s184, s185, s186, s187, s188, s189, s190, s191, s192, s193, s194, s195, s196, s197, s198, s199, s200, s201, s202, s203, s204, s205, s206, s207, s208, s209, s210, s211, s212, s213, s214, s215, s216, s217, s218, s219, s220, s221, s222, s223, s224, s225, s226, s227, s228, s229, s230, s231, s232, s233, s234, s235, s236, s237, s238, s239, s240, s241, s242, s243, s244, s245, s246, s247, s248, s249, s250, s251, s252, s253, s254, s255, s256, s257, s258, s259, s260, s261, s262, s263, s264, s265, s266, s267, s268, s269, s270, s271, s272, s273, s274, s275, s276, s277, s278, s279, s280, s281, s282, s283, s284, s285, s286, s287, s288, s289, s290, s291, s292, s293, s294, s295, s296, s297, s298, s299, s300, s301, s302, s303, s304, s305, s306, s307, s308, s309, s310, s311, s312, s313, s314, s315, s316, s317, s318, s319, s320, s321, s322, s323, s324, s325, s326, s327, s328, s329, s330, s331, s332, s333, s334, s335, s336, s337, s338, s339, s340, s341, s342, s343, s344, s345, s346, s347, s348, s349, s350, s351, s352, s353, s354, s355, s356, s357, s358, s359, s360, s361, s362, s363, s364, s365, s366, s367, s368, s369, s370, s371, s372, s373, s374, s375, s376, s377, s378, s379, s380, s381, s382, s383, s384, s385, s386, s387, s388, s389, s390, s391, s392, s393, s394, s395, s396, s397, s398, s399, s400, s401, s402, s403, s404], []⟩ wz := by
  conv => arg 2; whnf
  obtain ⟨i26, hi26, _, hs26, _⟩ := info_parts info26
  obtain ⟨i3, hi3, _, hs3, _⟩ := info_parts info3
  obtain ⟨i54, hi54, _, hs54, _⟩ := info_parts info54
  have lg1 : g1 < wz.heap.size := (Array.getElem?_eq_some_iff.1 b1).1
  have lg2 : g2 < wz.heap.size := (Array.getElem?_eq_some_iff.1 b2).1
  have lgh : gh < wz.heap.size := (Array.getElem?_eq_some_iff.1 bh).1
  have lk1 : k1 < wz.heap.size := (own_base o1 rfl).2
  have lk2 : k2 < wz.heap.size := (own_base o2 rfl).2
  have lk3 : k3 < wz.heap.size := (own_base o3 rfl).2
  go_wp2_with (refine wpList_is (.load 31 (.tmp 242)) rfl ?_; refine wpList_load_cell rfl 31 (.tmp 242) rfl sb 24 rfl _ _ hset _ Yba.underlying31 rfl _ (setc_ids _ _) ?_)
  refine (equal13_any l1 (by omega) (fun _ => lg1) (fun _ => lk1) (fun i x hx => b1.range idc_len hx) (fun i x hx => own_range o1 idc_len hx) f1).mono ?_
  rintro e w1 ⟨rfl, q1⟩
  have hc1 : w1.cell? ⟨sb, 26, none⟩ = some (.slice (some ⟨g2, 0, none⟩) n2 n2) := cellk (keep_blk q1 hset (by simp)) (setc_ref _ _)
  have s1 := q1.size
  go_wp2_with fail
  refine (equal13_any l2 (by omega) (fun _ => by omega) (fun _ => by omega) (fun i x hx => (b2.kept q1 (by simp)).range idc_len hx) (fun i x hx => own_range (own_kept o2 q1 (by simp)) idc_len hx) f2).mono ?_
  rintro e w2 ⟨rfl, q2'⟩
  have q2 := grown_trans q1 q2'
  have s2 := q2.size
  have hc2 : w2.cell? ⟨nb, 1, none⟩ = some (.slice (some ⟨gh, 0, none⟩) n3 n3) := cellk (keep_blk q2 hnews (by simp)) (newsc_heard _)
  clear hc1 q2' q1 s1
  go_wp2_with fail
  refine (equal14_any (by rw [List.length_map]; exact l3) (by omega) (fun _ => by omega) (fun _ => by omega) (fun i x hx => (bh.kept q2 (by simp)).range tc_len hx) (fun i x hx => own_range (own_kept o3 q2 (by simp)) tc_len hx) (fun t ht => by obtain ⟨h, hh, rfl⟩ := List.mem_map.1 ht; exact f3 h hh)).mono ?_
  rintro e w3 ⟨rfl, q3'⟩
  have q3 := grown_trans q2 q3'
  have hB3 : Below w.heap.size w w3 := hB.grown q3 hBs (by simp)
  have hBs3 : w.heap.size ≤ w3.heap.size := Nat.le_trans hBs q3.size
  have r13 := rd1_at r1 hB3
  have r23 := rd1_at r2 hB3
  clear hc2 q2 q3' s2 b1 b2 bh o1 o2 o3 hset hnews lg1 lg2 lgh lk1 lk2 lk3
  rcases res with ⟨hh, hcb, hlb⟩ | ⟨hh, hcb, htb, g1', c1', g2', c2', g3', c3', lv, mg⟩
  · obtain ⟨ys, rfl⟩ : ∃ ys, ms = uB :: ys := by
      cases ms with
      | nil => simp [hands] at hh
      | cons x ys => simp [hands] at hh; exact ⟨ys, by rw [hh]⟩
    obtain ⟨b, o, rfl, _, hc⟩ := r13 0 uB rfl
    rw [Nat.add_zero] at hc
    have hn1 : n1 = ys.length + 1 := by rw [← l1]; rfl
    have hn1' : (0 : Int) < (n1 : Int) := by omega
    have hcl := cell0 (keep_blk q3 hlb (by simp))
    have hcc := keep_blk q3 hcb (by simp)
    clear hh r13 r23 l1 hn1
    go_wp2_with (refine wpList_is (.load 3 (.tmp 32)) rfl ?_; refine wpList_load_cell rfl 3 (.tmp 32) rfl cb 0 rfl _ _ hcc _ Yba.underlying3 rfl _ rfl ?_)
    refine bodyPost_ret (v := .bool true) (by kernel_rfl) rfl ⟨rfl, hB3⟩
  · have hnot : ∀ x ys, ms = x :: ys → ¬ x = uB := fun x ys e => by
      subst e
      simp [hands] at hh
      exact hh
    have hcc := keep_blk q3 hcb (by simp)
    have mg3 := mg.kept q3
    have hct3 := keep_blk q3 htb (by simp)
    have h383 := keep_blk q3 h38 (by simp)
    have MG3 : Hid (MG w3 (n1 + n2) lb ib mb vb g1' c1' g2' c2' g3' c3' lv (ms ++ rs) (hd.map tid) sB sf) := mg3
    clear hh hcb htb mg mg3 h38 q3 hB hBs
    have hfirst : (n1 = 0 ∧ ms = []) ∨ ∃ x b o, ¬ x = uB ∧ a1 = some ⟨b, o, none⟩ ∧ w3.cell? ⟨b, o, none⟩ = some (.int .u8 x) ∧ 0 < n1 := by
      cases ms with
      | nil => exact .inl ⟨by rw [← l1]; rfl, rfl⟩
      | cons x ys =>
        obtain ⟨b, o, e, _, hc⟩ := r13 0 x rfl
        rw [Nat.add_zero] at hc
        exact .inr ⟨x, b, o, hnot x ys rfl, e, hc, by rw [← l1]; simp⟩
    clear hnot
    rcases hfirst with ⟨hn0, hms⟩ | ⟨x, b, o, hx, rfl, hc, hn0⟩
    · have hn0' : ¬ (0 : Int) < (n1 : Int) := by omega
      clear hms hn0
      go_upto_if 274 with fail
      go_step
      go_step
      go_step
      refine by_K (c := ?cc) (Q := ?QQ) ?hr ?ht
      case hr => assumption
      exact tail53 w w3 _ _ _ n1 c10 n2 c20 n3 c30 lb cb tb ib mb vb p38 g1' c1' g2' c2' g3' c3' lv ms rs hd sB sf su hB3 hBs3 hsm l1 l2 l3 r1 r2 r3 z1 z2 h383 f1 f2 fs hcc hct3 MG3 _ _ _ _ _ _ _ _ _ _ _ _ _ _ _ _ _ _ _ _ _ _ _ _ _ _ _ _ _ _ _ _ _ _ _ _ _ _ _ _ _ _ _ _ _ _ _ _ _ _ _ _ _ _ _ _ _ _ _ _ _ _ _ _ _ _ _ _ _ _ _ _ _ _ _ _ _ _ _ _ _ _ _ _ _ _ _ _ _ _ _ _ _ _ _ _ _ _ _ _ _ _ _ _ _ _ _ _ _ _ _ _ _ _ _ _ _ _ _ _ _ _ _ _ _ _ _ _ _ _ _ _ _ _ _ _ _ _ _ _ _ _ _ _ _ _ _ _ _ _ _ _ _ _ _ _ _ _ _ _ _ _ _ _ _ _ _ _ _ _ _ _ _ _ _ _ _ _ _ _ _ _ _ _ _ _ _ _ _ _ _ _ _ _ _ _ _ _ _ _ _ _ _ _ _ _ _ _ _ _ _ _ _ _ _ _ _ _ _ _ _ _ _ _ _ _ _ _ _ _ _ _ _ _ _ _ _ _ _ _ _ _ _ _ _ _ _ _ _ _ _ _ _ _ _ _ _ _ _ _ _ _ _ _ _ _ _ _ _ _ _ _ _ _ _ _ _ _ _ _ _ _ _ _ _ _ _ _ _ _ _ _ _ _ _ _ _ _ _ _ _ _ _ _ _ _ _ _ _ _ _ _ _ _ _ _ _ _ _ _ _ _ _ _ _ _ _ _ _ _ _ _ _ _ _ _ _ _ _ _ _ _ _ _ _ _ _ _ _ _ _ _ _ _ _ _ _ _ _ _ _ _ _ _ _ _ _ _ _ _ _ _ _ _ _ _ _ _ _ _ _ _ _ _ _ _ _ _ _ _ _ _ _
    · have hn0' : (0 : Int) < (n1 : Int) := by omega
      go_upto_if 274 with fail
      go_step
      go_step
      go_step
      refine by_K (c := ?cc2) (Q := ?QQ2) ?hr2 ?ht2
      case hr2 => assumption
      exact tail53 w w3 _ _ _ n1 c10 n2 c20 n3 c30 lb cb tb ib mb vb p38 g1' c1' g2' c2' g3' c3' lv ms rs hd sB sf su hB3 hBs3 hsm l1 l2 l3 r1 r2 r3 z1 z2 h383 f1 f2 fs hcc hct3 MG3 _ _ _ _ _ _ _ _ _ _ _ _ _ _ _ _ _ _ _ _ _ _ _ _ _ _ _ _ _ _ _ _ _ _ _ _ _ _ _ _ _ _ _ _ _ _ _ _ _ _ _ _ _ _ _ _ _ _ _ _ _ _ _ _ _ _ _ _ _ _ _ _ _ _ _ _ _ _ _ _ _ _ _ _ _ _ _ _ _ _ _ _ _ _ _ _ _ _ _ _ _ _ _ _ _ _ _ _ _ _ _ _ _ _ _ _ _ _ _ _ _ _ _ _ _ _ _ _ _ _ _ _ _ _ _ _ _ _ _ _ _ _ _ _ _ _ _ _ _ _ _ _ _ _ _ _ _ _ _ _ _ _ _ _ _ _ _ _ _ _ _ _ _ _ _ _ _ _ _ _ _ _ _ _ _ _ _ _ _ _ _ _ _ _ _ _ _ _ _ _ _ _ _ _ _ _ _ _ _ _ _ _ _ _ _ _ _ _ _ _ _ _ _ _ _ _ _ _ _ _ _ _ _ _ _ _ _ _ _ _ _ _ _ _ _ _ _ _ _ _ _ _ _ _ _ _ _ _ _ _ _ _ _ _ _ _ _ _ _ _ _ _ _ _ _ _ _ _ _ _ _ _ _ _ _ _ _ _ _ _ _ _ _ _ _ _ _ _ _ _ _ _ _ _ _ _ _ _ _ _ _ _ _ _ _ _ _ _ _ _ _ _ _ _ _ _ _ _ _ _ _ _ _ _ _ _ _ _ _ _ _ _ _ _ _ _ _ _ _ _ _ _ _ _ _ _ _ _ _ _ _ _ _ _ _ _ _ _ _ _ _ _ _ _ _ _ _ _ _ _ _ _ _ _ _ _ _ _ _ _ _ _ _

end Go.Proofs.Ybulkdspq
