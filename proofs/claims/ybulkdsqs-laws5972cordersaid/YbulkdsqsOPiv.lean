/-
  LawS5972COrder: slices.order2Ordered, medianOrdered, medianAdjacentOrdered, choosePivotOrdered at uint64.
-/
import Derived.Test.YbulkdsqsOSt
import Derived.Sort.LotD4
namespace Go.Proofs.Ybulkdsqs
open Go.RowKit Go.Sort
set_option linter.unusedSimpArgs false
set_option linter.unusedVariables false

/-- One cell of the call's own that counts. -/
structure Ct (b : Nat) (k : IntKind) (s : Nat) (W : World) : Prop where
  cell : W.cell? ⟨b, 0, none⟩ = some (.int k s)
  frz : W.frozen? ⟨b, 0, none⟩ = false
theorem Ct.drewN {b s : Nat} {k : IntKind} {W : World} (h : Ct b k s W) (q : Nat) : Ct b k s (W.drewN q) := ⟨h.cell, h.frz⟩
theorem Ct.set {b s : Nat} {k : IntKind} {W : World} (h : Ct b k s W) (t : Nat) : Ct b k t (W.setCell ⟨b, 0, none⟩ (.int k t)) := ⟨World.cell?_setCell_same _ _ _ h.cell, by rw [World.frozen?_setCell]; exact h.frz⟩

set_option maxHeartbeats 1600000 in
set_option maxRecDepth 1000000 in
theorem ord32 (w0 : World) (g o n c a b sb s : Nat) (d : Array Int) (w : World) (h : St w0 g o n d w) (hC : Ct sb .i64 s w) (hsb : w0.heap.size ≤ sb) (ha : a < n) (hb : b < n) (hs : s < 4611686018427387904) {x y t : Nat} (hr : order2 ltInt d a b s = (x, y, t)) :
    Calls Yba.prog 32 #[.slice (some ⟨g, o, none⟩) n c, .int .i64 a, .int .i64 b, .pointer (some ⟨sb, 0, none⟩)] w fun e w' => e = .returned (.tuple #[.int .i64 x, .int .i64 y]) ∧ St w0 g o n d w' ∧ Ct sb .i64 t w' := by
  obtain ⟨G, hG, hc, hf⟩ := h.sees
  have cs := hC.cell
  have fs := hC.frz
  have HR : Aside _ := hr
  clear hr
  go_enter Yba.func32, Yba.ntmps32
  go_wp2_with fail
  go_quiet (first | (go_at_call 21; refine Calls.quiet_of_same (lss _ _ _)))
  go_wp2_with fail
  · have hl : ltInt (G b) (G a) = true := by assumption
    have e := HR.out
    rw [order2, ← hG.out, ← hG.out, if_pos hl] at e
    obtain ⟨rfl, rfl, rfl⟩ : b = x ∧ a = y ∧ s + 1 = t := by simpa using e
    refine bodyPost_ret (v := .tuple #[.int .i64 b, .int .i64 a]) (by kernel_rfl) rfl ⟨rfl, (h.drewN nq).other hsb _, ?_⟩
    exact (hC.drewN nq).set (s + 1)
  · have hl : ltInt (G b) (G a) = false := by assumption
    have e := HR.out
    rw [order2, ← hG.out, ← hG.out, if_neg (by rw [hl]; simp)] at e
    obtain ⟨rfl, rfl, rfl⟩ : a = x ∧ b = y ∧ s = t := by simpa using e
    refine bodyPost_ret (v := .tuple #[.int .i64 a, .int .i64 b]) (by kernel_rfl) rfl ⟨rfl, h.drewN nq, hC.drewN nq⟩

theorem ord_in (d : Array Int) {a b s x y t n : Nat} (ha : a < n) (hb : b < n) (h : order2 ltInt d a b s = (x, y, t)) : x < n ∧ y < n ∧ t ≤ s + 1 := by
  have h1 := order2_mem ltInt d a b s
  have h2 := order2_count ltInt d a b s
  rw [h] at h1 h2
  simp only at h1 h2
  omega

set_option maxHeartbeats 1600000 in
set_option maxRecDepth 1000000 in
theorem med30 (w0 : World) (g o n c a b m sb s : Nat) (d : Array Int) (w : World) (h : St w0 g o n d w) (hC : Ct sb .i64 s w) (hsb : w0.heap.size ≤ sb) (ha : a < n) (hb : b < n) (hm : m < n) (hs : s + 3 < 4611686018427387904) {x t : Nat} (hr : median ltInt d a b m s = (x, t)) :
    Calls Yba.prog 30 #[.slice (some ⟨g, o, none⟩) n c, .int .i64 a, .int .i64 b, .int .i64 m, .pointer (some ⟨sb, 0, none⟩)] w fun e w' => e = .returned (.int .i64 x) ∧ St w0 g o n d w' ∧ Ct sb .i64 t w' := by
  obtain ⟨x1, y1, t1, h1⟩ : ∃ x y t, order2 ltInt d a b s = (x, y, t) := ⟨_, _, _, rfl⟩
  obtain ⟨x2, y2, t2, h2⟩ : ∃ x y t, order2 ltInt d y1 m t1 = (x, y, t) := ⟨_, _, _, rfl⟩
  obtain ⟨x3, y3, t3, h3⟩ : ∃ x y t, order2 ltInt d x1 x2 t2 = (x, y, t) := ⟨_, _, _, rfl⟩
  have b1 := ord_in d ha hb h1
  have b2 := ord_in d b1.2.1 hm h2
  have b3 := ord_in d b1.1 b2.1 h3
  have e : median ltInt d a b m s = (y3, t3) := by simp only [median, h1, h2, h3]
  rw [e] at hr
  obtain ⟨rfl, rfl⟩ : y3 = x ∧ t3 = t := by simpa using hr
  clear hr e
  have H1 : Aside _ := h1
  have H2 : Aside _ := h2
  have H3 : Aside _ := h3
  clear h1 h2 h3
  go_enter Yba.func30, Yba.ntmps30
  go_wp2_with fail
  refine (ord32 w0 g o n c a b sb s d _ h hC hsb ha hb (by omega) H1.out).mono ?_
  rintro e w1 ⟨rfl, s1, c1⟩
  go_wp2_with fail
  refine (ord32 w0 g o n c y1 m sb t1 d _ s1 c1 hsb (by omega) hm (by omega) H2.out).mono ?_
  rintro e w2 ⟨rfl, s2, c2⟩
  go_wp2_with fail
  refine (ord32 w0 g o n c x1 x2 sb t2 d _ s2 c2 hsb (by omega) (by omega) (by omega) H3.out).mono ?_
  rintro e w3 ⟨rfl, s3, c3⟩
  go_wp2_with fail
  refine bodyPost_ret (v := .int .i64 y3) (by kernel_rfl) rfl ⟨rfl, s3, c3⟩

set_option maxHeartbeats 1600000 in
set_option maxRecDepth 1000000 in
theorem adj29 (w0 : World) (g o n c a sb s : Nat) (d : Array Int) (w : World) (h : St w0 g o n d w) (hC : Ct sb .i64 s w) (hsb : w0.heap.size ≤ sb) (ha1 : 1 ≤ a) (ha : a + 1 < n) (hn : n < 4611686018427387904) (hs : s + 3 < 4611686018427387904) {x t : Nat} (hr : medianAdjacent ltInt d a s = (x, t)) :
    Calls Yba.prog 29 #[.slice (some ⟨g, o, none⟩) n c, .int .i64 a, .pointer (some ⟨sb, 0, none⟩)] w fun e w' => e = .returned (.int .i64 x) ∧ St w0 g o n d w' ∧ Ct sb .i64 t w' := by
  have hcall := med30 w0 g o n c (a - 1) a (a + 1) sb s d w h hC hsb (by omega) (by omega) ha hs hr
  rw [show ((a - 1 : Nat) : Int) = (a : Int) - 1 by omega, show ((a + 1 : Nat) : Int) = (a : Int) + 1 by omega] at hcall
  clear hr
  go_enter Yba.func29, Yba.ntmps29
  go_wp2_with fail
  refine hcall.mono ?_
  rintro e w1 ⟨rfl, s1, c1⟩
  go_wp2_with fail
  refine bodyPost_ret (v := .int .i64 x) (by kernel_rfl) rfl ⟨rfl, s1, c1⟩

set_option maxHeartbeats 3200000 in
set_option maxRecDepth 1000000 in
theorem piv18 (w0 : World) (g o n c a b : Nat) (d : Array Int) (w : World) (h : St w0 g o n d w) (hab : a < b) (hb : b ≤ n) (hn : n < 4611686018427387904) :
    Calls Yba.prog 18 #[.slice (some ⟨g, o, none⟩) n c, .int .i64 a, .int .i64 b] w fun e w' =>
      e = .returned (.tuple #[.int .i64 (choosePivot ltInt d a b).1, .int .i64 (hintCode (choosePivot ltInt d a b).2)]) ∧ St w0 g o n d w' := by
  obtain ⟨x, t, hx⟩ : ∃ x t, rawPivot ltInt d a b = (x, t) := ⟨_, _, rfl⟩
  rw [choosePivot_eq, hx]
  simp only
  have HX : Aside (rawPivot ltInt d a b = (x, t)) := hx
  clear hx
  obtain ⟨Hc, hHc⟩ : ∃ Hc, Hc = hintCode (hintOf t) := ⟨_, rfl⟩
  rw [← hHc]
  have HHc : Aside (Hc = hintCode (hintOf t)) := hHc
  clear hHc
  obtain ⟨I, hI⟩ : ∃ I, I = a + (b - a) / 4 * 1 := ⟨_, rfl⟩
  obtain ⟨J, hJ⟩ : ∃ J, J = a + (b - a) / 4 * 2 := ⟨_, rfl⟩
  obtain ⟨K, hK⟩ : ∃ K, K = a + (b - a) / 4 * 3 := ⟨_, rfl⟩
  have eI : (a : Int) + ((b : Int) - (a : Int)).tdiv 4 = (I : Int) := by
    rw [Int.tdiv_eq_ediv_of_nonneg (by omega)]; omega
  have eJ : (a : Int) + ((b : Int) - (a : Int)).tdiv 4 * 2 = (J : Int) := by
    rw [Int.tdiv_eq_ediv_of_nonneg (by omega)]; omega
  have eK : (a : Int) + ((b : Int) - (a : Int)).tdiv 4 * 3 = (K : Int) := by
    rw [Int.tdiv_eq_ediv_of_nonneg (by omega)]; omega
  have eI' : (a : Int) + ((b : Int) - (a : Int)) / 4 = (I : Int) := by omega
  have eJ' : (a : Int) + ((b : Int) - (a : Int)) / 4 * 2 = (J : Int) := by omega
  have eK' : (a : Int) + ((b : Int) - (a : Int)) / 4 * 3 = (K : Int) := by omega
  have HI : Aside (I = a + (b - a) / 4 * 1) := hI
  have HJ : Aside (J = a + (b - a) / 4 * 2) := hJ
  have HK : Aside (K = a + (b - a) / 4 * 3) := hK
  have B1 : a ≤ I ∧ I ≤ J ∧ J ≤ K ∧ J < b := by omega
  have B8 : 8 ≤ b - a → 1 ≤ I ∧ K + 1 < b := by omega
  clear hI hJ hK
  have hL := h.le
  go_enter Yba.func18, Yba.ntmps18
  go_upto_if 32 with fail
  have h1 := h.alloc (.cells #[.int .i64 0] 3)
  have hC0 : Ct w.heap.size .i64 0 (w.alloc (.cells #[.int .i64 0] 3)) := ⟨by simp, by simp⟩
  go_cut [11] (fun v wc => v = .int .i64 x ∧ St w0 g o n d wc ∧ Ct w.heap.size .i64 t wc)
  case first =>
    by_cases h8 : 8 ≤ b - a
    · have h8z : (8 : Int) ≤ (b : Int) - (a : Int) := by omega
      have B := B8 h8
      by_cases h50 : 50 ≤ b - a
      · have h50z : (50 : Int) ≤ (b : Int) - (a : Int) := by omega
        obtain ⟨i1, s1, e1⟩ : ∃ i1 s1, medianAdjacent ltInt d I 0 = (i1, s1) := ⟨_, _, rfl⟩
        obtain ⟨j1, s2, e2⟩ : ∃ j1 s2, medianAdjacent ltInt d J s1 = (j1, s2) := ⟨_, _, rfl⟩
        obtain ⟨k1, s3, e3⟩ : ∃ k1 s3, medianAdjacent ltInt d K s2 = (k1, s3) := ⟨_, _, rfl⟩
        have e4 := HX.out
        rw [rawPivot, if_pos h8, if_pos h50, ← HI.out, ← HJ.out, ← HK.out, e1] at e4
        simp only [e2, e3] at e4
        have m1 := medianAdjacent_mem ltInt d I 0; rw [e1] at m1
        have m2 := medianAdjacent_mem ltInt d J s1; rw [e2] at m2
        have m3 := medianAdjacent_mem ltInt d K s2; rw [e3] at m3
        have n1 := medianAdjacent_count ltInt d I 0; rw [e1] at n1
        have n2 := medianAdjacent_count ltInt d J s1; rw [e2] at n2
        have n3 := medianAdjacent_count ltInt d K s2; rw [e3] at n3
        simp only at m1 m2 m3 n1 n2 n3
        have E1 : Aside _ := e1
        have E2 : Aside _ := e2
        have E3 : Aside _ := e3
        have E4 : Aside _ := e4
        have L1 : i1 < n ∧ j1 < n ∧ k1 < n := by omega
        clear e1 e2 e3 e4 m1 m2 m3
        go_wp2_with fail
        refine (adj29 w0 g o n c I w.heap.size 0 d _ h1 hC0 hL B.1 (by omega) hn (by omega) E1.out).mono ?_
        rintro e w1 ⟨rfl, t1, c1⟩
        go_wp2_with fail
        refine (adj29 w0 g o n c J w.heap.size s1 d _ t1 c1 hL (by omega) (by omega) hn (by omega) E2.out).mono ?_
        rintro e w2 ⟨rfl, t2, c2⟩
        go_wp2_with fail
        refine (adj29 w0 g o n c K w.heap.size s2 d _ t2 c2 hL (by omega) (by omega) hn (by omega) E3.out).mono ?_
        rintro e w3 ⟨rfl, t3, c3⟩
        go_wp2_with fail
        refine (med30 w0 g o n c i1 j1 k1 w.heap.size s3 d _ t3 c3 hL L1.1 L1.2.1 L1.2.2 (by omega) E4.out).mono ?_
        rintro e w4 ⟨rfl, t4, c4⟩
        go_wp2_with fail
        go_meet
        case rel => exact ⟨rfl, t4, c4⟩
      · have h50z : ¬ (50 : Int) ≤ (b : Int) - (a : Int) := by omega
        have e4 := HX.out
        rw [rawPivot, if_pos h8, if_neg h50, ← HI.out, ← HJ.out, ← HK.out] at e4
        have E4 : Aside _ := e4
        clear e4
        go_wp2_with fail
        refine (med30 w0 g o n c I J K w.heap.size 0 d _ h1 hC0 hL (by omega) (by omega) (by omega) (by omega) E4.out).mono ?_
        rintro e w4 ⟨rfl, t4, c4⟩
        go_wp2_with fail
        go_meet
        case rel => exact ⟨rfl, t4, c4⟩
    · have h8z : ¬ (8 : Int) ≤ (b : Int) - (a : Int) := by omega
      have e4 := HX.out
      rw [rawPivot, if_neg h8, ← HJ.out] at e4
      obtain ⟨rfl, rfl⟩ : J = x ∧ 0 = t := by simpa using e4
      clear e4
      go_wp2_with fail
      go_meet
      case rel => exact ⟨rfl, h1, hC0⟩
  case rest =>
    obtain ⟨rfl, hs, hC⟩ := hcut
    have hcc := hC.cell
    by_cases t0 : t = 0
    · subst t0
      have e : Aside (Hc = 1) := HHc.out
      go_wp2_with fail
      refine bodyPost_ret (v := .tuple #[.int .i64 x, .int .i64 1]) (by kernel_rfl) rfl ⟨by rw [e.out], hs⟩
    · have t0z : ¬ (t : Int) = 0 := by omega
      by_cases t12 : t = 12
      · subst t12
        have e : Aside (Hc = 2) := HHc.out
        go_wp2_with fail
        refine bodyPost_ret (v := .tuple #[.int .i64 x, .int .i64 2]) (by kernel_rfl) rfl ⟨by rw [e.out], hs⟩
      · have t12z : ¬ (t : Int) = 12 := by omega
        have e : Aside (Hc = 0) := by
          show Hc = 0
          rw [HHc.out, hintOf, if_neg t0, if_neg t12]; rfl
        go_wp2_with fail
        refine bodyPost_ret (v := .tuple #[.int .i64 x, .int .i64 0]) (by kernel_rfl) rfl ⟨by rw [e.out], hs⟩
end Go.Proofs.Ybulkdsqs
