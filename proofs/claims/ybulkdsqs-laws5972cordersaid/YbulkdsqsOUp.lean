/-
  LawS5972COrder: container/heap.up and down over *waitHeap.
-/
import Derived.Test.YbulkdsqsOMeth
namespace Go.Proofs.Ybulkdsqs
open Go.RowKit Go.Sort
set_option linter.unusedSimpArgs false
set_option linter.unusedVariables false

section
variable {w0 W : World} {hb g n c : Nat} {kf : Nat → Int} {S : List Nat} {d : Array Nat}
theorem Kx.mLen (K : Kx w0 hb g n c kf S) (h : Sp w0 g n d W) : Sem.run Yba.prog (method 226 39 (.pointer (some ⟨hb, 0, none⟩)) "Len") W = .ok (9, .slice (some ⟨g, 0, none⟩) n c) W := meth_at hb 9 "Len" _ W (by kernel_rfl) (load34 (K.cell h)) 225
theorem Kx.mLess (K : Kx w0 hb g n c kf S) (h : Sp w0 g n d W) : Sem.run Yba.prog (method 226 39 (.pointer (some ⟨hb, 0, none⟩)) "Less") W = .ok (52, .slice (some ⟨g, 0, none⟩) n c) W := meth_at hb 52 "Less" _ W (by kernel_rfl) (load34 (K.cell h)) 225
theorem Kx.mSwap (K : Kx w0 hb g n c kf S) (h : Sp w0 g n d W) : Sem.run Yba.prog (method 226 39 (.pointer (some ⟨hb, 0, none⟩)) "Swap") W = .ok (53, .slice (some ⟨g, 0, none⟩) n c) W := meth_at hb 53 "Swap" _ W (by kernel_rfl) (load34 (K.cell h)) 225
end

/-- What a step of the heap's leaves. -/
def Hd (w0 : World) (g n m : Nat) (kf : Nat → Int) (S : List Nat) (w' : World) : Prop := ∃ d : Array Nat, d.toList.Perm S ∧ Heap (ks kf d) m ∧ Sp w0 g n d w'

set_option maxHeartbeats 1600000 in
set_option maxRecDepth 1000000 in
theorem up11 {w0 : World} {hb g n c : Nat} {kf : Nat → Int} {S : List Nat} (K : Kx w0 hb g n c kf S) (d : Array Nat) (w : World) (h : Sp w0 g n d w) (hp : d.toList.Perm S) (j : Nat) (hj : j < n) (hn : n ≤ 4096) (hu : UpI (ks kf d) n j) :
    Calls Yba.prog 11 #[hI hb, .int .i64 j] w fun e w' => e = .returned (.tuple #[]) ∧ Hd w0 g n n kf S w' := by
  go_enter Yba.func11, Yba.ntmps11
  go_wp2_with fail
  go_loopg [1] j (fun k s1 wr => ∃ (j : Nat) (d : Array Nat), s1 = .int .i64 j ∧ j ≤ k ∧ j < n ∧ Sp w0 g n d wr ∧ Aside (d.toList.Perm S ∧ UpI (ks kf d) n j))
  case atStart => exact ⟨j, d, rfl, Nat.le_refl _, hj, h, ⟨hp, hu⟩⟩
  case round =>
    clear h hp hu hj
    obtain ⟨j, d, rfl, hk, hj, h, hA⟩ := hrel
    by_cases hj0 : j = 0
    · subst hj0
      go_wp2_with fail
      go_end0
      exact ⟨rfl, d, hA.out.1, hA.out.2.stop (fun h => by omega), h⟩
    obtain ⟨i, hi⟩ : ∃ i, i = (j - 1) / 2 := ⟨_, rfl⟩
    have ei : ((j : Int) - 1) / 2 = (i : Int) := by omega
    have ei' : ((j : Int) - 1).tdiv 2 = (i : Int) := by rw [Int.tdiv_eq_ediv_of_nonneg (by omega)]; exact ei
    have eq : ((i : Int) == (j : Int)) = false := by simp; omega
    have hij : i < j := by omega
    have HI : Aside (i = (j - 1) / 2) := hi
    clear hi
    have hz := h.size
    have HZ : Aside (d.size = n) := hz
    clear hz
    have mL := K.mLess h
    go_wp2_with fail
    refine (less52 K d wr h hA.out.1 j i (by omega) (by omega) hn).mono ?_
    rintro e w1 ⟨rfl, h1⟩
    clear mL h
    by_cases hl : ks kf d j < ks kf d i
    · have e1 : decide (ks kf d j < ks kf d i) = true := decide_eq_true hl
      have mS := K.mSwap h1
      go_wp2_with fail
      refine (swap53 c d w1 h1 i j (by omega) (by omega) hn).mono ?_
      rintro e w2 ⟨rfl, h2⟩
      clear mS h1
      go_wp2_with fail
      go_roundg i
      case measure => omega
      case rel =>
        have hz := HZ.out
        refine ⟨i, swp d i j, rfl, Nat.le_refl _, by omega, h2, ⟨(swp_perm d (by omega) (by omega)).trans hA.out.1, ?_⟩⟩
        rw [ks_swp kf d (by omega) (by omega), HI.out]
        exact hA.out.2.step hj (by omega) (by rw [← HI.out]; exact hl)
    · have e1 : decide (ks kf d j < ks kf d i) = false := decide_eq_false hl
      go_wp2_with fail
      go_end0
      exact ⟨rfl, d, hA.out.1, hA.out.2.stop (fun h => by rw [← HI.out]; omega), h1⟩

/-- What heap.down leaves: a heap of the first m; the element at m has not moved. -/
def Hdn (w0 : World) (g n m x : Nat) (kf : Nat → Int) (S : List Nat) (w' : World) : Prop := ∃ d : Array Nat, d.toList.Perm S ∧ Heap (ks kf d) m ∧ d[m]! = x ∧ Sp w0 g n d w'

set_option maxHeartbeats 3200000 in
set_option maxRecDepth 1000000 in
theorem down14 {w0 : World} {hb g n c : Nat} {kf : Nat → Int} {S : List Nat} (K : Kx w0 hb g n c kf S) (d : Array Nat) (w : World) (h : Sp w0 g n d w) (hp : d.toList.Perm S) (m x : Nat) (hm : m < n) (hn : n ≤ 4096) (hx : d[m]! = x) (hu : DnI (ks kf d) m 0) :
    Calls Yba.prog 14 #[hI hb, .int .i64 0, .int .i64 m] w fun e w' => (∃ B, e = .returned (.bool B)) ∧ Hdn w0 g n m x kf S w' := by
  go_enter Yba.func14, Yba.ntmps14
  go_wp2_with fail
  go_loopg [7] m (fun k s7 wr => ∃ (i : Nat) (d : Array Nat), s7 = .int .i64 i ∧ i ≤ m ∧ m - i ≤ k ∧ Sp w0 g n d wr ∧ Aside (d.toList.Perm S ∧ d[m]! = x ∧ DnI (ks kf d) m i))
  case atStart => exact ⟨0, d, rfl, Nat.zero_le _, by omega, h, ⟨hp, hx, hu⟩⟩
  case round =>
    clear h hp hu hx
    obtain ⟨i, d, rfl, him, hk, h, hA⟩ := hrel
    by_cases h1 : m ≤ 2 * i + 1
    · have h1z : (m : Int) ≤ 2 * (i : Int) + 1 := by omega
      go_wp2_with fail
      refine bodyPost_ret (v := .bool (decide (0 < i))) (by kernel_rfl) rfl ⟨⟨_, rfl⟩, d, hA.out.1, hA.out.2.2.stop (fun k _ _ _ => by omega), hA.out.2.1, h⟩
    have h1z : decide ((m : Int) ≤ 2 * (i : Int) + 1) = false := decide_eq_false (by omega)
    have h2z : decide (2 * (i : Int) + 1 < 0) = false := decide_eq_false (by omega)
    have hz := h.size
    have HZ : Aside (d.size = n) := hz
    clear hz
    go_upto_region 6 with fail
    go_cut [33] (fun v wc => (∃ B : Bool, v = .bool B ∧ Aside (B = true → 2 * i + 2 < m ∧ ks kf d (2 * i + 2) < ks kf d (2 * i + 1)) ∧ Aside (B = false → 2 * i + 2 < m → ks kf d (2 * i + 1) ≤ ks kf d (2 * i + 2))) ∧ Sp w0 g n d wc)
    case first =>
      by_cases h2 : 2 * i + 2 < m
      · have h3z : 2 * (i : Int) + 1 + 1 < (m : Int) := by omega
        have mL := K.mLess h
        have hc52 := less52 K d wr h hA.out.1 (2 * i + 2) (2 * i + 1) (by omega) (by omega) hn
        rw [show ((2 * i + 2 : Nat) : Int) = 2 * (i : Int) + 1 + 1 by omega, show ((2 * i + 1 : Nat) : Int) = 2 * (i : Int) + 1 by omega] at hc52
        have HC : Aside _ := hc52
        clear hc52
        go_wp2_with fail
        refine Calls.mono HC.out ?_
        rintro e w1 ⟨rfl, h1⟩
        clear HC mL h
        go_wp2_with fail
        go_meet
        case rel => exact ⟨⟨_, rfl, (fun e => ⟨h2, by simpa using e⟩), fun e _ => by simpa using e⟩, h1⟩
      · have h3z : decide (2 * (i : Int) + 1 + 1 < (m : Int)) = false := decide_eq_false (by omega)
        go_wp2_with fail
        go_meet
        case rel => exact ⟨⟨false, rfl, (fun e => by cases e), fun _ h => absurd h h2⟩, h⟩
    case rest =>
    clear h
    obtain ⟨⟨B, rfl, hB1, hB2⟩, h⟩ := hcut
    go_upto_if 33 with fail
    obtain ⟨J, hJ⟩ : ∃ J, J = if B then 2 * i + 2 else 2 * i + 1 := ⟨_, rfl⟩
    have HJ : Aside (J = if B then 2 * i + 2 else 2 * i + 1) := hJ
    clear hJ
    go_cut [9] (fun v wx => v = .int .i64 J ∧ wx = wc)
    case first =>
      cases B
      · go_wp2_with fail
        go_meet
        case rel =>
          have := HJ.out
          simp at this
          exact ⟨by congr 1; omega, rfl⟩
      · go_wp2_with fail
        go_meet
        case rel =>
          have := HJ.out
          simp at this
          exact ⟨by congr 1; omega, rfl⟩
    case rest =>
    obtain ⟨rfl, rfl⟩ := hcut
    have hJm : (J = 2 * i + 1 ∨ J = 2 * i + 2) ∧ J < m ∧ ∀ k, 0 < k → k < m → (k - 1) / 2 = i → ks kf d J ≤ ks kf d k := by
      have e := HJ.out
      cases B
      · simp at e
        subst e
        refine ⟨.inl rfl, by omega, fun k k0 km pk => ?_⟩
        have hk' : k = 2 * i + 1 ∨ k = 2 * i + 2 := by omega
        rcases hk' with rfl | rfl
        · exact Int.le_refl _
        · exact hB2.out rfl km
      · simp at e
        subst e
        obtain ⟨q1, q2⟩ := hB1.out rfl
        refine ⟨.inr rfl, q1, fun k k0 km pk => ?_⟩
        have hk' : k = 2 * i + 1 ∨ k = 2 * i + 2 := by omega
        rcases hk' with rfl | rfl
        · omega
        · exact Int.le_refl _
    have HJm : Aside _ := hJm
    have hJ1 : i < J ∧ J < m := by omega
    clear hJm HJ hB1 hB2
    have mL := K.mLess h
    go_wp2_with fail
    refine (less52 K d _ h hA.out.1 J i (by omega) (by omega) hn).mono ?_
    rintro e w1 ⟨rfl, h1⟩
    clear mL h
    by_cases hl : ks kf d J < ks kf d i
    · have e1 : decide (ks kf d J < ks kf d i) = true := decide_eq_true hl
      have mS := K.mSwap h1
      go_wp2_with fail
      refine (swap53 c d w1 h1 i J (by omega) (by omega) hn).mono ?_
      rintro e w2 ⟨rfl, h2⟩
      clear mS h1
      go_wp2_with fail
      go_roundg (m - J)
      case measure => omega
      case rel =>
        have hz := HZ.out
        refine ⟨J, swp d i J, rfl, by omega, Nat.le_refl _, h2, ⟨(swp_perm d (by omega) (by omega)).trans hA.out.1, ?_, ?_⟩⟩
        · rw [swp_other d i J m (by omega) (by omega)]; exact hA.out.2.1
        · rw [ks_swp kf d (by omega) (by omega)]
          exact hA.out.2.2.step HJm.out.1 hJ1.2 HJm.out.2.2 hl
    · have e1 : decide (ks kf d J < ks kf d i) = false := decide_eq_false hl
      go_wp2_with fail
      refine bodyPost_ret (v := .bool (decide (0 < i))) (by kernel_rfl) rfl ⟨⟨_, rfl⟩, d, hA.out.1, hA.out.2.2.stop (fun k k0 km pk => ?_), hA.out.2.1, h1⟩
      have := HJm.out.2.2 k k0 km pk
      omega
end Go.Proofs.Ybulkdsqs
