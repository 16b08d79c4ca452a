/-
  LawS5972COrder: slices.siftDownOrdered and heapSortOrdered at uint64.
-/
import Derived.Test.YbulkdsqsOSt
namespace Go.Proofs.Ybulkdsqs
open Go.RowKit Go.Sort
set_option linter.unusedSimpArgs false
set_option linter.unusedVariables false

/-- The child that the hole is held against. -/
def sdB (hi F r : Nat) (d : Array Int) : Bool := decide (2 * r + 2 < hi) && ltInt d[F + (2 * r + 1)]! d[F + (2 * r + 2)]!
def sdC (hi F r : Nat) (d : Array Int) : Nat := if sdB hi F r d then 2 * r + 2 else 2 * r + 1
theorem sdC_bd {hi F r : Nat} {d : Array Int} (h : 2 * r + 1 < hi) : r < sdC hi F r d ∧ sdC hi F r d < hi := by
  unfold sdC
  split
  · rename_i hb
    simp only [sdB, Bool.and_eq_true, decide_eq_true_eq] at hb
    omega
  · omega
theorem sd_none {hi F r : Nat} (d : Array Int) (h : hi ≤ 2 * r + 1) : siftDown ltInt hi F r d = d := by rw [siftDown, dif_pos h]
theorem sd_some {hi F r : Nat} (d : Array Int) (h : 2 * r + 1 < hi) : siftDown ltInt hi F r d = if ltInt d[F + r]! d[F + sdC hi F r d]! then siftDown ltInt hi F (sdC hi F r d) (swp d (F + r) (F + sdC hi F r d)) else d := by
  rw [siftDown, dif_neg (by omega)]
  have e : F + (2 * r + 1) + 1 = F + (2 * r + 2) := by omega
  have e' : (decide (2 * r + 1 + 1 < hi) && ltInt d[F + (2 * r + 1)]! d[F + (2 * r + 1) + 1]!) = sdB hi F r d := by rw [e]; rfl
  rw [e']
  unfold sdC
  by_cases hb : sdB hi F r d = true
  · have hb' := hb
    simp only [sdB, Bool.and_eq_true, decide_eq_true_eq] at hb'
    rw [if_pos hb, if_pos hb, dif_pos hb'.1]
    cases ltInt d[F + r]! d[F + (2 * r + 2)]! <;> simp
  · rw [if_neg hb, if_neg hb]
    cases ltInt d[F + r]! d[F + (2 * r + 1)]! <;> simp

set_option maxHeartbeats 3200000 in
set_option maxRecDepth 1000000 in
theorem sift26 (w0 : World) (g o n c lo hi F : Nat) (d : Array Int) (w : World) (h : St w0 g o n d w) (hlo : lo ≤ hi) (hb : F + hi ≤ n) (hn : n < 4611686018427387904) :
    Calls Yba.prog 26 #[.slice (some ⟨g, o, none⟩) n c, .int .i64 lo, .int .i64 hi, .int .i64 F] w fun e w' => e = .returned (.tuple #[]) ∧ St w0 g o n (siftDown ltInt hi F lo d) w' := by
  go_enter Yba.func26, Yba.ntmps26
  go_wp2_with fail
  go_loopg [8] (hi - lo) (fun k s8 wr => ∃ (r : Nat) (dk : Array Int), s8 = .int .i64 r ∧ r ≤ hi ∧ hi - r ≤ k ∧ St w0 g o n dk wr ∧ Aside (siftDown ltInt hi F r dk = siftDown ltInt hi F lo d))
  case atStart => exact ⟨lo, d, rfl, hlo, Nat.le_refl _, h, rfl⟩
  case round =>
    obtain ⟨r, dk, rfl, hr, hk, hs, he⟩ := hrel
    clear h
    by_cases h0 : hi ≤ 2 * r + 1
    · have h0z : (hi : Int) ≤ 2 * (r : Int) + 1 := by omega
      go_wp2_with fail
      go_end0
      refine ⟨rfl, ?_⟩
      rw [← he.out, sd_none dk h0]
      exact hs
    have h0z : ¬ ((hi : Int) ≤ 2 * (r : Int) + 1) := by omega
    have hbd := sdC_bd (F := F) (d := dk) (show 2 * r + 1 < hi by omega)
    have H2 : Aside _ := sd_some (F := F) dk (show 2 * r + 1 < hi by omega)
    obtain ⟨C, hC⟩ : ∃ C, C = sdC hi F r dk := ⟨_, rfl⟩
    obtain ⟨B, hB⟩ : ∃ B, B = sdB hi F r dk := ⟨_, rfl⟩
    have hCB : C = if B then 2 * r + 2 else 2 * r + 1 := by rw [hC, hB]; rfl
    rw [← hC] at hbd H2
    have HB : Aside (B = sdB hi F r dk) := hB
    have HCB : Aside (C = if B then 2 * r + 2 else 2 * r + 1) := hCB
    clear hC hB hCB
    go_upto_region 3 with fail
    go_cut [36] (fun v36 wc => v36 = .bool B ∧ St w0 g o n dk wc)
    case first =>
      obtain ⟨G, hG, hc, hf⟩ := hs.sees
      by_cases h1 : 2 * r + 2 < hi
      · have h1z : 2 * (r : Int) + 1 + 1 < (hi : Int) := by omega
        go_quiet (first | (go_at_call 21; refine Calls.quiet_of_same (lss _ _ _)))
        go_wp2_with fail
        go_meet
        case rel =>
          refine ⟨?_, hs.drewN nq⟩
          rw [HB.out, sdB, decide_eq_true h1, Bool.true_and, ← hG.out, ← hG.out]
          rfl
      · have h1z : decide (2 * (r : Int) + 1 + 1 < (hi : Int)) = false := decide_eq_false (by omega)
        go_quiet (first | (go_at_call 21; refine Calls.quiet_of_same (lss _ _ _)))
        go_wp2_with fail
        go_meet
        case rel =>
          refine ⟨?_, hs.drewN nq⟩
          rw [HB.out, sdB, decide_eq_false h1, Bool.false_and]
    case rest =>
      obtain ⟨rfl, hs1⟩ := hcut
      clear hs HB
      go_upto_if 36 with fail
      go_cut [9] (fun v9 wx => v9 = .int .i64 C ∧ wx = wc)
      case first =>
        cases B
        · go_wp2_with fail
          go_meet
          case rel =>
            have := HCB.out
            refine ⟨?_, rfl⟩
            simp at this
            congr 1; omega
        · go_wp2_with fail
          go_meet
          case rel =>
            have := HCB.out
            refine ⟨?_, rfl⟩
            simp at this
            congr 1; omega
      case rest =>
        obtain ⟨rfl, rfl⟩ := hcut
        clear HCB
        obtain ⟨G, hG, hc, hf⟩ := hs1.sees
        go_wp2_with fail
        go_quiet (first | (go_at_call 21; refine Calls.quiet_of_same (lss _ _ _)))
        go_wp2_with fail
        · have hl : (!ltInt (G (F + r)) (G (F + C))) = true := by assumption
          refine bodyPost_ret (results_none rfl _ _ _) rfl ?_
          refine ⟨rfl, ?_⟩
          have h2 := H2.out
          rw [← hG.out, ← hG.out, if_neg (by simpa using hl)] at h2
          rw [← he.out, h2]
          exact hs1.drewN nq
        · have hl : (!ltInt (G (F + r)) (G (F + C))) = false := by assumption
          go_region
          go_wp2_with fail
          go_roundg (hi - C)
          case measure => omega
          case rel =>
            have h2 := H2.out
            rw [← hG.out, ← hG.out, if_pos (by simpa using hl)] at h2
            exact ⟨C, swp dk (F + r) (F + C), rfl, by omega, Nat.le_refl _, hs1.swap hG (by omega) (by omega) (nq + 1), h2.symm.trans he.out⟩
end Go.Proofs.Ybulkdsqs
