/-
  LawS5972COrder: slices.partitionEqualOrdered and partitionOrdered at uint64.
-/
import Derived.Test.YbulkdsqsOSt
import Derived.Sort.LotC
namespace Go.Proofs.Ybulkdsqs
open Go.RowKit Go.Sort
set_option linter.unusedSimpArgs false
set_option linter.unusedVariables false

theorem scan_go (p : Int → Bool) (d : Array Int) {i j : Nat} (h : i ≤ j) (hp : p d[i]! = true) : scanUp p d j i = scanUp p d j (i + 1) := by
  rw [scanUp, if_pos (by simp [h, hp])]
theorem scan_stop (p : Int → Bool) (d : Array Int) {i j : Nat} (h : ¬ i ≤ j ∨ p d[i]! = false) : scanUp p d j i = i := by
  rw [scanUp, if_neg (by rcases h with h | h <;> simp [h])]
theorem scand_go (p : Int → Bool) (d : Array Int) {i j : Nat} (h : i ≤ j) (h0 : 0 < j) (hp : p d[j]! = true) : scanDown p d i j = scanDown p d i (j - 1) := by
  cases j with
  | zero => omega
  | succ k => rw [scanDown, if_pos (by simp [h, hp])]; rfl
theorem scand_stop (p : Int → Bool) (d : Array Int) {i j : Nat} (h : ¬ i ≤ j ∨ p d[j]! = false) : scanDown p d i j = j := by
  cases j with
  | zero => rfl
  | succ k => rw [scanDown, if_neg (by rcases h with h | h <;> simp [h])]
/-- Where the two scans of a round stop. -/
theorem scans_at (p q : Int → Bool) (hq : ∀ x, q x = !p x) (d : Array Int) {i j I J : Nat} (h0 : 0 < i) (hij : i ≤ j + 1) (hI : I = scanUp p d j i) (hJ : J = scanDown q d I j) :
    i ≤ I ∧ I ≤ j + 1 ∧ J ≤ j ∧ I ≤ J + 1 ∧ (I ≤ J → I < J) := by
  obtain ⟨u1, u2, _, u4⟩ := scanUp_spec p d j _ i rfl
  obtain ⟨v1, v2, _, v4⟩ := scanDown_spec q d I j
  rw [← hI] at u1 u2 u4
  rw [← hJ] at v1 v2 v4
  refine ⟨u1, u2 hij, v1, v2 (u2 hij), fun h => ?_⟩
  rcases Nat.lt_or_ge I J with h' | h'
  · exact h'
  · have e : J = I := by omega
    subst e
    have f1 := u4 (by omega)
    have f2 := v4 h (by omega)
    rw [hq, f1] at f2
    cases f2

set_option maxHeartbeats 6400000 in
set_option maxRecDepth 1000000 in
theorem peq22 (w0 : World) (g o n c a b p : Nat) (d : Array Int) (w : World) (h : St w0 g o n d w) (hap : a ≤ p) (hpb : p < b) (hb : b ≤ n) (hn : n < 4611686018427387904) :
    Calls Yba.prog 22 #[.slice (some ⟨g, o, none⟩) n c, .int .i64 a, .int .i64 b, .int .i64 p] w fun e w' => e = .returned (.int .i64 (partitionEqual ltInt d a b p).1) ∧ St w0 g o n (partitionEqual ltInt d a b p).2 w' := by
  obtain ⟨G0, hG0, hc, hf⟩ := h.sees
  obtain ⟨y', hy'⟩ := still (p := ⟨g, o + a, none⟩) (x := .int .u64 (G0 p)) (hc p (by omega))
  go_enter Yba.func22, Yba.ntmps22
  go_wp2_with fail
  go_region
  go_wp2_with fail
  go_loopg [9, 10] (b - a) (fun k s9 s10 wr => ∃ (i j : Nat) (dk : Array Int), s9 = .int .i64 i ∧ s10 = .int .i64 j ∧ a < i ∧ i ≤ j + 1 ∧ j < b ∧ j + 1 - i ≤ k ∧ St w0 g o n dk wr ∧ Aside (partEqLoop ltInt a i j dk = partitionEqual ltInt d a b p))
  case atStart => exact ⟨a + 1, b - 1, swp d a p, by simp, by congr 1; omega, by omega, by omega, by omega, by omega, h.swap hG0 (by omega) (by omega) 1, rfl⟩
  case round =>
    obtain ⟨i, j, dk, rfl, rfl, hai, hij, hjb, hk, hs, he⟩ := hrel
    clear h hc hf hy'
    go_upto_block 2 with fail
    obtain ⟨I, hI⟩ : ∃ I, I = scanUp (fun x => !ltInt dk[a]! x) dk j i := ⟨_, rfl⟩
    have AI : Aside (I = scanUp (fun x => !ltInt dk[a]! x) dk j i) := hI
    clear hI
    go_cut [9] (fun v wc => v = .int .i64 I ∧ St w0 g o n dk wc)
    case first =>
      go_wp2_with fail
      go_loopg [9] (j + 1 - i) (fun k v wr => ∃ i' : Nat, v = .int .i64 i' ∧ i ≤ i' ∧ i' ≤ j + 1 ∧ j + 1 - i' ≤ k ∧ St w0 g o n dk wr ∧ Aside (scanUp (fun x => !ltInt dk[a]! x) dk j i' = I))
      case atStart => exact ⟨i, rfl, Nat.le_refl _, hij, Nat.le_refl _, hs, AI.out.symm⟩
      case round =>
        obtain ⟨i', rfl, hii, hij', hik, hs', he'⟩ := hrel
        clear hs
        obtain ⟨G, hG, hc, hf⟩ := hs'.sees
        by_cases hle : i' ≤ j
        · have hlez : (i' : Int) ≤ (j : Int) := by omega
          go_wp2_with fail
          go_quiet (first | (go_at_call 21; refine Calls.quiet_of_same (lss _ _ _)))
          go_wp2_with fail
          · have ht : (!ltInt (G a) (G i')) = true := by assumption
            go_roundg (j + 1 - (i' + 1))
            case measure => omega
            case rel => exact ⟨i' + 1, by simp, by omega, by omega, Nat.le_refl _, hs'.drewN nq, (scan_go (fun x => !ltInt dk[a]! x) dk hle (by rw [hG.out, hG.out] at ht; exact ht)).symm.trans he'.out⟩
          · have ht : (!ltInt (G a) (G i')) = false := by assumption
            go_meet
            case rel =>
              have e := he'.out
              rw [scan_stop (fun x => !ltInt dk[a]! x) dk (.inr (by rw [hG.out, hG.out] at ht; exact ht))] at e
              exact ⟨by rw [e], hs'.drewN nq⟩
        · have hlez : decide ((i' : Int) ≤ (j : Int)) = false := decide_eq_false (by omega)
          go_wp2_with fail
          go_quiet (first | (go_at_call 21; refine Calls.quiet_of_same (lss _ _ _)))
          go_wp2_with fail
          go_meet
          case rel =>
            have e := he'.out
            rw [scan_stop (fun x => !ltInt dk[a]! x) dk (.inl hle)] at e
            exact ⟨by rw [e], hs'.drewN nq⟩
    case rest =>
      obtain ⟨rfl, hs1⟩ := hcut
      clear hs
      have hs := hs1
      clear hs1
      have hIj : I ≤ j + 1 := by
        have := (scanUp_spec (fun x => !ltInt dk[a]! x) dk j _ i rfl).2.1 hij
        rw [AI.out]; exact this
      have hiI : i ≤ I := by
        have := (scanUp_spec (fun x => !ltInt dk[a]! x) dk j _ i rfl).1
        rw [AI.out]; exact this
      go_upto_block 4 with fail
      obtain ⟨J, hJ⟩ : ∃ J, J = scanDown (fun x => ltInt dk[a]! x) dk I j := ⟨_, rfl⟩
      have AJ : Aside (J = scanDown (fun x => ltInt dk[a]! x) dk I j) := hJ
      clear hJ
      go_cut [10] (fun v wc => v = .int .i64 J ∧ St w0 g o n dk wc)
      case first =>
        go_wp2_with fail
        go_loopg [10] j (fun k v wr => ∃ j' : Nat, v = .int .i64 j' ∧ j' ≤ j ∧ I ≤ j' + 1 ∧ j' ≤ k ∧ St w0 g o n dk wr ∧ Aside (scanDown (fun x => ltInt dk[a]! x) dk I j' = J))
        case atStart => exact ⟨j, rfl, Nat.le_refl _, hIj, Nat.le_refl _, hs, AJ.out.symm⟩
        case round =>
          obtain ⟨j', rfl, hjj, hij', hjk, hs', he'⟩ := hrel
          clear hs
          obtain ⟨G, hG, hc, hf⟩ := hs'.sees
          by_cases hle : I ≤ j'
          · have hlez : (I : Int) ≤ (j' : Int) := by omega
            go_wp2_with fail
            go_quiet (first | (go_at_call 21; refine Calls.quiet_of_same (lss _ _ _)))
            go_wp2_with fail
            · have ht : ltInt (G a) (G j') = true := by assumption
              go_roundg (j' - 1)
              case measure => omega
              case rel => exact ⟨j' - 1, by congr 1; omega, by omega, by omega, Nat.le_refl _, hs'.drewN nq, (scand_go (fun x => ltInt dk[a]! x) dk hle (by omega) (by rw [hG.out, hG.out] at ht; exact ht)).symm.trans he'.out⟩
            · have ht : ltInt (G a) (G j') = false := by assumption
              go_meet
              case rel =>
                have e := he'.out
                rw [scand_stop (fun x => ltInt dk[a]! x) dk (.inr (by rw [hG.out, hG.out] at ht; exact ht))] at e
                exact ⟨by rw [e], hs'.drewN nq⟩
          · have hlez : decide ((I : Int) ≤ (j' : Int)) = false := decide_eq_false (by omega)
            go_wp2_with fail
            go_quiet (first | (go_at_call 21; refine Calls.quiet_of_same (lss _ _ _)))
            go_wp2_with fail
            go_meet
            case rel =>
              have e := he'.out
              rw [scand_stop (fun x => ltInt dk[a]! x) dk (.inl hle)] at e
              exact ⟨by rw [e], hs'.drewN nq⟩
      case rest =>
        obtain ⟨rfl, hs1⟩ := hcut
        clear hs
        have hs := hs1
        clear hs1
        obtain ⟨s1, s2, s3, s4, s5⟩ := scans_at (fun x => !ltInt dk[a]! x) (fun x => ltInt dk[a]! x) (fun x => by simp) dk (i := i) (j := j) (by omega) hij AI.out AJ.out
        have heq := partEqLoop_eq ltInt a i j dk
        rw [← AI.out, ← AJ.out] at heq
        have HEQ : Aside _ := heq
        clear heq
        by_cases hIJ : J < I
        · have hz : (J : Int) < (I : Int) := by omega
          go_wp2_with fail
          have e1 := HEQ.out
          rw [if_pos hIJ] at e1
          have e2 := he.out
          rw [e1] at e2
          refine bodyPost_ret (v := .int .i64 I) (by kernel_rfl) rfl ⟨by rw [← e2], by rw [← e2]; exact hs⟩
        · have hz : ¬ (J : Int) < (I : Int) := by omega
          obtain ⟨G, hG, hc, hf⟩ := hs.sees
          have hlt := s5 (by omega)
          go_wp2_with fail
          go_region
          go_wp2_with fail
          go_roundg (J - 1 + 1 - (I + 1))
          case measure => omega
          case rel =>
            have e1 := HEQ.out
            rw [if_neg hIJ] at e1
            exact ⟨I + 1, J - 1, swp dk I J, by simp, by congr 1; omega, by omega, by omega, by omega, Nat.le_refl _, hs.swap hG (by omega) (by omega) 1, e1.symm.trans he.out⟩

end Go.Proofs.Ybulkdsqs
