/-
  LawS5972COrder: slices.partitionOrdered at uint64.
-/
import Derived.Test.YbulkdsqsOPeq
namespace Go.Proofs.Ybulkdsqs
open Go.RowKit Go.Sort
set_option linter.unusedSimpArgs false
set_option linter.unusedVariables false

/-- The first round, which the text writes out. -/
theorem prt_first (d : Array Int) (a b p : Nat) {i j I J : Nat} {dk : Array Int} (hi : i = a + 1) (hj : j = b - 1) (hdk : dk = swp d a p) (hI : I = scanUp (fun x => ltInt x dk[a]!) dk j i) (hJ : J = scanDown (fun x => !ltInt x dk[a]!) dk I j) :
    partition ltInt d a b p = if I > J then (J, true, swp dk J a) else ((partLoop ltInt a (I + 1) (J - 1) (swp dk I J)).1, false, swp (partLoop ltInt a (I + 1) (J - 1) (swp dk I J)).2 (partLoop ltInt a (I + 1) (J - 1) (swp dk I J)).1 a) := by
  subst hi hj hdk hI hJ
  rfl

set_option maxHeartbeats 12800000 in
set_option maxRecDepth 1000000 in
theorem prt23 (w0 : World) (g o n c a b p : Nat) (d : Array Int) (w : World) (h : St w0 g o n d w) (hap : a ≤ p) (hpb : p < b) (hb : b ≤ n) (hn : n < 4611686018427387904) :
    Calls Yba.prog 23 #[.slice (some ⟨g, o, none⟩) n c, .int .i64 a, .int .i64 b, .int .i64 p] w fun e w' =>
      e = .returned (.tuple #[.int .i64 (partition ltInt d a b p).1, .bool (partition ltInt d a b p).2.1]) ∧ St w0 g o n (partition ltInt d a b p).2.2 w' := by
  obtain ⟨G0, hG0, hc, hf⟩ := h.sees
  obtain ⟨y', hy'⟩ := still (p := ⟨g, o + a, none⟩) (x := .int .u64 (G0 p)) (hc p (by omega))
  go_enter Yba.func23, Yba.ntmps23
  go_wp2_with fail
  go_region
  go_upto_block 0 with fail
  have hs := h.swap hG0 (show a < n by omega) (show p < n by omega) 1
  obtain ⟨i, hi⟩ : ∃ i, i = a + 1 := ⟨_, rfl⟩
  obtain ⟨j, hj⟩ : ∃ j, j = b - 1 := ⟨_, rfl⟩
  obtain ⟨dk, hdk⟩ : ∃ dk, dk = swp d a p := ⟨_, rfl⟩
  rw [show ((a : Int) + 1) = (i : Int) by omega, show ((b : Int) - 1) = (j : Int) by omega]
  rw [← hdk] at hs
  have hai : a < i := by omega
  have hij : i ≤ j + 1 := by omega
  have hjb : j < b := by omega
  have AF : Aside (∀ {I J : Nat}, I = scanUp (fun x => ltInt x dk[a]!) dk j i → J = scanDown (fun x => !ltInt x dk[a]!) dk I j → partition ltInt d a b p = if I > J then (J, true, swp dk J a) else ((partLoop ltInt a (I + 1) (J - 1) (swp dk I J)).1, false, swp (partLoop ltInt a (I + 1) (J - 1) (swp dk I J)).2 (partLoop ltInt a (I + 1) (J - 1) (swp dk I J)).1 a)) := fun hI hJ => prt_first d a b p hi hj hdk hI hJ
  clear h hc hf hy' hi hj hdk
  obtain ⟨I, hI⟩ : ∃ I, I = scanUp (fun x => ltInt x dk[a]!) dk j i := ⟨_, rfl⟩
  have AI : Aside (I = scanUp (fun x => ltInt x dk[a]!) dk j i) := hI
  clear hI
  go_cut [10] (fun v wc => v = .int .i64 I ∧ St w0 g o n dk wc)
  case first =>
    go_wp2_with fail
    go_loopg [10] (j + 1 - i) (fun k v wr => ∃ i' : Nat, v = .int .i64 i' ∧ i ≤ i' ∧ i' ≤ j + 1 ∧ j + 1 - i' ≤ k ∧ St w0 g o n dk wr ∧ Aside (scanUp (fun x => ltInt x dk[a]!) dk j i' = I))
    case atStart => exact ⟨i, rfl, Nat.le_refl _, hij, Nat.le_refl _, hs, AI.out.symm⟩
    case round =>
      obtain ⟨i', rfl, hii, hij', hik, hs', he'⟩ := hrel
      clear hs
      obtain ⟨G, hG, hc, hf⟩ := hs'.sees
      by_cases hle : i' ≤ j
      · have hlez : (i' : Int) ≤ (j : Int) := by omega
        go_wp2_with fail
        go_quiet (first | (go_at_call 21; refine Calls.quiet_of_same (lss _ _ _)))
        go_wp2_with fail
        · have ht : ltInt (G i') (G a) = true := by assumption
          go_roundg (j + 1 - (i' + 1))
          case measure => omega
          case rel => exact ⟨i' + 1, by simp, by omega, by omega, Nat.le_refl _, hs'.drewN nq, (scan_go (fun x => ltInt x dk[a]!) dk hle (by rw [hG.out, hG.out] at ht; exact ht)).symm.trans he'.out⟩
        · have ht : ltInt (G i') (G a) = false := by assumption
          go_meet
          case rel =>
            have e := he'.out
            rw [scan_stop (fun x => ltInt x dk[a]!) dk (.inr (by rw [hG.out, hG.out] at ht; exact ht))] at e
            exact ⟨by rw [e], hs'.drewN nq⟩
      · have hlez : decide ((i' : Int) ≤ (j : Int)) = false := decide_eq_false (by omega)
        go_wp2_with fail
        go_quiet (first | (go_at_call 21; refine Calls.quiet_of_same (lss _ _ _)))
        go_wp2_with fail
        go_meet
        case rel =>
          have e := he'.out
          rw [scan_stop (fun x => ltInt x dk[a]!) dk (.inl hle)] at e
          exact ⟨by rw [e], hs'.drewN nq⟩
  case rest =>
    obtain ⟨rfl, hs1⟩ := hcut
    clear hs
    have hs := hs1
    clear hs1
    have hIj : I ≤ j + 1 := by
      have := (scanUp_spec (fun x => ltInt x dk[a]!) dk j _ i rfl).2.1 hij
      rw [AI.out]; exact this
    have hiI : i ≤ I := by
      have := (scanUp_spec (fun x => ltInt x dk[a]!) dk j _ i rfl).1
      rw [AI.out]; exact this
    go_upto_block 2 with fail
    obtain ⟨J, hJ⟩ : ∃ J, J = scanDown (fun x => !ltInt x dk[a]!) dk I j := ⟨_, rfl⟩
    have AJ : Aside (J = scanDown (fun x => !ltInt x dk[a]!) dk I j) := hJ
    clear hJ
    go_cut [11] (fun v wc => v = .int .i64 J ∧ St w0 g o n dk wc)
    case first =>
      go_wp2_with fail
      go_loopg [11] j (fun k v wr => ∃ j' : Nat, v = .int .i64 j' ∧ j' ≤ j ∧ I ≤ j' + 1 ∧ j' ≤ k ∧ St w0 g o n dk wr ∧ Aside (scanDown (fun x => !ltInt x dk[a]!) dk I j' = J))
      case atStart => exact ⟨j, rfl, Nat.le_refl _, hIj, Nat.le_refl _, hs, AJ.out.symm⟩
      case round =>
        obtain ⟨j', rfl, hjj, hij', hjk, hs', he'⟩ := hrel
        clear hs
        obtain ⟨G, hG, hc, hf⟩ := hs'.sees
        by_cases hle : I ≤ j'
        · have hlez : (I : Int) ≤ (j' : Int) := by omega
          go_wp2_with fail
          go_quiet (first | (go_at_call 21; refine Calls.quiet_of_same (lss _ _ _)))
          go_wp2_with fail
          · have ht : (!ltInt (G j') (G a)) = true := by assumption
            go_roundg (j' - 1)
            case measure => omega
            case rel => exact ⟨j' - 1, by congr 1; omega, by omega, by omega, Nat.le_refl _, hs'.drewN nq, (scand_go (fun x => !ltInt x dk[a]!) dk hle (by omega) (by rw [hG.out, hG.out] at ht; exact ht)).symm.trans he'.out⟩
          · have ht : (!ltInt (G j') (G a)) = false := by assumption
            go_meet
            case rel =>
              have e := he'.out
              rw [scand_stop (fun x => !ltInt x dk[a]!) dk (.inr (by rw [hG.out, hG.out] at ht; exact ht))] at e
              exact ⟨by rw [e], hs'.drewN nq⟩
        · have hlez : decide ((I : Int) ≤ (j' : Int)) = false := decide_eq_false (by omega)
          go_wp2_with fail
          go_quiet (first | (go_at_call 21; refine Calls.quiet_of_same (lss _ _ _)))
          go_wp2_with fail
          go_meet
          case rel =>
            have e := he'.out
            rw [scand_stop (fun x => !ltInt x dk[a]!) dk (.inl hle)] at e
            exact ⟨by rw [e], hs'.drewN nq⟩
    case rest =>
      obtain ⟨rfl, hs1⟩ := hcut
      clear hs
      have hs := hs1
      clear hs1
      obtain ⟨s1, s2, s3, s4, s5⟩ := scans_at (fun x => ltInt x dk[a]!) (fun x => !ltInt x dk[a]!) (fun x => rfl) dk (i := i) (j := j) (by omega) hij AI.out AJ.out
      have HF : Aside _ := AF.out AI.out AJ.out
      clear AF AI AJ
      obtain ⟨G, hG, hc, hf⟩ := hs.sees
      by_cases hIJ : J < I
      · have hz : (J : Int) < (I : Int) := by omega
        obtain ⟨y', hy'⟩ := still (p := ⟨g, o + J, none⟩) (x := .int .u64 (G a)) (hc a (by omega))
        go_wp2_with fail
        go_region
        go_wp2_with fail
        have e1 := HF.out
        rw [if_pos hIJ] at e1
        refine bodyPost_ret (v := .tuple #[.int .i64 J, .bool true]) (by kernel_rfl) rfl ⟨by rw [e1], by rw [e1]; exact hs.swap hG (by omega) (by omega) 1⟩
      have hz : ¬ (J : Int) < (I : Int) := by omega
      have hlt := s5 (by omega)
      have e1 := HF.out
      rw [if_neg hIJ] at e1
      obtain ⟨R, hR⟩ : ∃ R, partLoop ltInt a (I + 1) (J - 1) (swp dk I J) = R := ⟨_, rfl⟩
      rw [hR] at e1
      have HR : Aside (partition ltInt d a b p = (R.1, false, swp R.2 R.1 a)) := e1
      have HR0 : Aside (partLoop ltInt a (I + 1) (J - 1) (swp dk I J) = R) := hR
      clear e1 hR HF
      go_wp2_with fail
      go_region
      go_wp2_with fail
      go_loopg [10, 11] (b - a) (fun k s9 s10 wr => ∃ (i j : Nat) (dk : Array Int), s9 = .int .i64 i ∧ s10 = .int .i64 j ∧ a < i ∧ i ≤ j + 1 ∧ j < b ∧ j + 1 - i ≤ k ∧ St w0 g o n dk wr ∧ Aside (partLoop ltInt a i j dk = R))
      case atStart => exact ⟨I + 1, J - 1, swp dk I J, by simp, by congr 1; omega, by omega, by omega, by omega, by omega, hs.swap hG (by omega) (by omega) 1, HR0.out⟩
      case round =>
        clear hs hc hf HR0 s1 s2 s3 s4 s5 hIj hiI hlt hz hIJ hai hij hjb
        obtain ⟨i, j, dk, rfl, rfl, hai, hij, hjb, hk, hs, he⟩ := hrel
        go_upto_block 6 with fail
        obtain ⟨I, hI⟩ : ∃ I, I = scanUp (fun x => ltInt x dk[a]!) dk j i := ⟨_, rfl⟩
        have AI : Aside (I = scanUp (fun x => ltInt x dk[a]!) dk j i) := hI
        clear hI
        go_cut [10] (fun v wc => v = .int .i64 I ∧ St w0 g o n dk wc)
        case first =>
          go_wp2_with fail
          go_loopg [10] (j + 1 - i) (fun k v wr => ∃ i' : Nat, v = .int .i64 i' ∧ i ≤ i' ∧ i' ≤ j + 1 ∧ j + 1 - i' ≤ k ∧ St w0 g o n dk wr ∧ Aside (scanUp (fun x => ltInt x dk[a]!) dk j i' = I))
          case atStart => exact ⟨i, rfl, Nat.le_refl _, hij, Nat.le_refl _, hs, AI.out.symm⟩
          case round =>
            obtain ⟨i', rfl, hii, hij', hik, hs', he'⟩ := hrel
            clear hs
            obtain ⟨G, hG, hc, hf⟩ := hs'.sees
            by_cases hle : i' ≤ j
            · have hlez : (i' : Int) ≤ (j : Int) := by omega
              go_wp2_with fail
              go_quiet (first | (go_at_call 21; refine Calls.quiet_of_same (lss _ _ _)))
              go_wp2_with fail
              · have ht : ltInt (G i') (G a) = true := by assumption
                go_roundg (j + 1 - (i' + 1))
                case measure => omega
                case rel => exact ⟨i' + 1, by simp, by omega, by omega, Nat.le_refl _, hs'.drewN nq, (scan_go (fun x => ltInt x dk[a]!) dk hle (by rw [hG.out, hG.out] at ht; exact ht)).symm.trans he'.out⟩
              · have ht : ltInt (G i') (G a) = false := by assumption
                go_meet
                case rel =>
                  have e := he'.out
                  rw [scan_stop (fun x => ltInt x dk[a]!) dk (.inr (by rw [hG.out, hG.out] at ht; exact ht))] at e
                  exact ⟨by rw [e], hs'.drewN nq⟩
            · have hlez : decide ((i' : Int) ≤ (j : Int)) = false := decide_eq_false (by omega)
              go_wp2_with fail
              go_quiet (first | (go_at_call 21; refine Calls.quiet_of_same (lss _ _ _)))
              go_wp2_with fail
              go_meet
              case rel =>
                have e := he'.out
                rw [scan_stop (fun x => ltInt x dk[a]!) dk (.inl hle)] at e
                exact ⟨by rw [e], hs'.drewN nq⟩
        case rest =>
          obtain ⟨rfl, hs1⟩ := hcut
          clear hs
          have hs := hs1
          clear hs1
          have hIj : I ≤ j + 1 := by
            have := (scanUp_spec (fun x => ltInt x dk[a]!) dk j _ i rfl).2.1 hij
            rw [AI.out]; exact this
          have hiI : i ≤ I := by
            have := (scanUp_spec (fun x => ltInt x dk[a]!) dk j _ i rfl).1
            rw [AI.out]; exact this
          go_upto_block 8 with fail
          obtain ⟨J, hJ⟩ : ∃ J, J = scanDown (fun x => !ltInt x dk[a]!) dk I j := ⟨_, rfl⟩
          have AJ : Aside (J = scanDown (fun x => !ltInt x dk[a]!) dk I j) := hJ
          clear hJ
          go_cut [11] (fun v wc => v = .int .i64 J ∧ St w0 g o n dk wc)
          case first =>
            go_wp2_with fail
            go_loopg [11] j (fun k v wr => ∃ j' : Nat, v = .int .i64 j' ∧ j' ≤ j ∧ I ≤ j' + 1 ∧ j' ≤ k ∧ St w0 g o n dk wr ∧ Aside (scanDown (fun x => !ltInt x dk[a]!) dk I j' = J))
            case atStart => exact ⟨j, rfl, Nat.le_refl _, hIj, Nat.le_refl _, hs, AJ.out.symm⟩
            case round =>
              obtain ⟨j', rfl, hjj, hij', hjk, hs', he'⟩ := hrel
              clear hs
              obtain ⟨G, hG, hc, hf⟩ := hs'.sees
              by_cases hle : I ≤ j'
              · have hlez : (I : Int) ≤ (j' : Int) := by omega
                go_wp2_with fail
                go_quiet (first | (go_at_call 21; refine Calls.quiet_of_same (lss _ _ _)))
                go_wp2_with fail
                · have ht : (!ltInt (G j') (G a)) = true := by assumption
                  go_roundg (j' - 1)
                  case measure => omega
                  case rel => exact ⟨j' - 1, by congr 1; omega, by omega, by omega, Nat.le_refl _, hs'.drewN nq, (scand_go (fun x => !ltInt x dk[a]!) dk hle (by omega) (by rw [hG.out, hG.out] at ht; exact ht)).symm.trans he'.out⟩
                · have ht : (!ltInt (G j') (G a)) = false := by assumption
                  go_meet
                  case rel =>
                    have e := he'.out
                    rw [scand_stop (fun x => !ltInt x dk[a]!) dk (.inr (by rw [hG.out, hG.out] at ht; exact ht))] at e
                    exact ⟨by rw [e], hs'.drewN nq⟩
              · have hlez : decide ((I : Int) ≤ (j' : Int)) = false := decide_eq_false (by omega)
                go_wp2_with fail
                go_quiet (first | (go_at_call 21; refine Calls.quiet_of_same (lss _ _ _)))
                go_wp2_with fail
                go_meet
                case rel =>
                  have e := he'.out
                  rw [scand_stop (fun x => !ltInt x dk[a]!) dk (.inl hle)] at e
                  exact ⟨by rw [e], hs'.drewN nq⟩
          case rest =>
            obtain ⟨rfl, hs1⟩ := hcut
            clear hs
            have hs := hs1
            clear hs1
            obtain ⟨s1, s2, s3, s4, s5⟩ := scans_at (fun x => ltInt x dk[a]!) (fun x => !ltInt x dk[a]!) (fun x => rfl) dk (i := i) (j := j) (by omega) hij AI.out AJ.out
            have heq := partLoop_eq ltInt a i j dk
            rw [← AI.out, ← AJ.out] at heq
            have HEQ : Aside _ := heq
            clear heq
            obtain ⟨G, hG, hc, hf⟩ := hs.sees
            by_cases hIJ : J < I
            · have hz : (J : Int) < (I : Int) := by omega
              obtain ⟨y', hy'⟩ := still (p := ⟨g, o + J, none⟩) (x := .int .u64 (G a)) (hc a (by omega))
              go_wp2_with fail
              go_region
              go_wp2_with fail
              have e1 := HEQ.out
              rw [if_pos hIJ] at e1
              have e2 := HR.out
              rw [← he.out, e1] at e2
              refine bodyPost_ret (v := .tuple #[.int .i64 J, .bool false]) (by kernel_rfl) rfl ⟨by rw [e2], by rw [e2]; exact hs.swap hG (by omega) (by omega) 1⟩
            · have hz : ¬ (J : Int) < (I : Int) := by omega
              have hlt := s5 (by omega)
              go_wp2_with fail
              go_region
              go_wp2_with fail
              go_roundg (J - 1 + 1 - (I + 1))
              case measure => omega
              case rel =>
                have e1 := HEQ.out
                rw [if_neg hIJ] at e1
                exact ⟨I + 1, J - 1, swp dk I J, by simp, by congr 1; omega, by omega, by omega, by omega, Nat.le_refl _, hs.swap hG (by omega) (by omega) 1, e1.symm.trans he.out⟩

end Go.Proofs.Ybulkdsqs
