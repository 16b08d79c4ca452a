/-
  LawS5972COrder: slices.partialInsertionSortOrdered at uint64.
-/
import Derived.Test.YbulkdsqsOSt
import Derived.Sort.LotA
namespace Go.Proofs.Ybulkdsqs
open Go.RowKit Go.Sort
set_option linter.unusedSimpArgs false
set_option linter.unusedVariables false

theorem ss_go (d : Array Int) {b i : Nat} (h : i < b) (hl : (!ltInt d[i]! d[i - 1]!) = true) : scanSorted ltInt d b i = scanSorted ltInt d b (i + 1) := by
  rw [scanSorted, if_pos (by simp only [hl, decide_eq_true h, Bool.and_self])]
theorem ss_stop (d : Array Int) {b i : Nat} (h : ¬ i < b ∨ (!ltInt d[i]! d[i - 1]!) = false) : scanSorted ltInt d b i = i := by
  rw [scanSorted, if_neg]
  rcases h with h | h
  · simp [h]
  · simp only [h, Bool.and_false, Bool.false_eq_true, not_false_eq_true]
theorem ss_bd (d : Array Int) (b : Nat) : ∀ (m i : Nat), b - i ≤ m → i ≤ b → i ≤ scanSorted ltInt d b i ∧ scanSorted ltInt d b i ≤ b := by
  intro m
  induction m with
  | zero => intro i h1 h2; rw [ss_stop d (.inl (by omega))]; omega
  | succ m ih =>
    intro i h1 h2
    by_cases hx : i < b ∧ (!ltInt d[i]! d[i - 1]!) = true
    · rw [ss_go d hx.1 hx.2]
      have := ih (i + 1) (by omega) (by omega)
      omega
    · rw [ss_stop d]
      · omega
      · by_cases h : i < b
        · right
          cases hq : (!ltInt d[i]! d[i - 1]!)
          · rfl
          · exact absurd ⟨h, hq⟩ hx
        · exact .inl h
theorem sd_go (d : Array Int) {j : Nat} (h : 1 ≤ j) (hl : (!ltInt d[j]! d[j - 1]!) = false) : shiftDown ltInt j d = shiftDown ltInt (j - 1) (swp d j (j - 1)) := by
  obtain ⟨k, rfl⟩ : ∃ k, j = k + 1 := ⟨j - 1, by omega⟩
  rw [Nat.add_sub_cancel] at hl ⊢
  rw [shiftDown, if_neg (by rw [hl]; simp)]
theorem sd_stop (d : Array Int) {j : Nat} (h : j = 0 ∨ (!ltInt d[j]! d[j - 1]!) = true) : shiftDown ltInt j d = d := by
  rcases j with _ | k
  · rfl
  · rcases h with h | h
    · omega
    · rw [Nat.add_sub_cancel] at h
      rw [shiftDown, if_pos h]
theorem su_go (d : Array Int) {b j : Nat} (h : j < b) (hl : (!ltInt d[j]! d[j - 1]!) = false) : shiftUp ltInt b j d = shiftUp ltInt b (j + 1) (swp d j (j - 1)) := by
  rw [shiftUp, if_pos h, if_neg (by rw [hl]; simp)]
theorem su_stop (d : Array Int) {b j : Nat} (h : ¬ j < b ∨ (!ltInt d[j]! d[j - 1]!) = true) : shiftUp ltInt b j d = d := by
  rw [shiftUp]
  by_cases hj : j < b
  · rcases h with h | h
    · exact absurd hj h
    · rw [if_pos hj, if_pos h]
  · rw [if_neg hj]

set_option maxHeartbeats 6400000 in
set_option maxRecDepth 1000000 in
theorem pis20 (w0 : World) (g o n c a b : Nat) (d : Array Int) (w : World) (h : St w0 g o n d w) (hab : a < b) (hb : b ≤ n) (hn : n < 4611686018427387904) :
    Calls Yba.prog 20 #[.slice (some ⟨g, o, none⟩) n c, .int .i64 a, .int .i64 b] w fun e w' =>
      e = .returned (.bool (partialInsertionSort ltInt d a b).2) ∧ St w0 g o n (partialInsertionSort ltInt d a b).1 w' := by
  go_enter Yba.func20, Yba.ntmps20
  go_wp2_with fail
  go_loopg [7, 8] 5 (fun k s7 s8 wr => ∃ (i s : Nat) (dk : Array Int), s7 = .int .i64 i ∧ s8 = .int .i64 s ∧ a < i ∧ i ≤ b ∧ s + k = 5 ∧ St w0 g o n dk wr ∧ Aside (partialIns ltInt a b k i dk = partialInsertionSort ltInt d a b))
  case atStart => exact ⟨a + 1, 0, d, by simp, rfl, by omega, by omega, rfl, h, rfl⟩
  case round =>
    obtain ⟨i, s, dk, rfl, rfl, hai, hib, hsk, hs, he⟩ := hrel
    clear h
    rcases gk with _ | k
    · obtain rfl : s = 5 := by omega
      go_wp2_with fail
      have e := he.out
      refine bodyPost_ret (v := .bool false) (by kernel_rfl) rfl ⟨by rw [← e]; rfl, by rw [← e]; exact hs⟩
    have hs5 : (s : Int) < 5 := by omega
    obtain ⟨K, hK⟩ : ∃ K, K = scanSorted ltInt dk b i := ⟨_, rfl⟩
    have hKb := ss_bd dk b _ i (Nat.le_refl _) hib
    rw [← hK] at hKb
    have hPI := partialIns_succ (lt := ltInt) a b k i dk
    rw [← hK] at hPI
    have AK : Aside (K = scanSorted ltInt dk b i) := hK
    have HPI : Aside _ := hPI
    clear hK hPI
    go_upto_block 2 with fail
    go_cut [7] (fun v wc => v = .int .i64 K ∧ St w0 g o n dk wc)
    case first =>
      go_wp2_with fail
      go_loopg [7] (b - i) (fun k v wr => ∃ i' : Nat, v = .int .i64 i' ∧ i ≤ i' ∧ i' ≤ b ∧ b - i' ≤ k ∧ St w0 g o n dk wr ∧ Aside (scanSorted ltInt dk b i' = K))
      case atStart => exact ⟨i, rfl, Nat.le_refl _, hib, Nat.le_refl _, hs, AK.out.symm⟩
      case round =>
        obtain ⟨i', rfl, hii, hib', hik, hs', he'⟩ := hrel
        clear hs
        obtain ⟨G, hG, hc, hf⟩ := hs'.sees
        by_cases hlt : i' < b
        · have hltz : (i' : Int) < (b : Int) := by omega
          go_wp2_with fail
          go_quiet (first | (go_at_call 21; refine Calls.quiet_of_same (lss _ _ _)))
          go_wp2_with fail
          · have ht : (!ltInt (G i') (G (i' - 1))) = true := by assumption
            go_roundg (b - (i' + 1))
            case measure => omega
            case rel => exact ⟨i' + 1, by simp, by omega, by omega, Nat.le_refl _, hs'.drewN nq, (ss_go dk hlt (by rw [hG.out, hG.out] at ht; exact ht)).symm.trans he'.out⟩
          · have ht : (!ltInt (G i') (G (i' - 1))) = false := by assumption
            go_meet
            case rel =>
              have e := he'.out
              rw [ss_stop dk (.inr (by rw [hG.out, hG.out] at ht; exact ht))] at e
              exact ⟨by rw [e], hs'.drewN nq⟩
        · have hltz : decide ((i' : Int) < (b : Int)) = false := decide_eq_false (by omega)
          go_wp2_with fail
          go_quiet (first | (go_at_call 21; refine Calls.quiet_of_same (lss _ _ _)))
          go_wp2_with fail
          go_meet
          case rel =>
            have e := he'.out
            rw [ss_stop dk (.inl hlt)] at e
            exact ⟨by rw [e], hs'.drewN nq⟩
    case rest =>
      obtain ⟨rfl, hs1⟩ := hcut
      clear hs AK
      have e1 := HPI.out
      by_cases hKe : K = b
      · rw [if_pos hKe] at e1
        have e2 := e1.symm.trans he.out
        subst hKe
        clear e1 HPI
        have E2 : Aside _ := e2
        clear e2
        go_wp2_with fail
        refine bodyPost_ret (v := .bool true) (by kernel_rfl) rfl ⟨by rw [← E2.out], by rw [← E2.out]; exact hs1⟩
      rw [if_neg hKe] at e1
      have hKz : ¬ (K : Int) = (b : Int) := by omega
      by_cases h50 : b - a < 50
      · rw [if_pos h50] at e1
        have h50z : (b : Int) - (a : Int) < 50 := by omega
        have E2 : Aside _ := e1.symm.trans he.out
        clear e1 HPI
        go_wp2_with fail
        refine bodyPost_ret (v := .bool false) (by kernel_rfl) rfl ⟨by rw [← E2.out], by rw [← E2.out]; exact hs1⟩
      rw [if_neg h50] at e1
      have h50z : ¬ (b : Int) - (a : Int) < 50 := by omega
      have E2 : Aside _ := e1.symm.trans he.out
      clear e1 HPI he
      obtain ⟨G, hG, hc, hf⟩ := hs1.sees
      go_wp2_with fail
      go_region
      have hs2 := hs1.swap hG (show K < n by omega) (show K - 1 < n by omega) 1
      go_upto_if 61 with fail
      go_cut [] (fun wx => St w0 g o n (fixDown ltInt a K (swp dk K (K - 1))) wx)
      case first =>
        by_cases hKa : K - a ≥ 2
        · have hKaz : (2 : Int) ≤ (K : Int) - (a : Int) := by omega
          go_wp2_with fail
          go_loopg [9] (K - 1) (fun k v wr => ∃ (j : Nat) (dj : Array Int), v = .int .i64 j ∧ j ≤ K - 1 ∧ j ≤ k ∧ St w0 g o n dj wr ∧ Aside (shiftDown ltInt j dj = shiftDown ltInt (K - 1) (swp dk K (K - 1))))
          case atStart => exact ⟨K - 1, swp dk K (K - 1), by congr 1; omega, Nat.le_refl _, Nat.le_refl _, hs2, rfl⟩
          case round =>
            obtain ⟨j, dj, rfl, hjK, hjk, hs', he'⟩ := hrel
            clear hs2 hs1 hc hf
            obtain ⟨G', hG', hc, hf⟩ := hs'.sees
            have DN : Aside (fixDown ltInt a K (swp dk K (K - 1)) = shiftDown ltInt j dj) := by
              show _ = _
              rw [fixDown, if_pos hKa, he'.out]
            by_cases hj1 : 1 ≤ j
            · have hj1z : (1 : Int) ≤ (j : Int) := by omega
              go_wp2_with fail
              go_quiet (first | (go_at_call 21; refine Calls.quiet_of_same (lss _ _ _)))
              go_wp2_with fail
              · have ht : (!ltInt (G' j) (G' (j - 1))) = true := by assumption
                go_meet
                case rel =>
                  rw [DN.out, sd_stop dj (.inr (by rw [hG'.out, hG'.out] at ht; exact ht))]
                  exact hs'.drewN nq
              · have ht : (!ltInt (G' j) (G' (j - 1))) = false := by assumption
                go_region
                all_goals go_wp2_with fail
                go_roundg (j - 1)
                case measure => omega
                case rel => exact ⟨j - 1, swp dj j (j - 1), by congr 1; omega, by omega, Nat.le_refl _, hs'.swap hG' (by omega) (by omega) (nq + 1), (sd_go dj hj1 (by rw [hG'.out, hG'.out] at ht; exact ht)).symm.trans he'.out⟩
            · have hj1z : ¬ (1 : Int) ≤ (j : Int) := by omega
              go_wp2_with fail
              go_meet
              case rel =>
                rw [DN.out, sd_stop dj (.inl (by omega))]
                exact hs'
        · have hKaz : ¬ (2 : Int) ≤ (K : Int) - (a : Int) := by omega
          go_wp2_with fail
          go_meet
          case rel =>
            rw [fixDown, if_neg hKa]
            exact hs2
      case rest =>
        have hs3 := hcut
        clear hcut hs2 hs1 hc hf
        obtain ⟨dd, hdd⟩ : ∃ dd, dd = fixDown ltInt a K (swp dk K (K - 1)) := ⟨_, rfl⟩
        rw [← hdd] at hs3
        have E3 := E2.out
        rw [← hdd] at E3
        have E3' : Aside _ := E3
        clear E2 E3 hdd
        go_upto_if 98 with fail
        by_cases hKb2 : b - K ≥ 2
        · have hKbz : (2 : Int) ≤ (b : Int) - (K : Int) := by omega
          go_wp2_with fail
          go_loopg [10] (b - (K + 1)) (fun k v wr => ∃ (j : Nat) (dj : Array Int), v = .int .i64 j ∧ K + 1 ≤ j ∧ j ≤ b ∧ b - j ≤ k ∧ St w0 g o n dj wr ∧ Aside (shiftUp ltInt b j dj = shiftUp ltInt b (K + 1) dd))
          case atStart => exact ⟨K + 1, dd, by simp, Nat.le_refl _, by omega, Nat.le_refl _, hs3, rfl⟩
          case round =>
            obtain ⟨j, dj, rfl, hKj, hjb, hjk, hs', he'⟩ := hrel
            clear hs3
            obtain ⟨G', hG', hc, hf⟩ := hs'.sees
            have UP : Aside (fixUp ltInt b K dd = shiftUp ltInt b j dj) := by
              show _ = _
              rw [fixUp, if_pos hKb2, he'.out]
            by_cases hj1 : j < b
            · have hj1z : (j : Int) < (b : Int) := by omega
              go_wp2_with fail
              go_quiet (first | (go_at_call 21; refine Calls.quiet_of_same (lss _ _ _)))
              go_wp2_with fail
              · have ht : (!ltInt (G' j) (G' (j - 1))) = true := by assumption
                go_roundg k
                case measure => omega
                case rel =>
                  refine ⟨K, s + 1, fixUp ltInt b K dd, rfl, by simp, by omega, by omega, by omega, ?_, E3'.out⟩
                  rw [UP.out, su_stop dj (.inr (by rw [hG'.out, hG'.out] at ht; exact ht))]
                  exact hs'.drewN nq
              · have ht : (!ltInt (G' j) (G' (j - 1))) = false := by assumption
                go_region
                all_goals go_wp2_with fail
                go_roundg (b - (j + 1))
                case measure => omega
                case rel => exact ⟨j + 1, swp dj j (j - 1), by simp, by omega, by omega, Nat.le_refl _, hs'.swap hG' (by omega) (by omega) (nq + 1), (su_go dj hj1 (by rw [hG'.out, hG'.out] at ht; exact ht)).symm.trans he'.out⟩
            · have hj1z : ¬ (j : Int) < (b : Int) := by omega
              go_wp2_with fail
              go_roundg k
              case measure => omega
              case rel =>
                refine ⟨K, s + 1, fixUp ltInt b K dd, rfl, by simp, by omega, by omega, by omega, ?_, E3'.out⟩
                rw [UP.out, su_stop dj (.inl hj1)]
                exact hs'
        · have hKbz : ¬ (2 : Int) ≤ (b : Int) - (K : Int) := by omega
          go_wp2_with fail
          go_roundg k
          case measure => omega
          case rel =>
            refine ⟨K, s + 1, fixUp ltInt b K dd, rfl, by simp, by omega, by omega, by omega, ?_, E3'.out⟩
            rw [fixUp, if_neg hKb2]
            exact hs3
end Go.Proofs.Ybulkdsqs
