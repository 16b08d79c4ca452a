/-
  LawS5972COrder: slices.reverseRangeOrdered and insertionSortOrdered at uint64.
-/
import Derived.Test.YbulkdsqsOSt
namespace Go.Proofs.Ybulkdsqs
open Go.RowKit Go.Sort
set_option linter.unusedSimpArgs false
set_option linter.unusedVariables false

theorem rev_go {i j : Nat} (d : Array Int) (h : i < j) : reverseLoop i j d = reverseLoop (i + 1) (j - 1) (swp d i j) := by rw [reverseLoop, if_pos h]
theorem rev_end {i j : Nat} (d : Array Int) (h : ¬ i < j) : reverseLoop i j d = d := by rw [reverseLoop, if_neg h]

set_option maxHeartbeats 1600000 in
set_option maxRecDepth 1000000 in
theorem rev19 (w0 : World) (g o n c a b : Nat) (d : Array Int) (w : World) (h : St w0 g o n d w) (hab : a ≤ b) (hb : b ≤ n) (hn : n < 4611686018427387904) :
    Calls Yba.prog 19 #[.slice (some ⟨g, o, none⟩) n c, .int .i64 a, .int .i64 b] w fun e w' => e = .returned (.tuple #[]) ∧ St w0 g o n (reverseRange d a b) w' := by
  go_enter Yba.func19, Yba.ntmps19
  go_wp2_with fail
  go_loopg [6, 7] (b - a) (fun k s6 s7 wr => ∃ (i : Nat) (z : Int) (dk : Array Int), s6 = .int .i64 i ∧ s7 = .int .i64 z ∧ -1 ≤ z ∧ z < b ∧ z - i < k ∧ i ≤ b ∧ St w0 g o n dk wr ∧ Aside (reverseLoop i z.toNat dk = reverseLoop a (b - 1) d))
  case atStart => 
    refine ⟨a, (b : Int) - 1, d, rfl, rfl, by omega, by omega, by omega, hab, h, ?_⟩
    rw [show ((b : Int) - 1).toNat = b - 1 by omega]
    exact rfl
  case round =>
    obtain ⟨i, z, dk, rfl, rfl, hz, hzb, hzk, hib, hs, he⟩ := hrel
    clear h
    by_cases hlt : (i : Int) < z
    · obtain ⟨j, rfl⟩ : ∃ j : Nat, z = j := ⟨z.toNat, by omega⟩
      obtain ⟨G, hG, hc, hf⟩ := hs.sees
      obtain ⟨y', hy'⟩ := still (p := ⟨g, o + i, none⟩) (x := .int .u64 (G j)) (hc j (by omega))
      go_wp2_with fail
      go_region
      go_wp2_with fail
      go_roundg (j - 1 - i)
      case measure => omega
      case rel =>
        refine ⟨i + 1, (j : Int) - 1, swp dk i j, by simp, rfl, by omega, by omega, by omega, by omega, hs.swap hG (by omega) (by omega) 1, ?_⟩
        rw [show ((j : Int) - 1).toNat = j - 1 by omega]
        exact (rev_go dk (by omega)).symm.trans (by have := he.out; simpa using this)
    · go_wp2_with fail
      go_end0
      refine ⟨rfl, ?_⟩
      have := he.out
      rw [rev_end dk (by omega)] at this
      rw [reverseRange, ← this]
      exact hs

theorem ins_in {a j : Nat} (d : Array Int) (hj : a < j) (hl : ltInt d[j]! d[j - 1]! = true) : insInner ltInt a j d = insInner ltInt a (j - 1) (swp d j (j - 1)) := by
  obtain ⟨k, rfl⟩ : ∃ k, j = k + 1 := ⟨j - 1, by omega⟩
  rw [Nat.add_sub_cancel] at hl ⊢
  rw [insInner, hl]
  simp [hj]
theorem ins_out {a j : Nat} (d : Array Int) (h : j ≤ a ∨ ltInt d[j]! d[j - 1]! = false) : insInner ltInt a j d = d := by
  rcases j with _ | k
  · rfl
  · rw [insInner]
    rcases h with h | h
    · simp [Nat.not_lt.2 h]
    · rw [Nat.add_sub_cancel] at h
      simp [h]

set_option maxHeartbeats 1600000 in
set_option maxRecDepth 1000000 in
theorem ins15 (w0 : World) (g o n c a b : Nat) (d : Array Int) (w : World) (h : St w0 g o n d w) (hab : a ≤ b) (hb : b ≤ n) (hn : n < 4611686018427387904) :
    Calls Yba.prog 15 #[.slice (some ⟨g, o, none⟩) n c, .int .i64 a, .int .i64 b] w fun e w' => e = .returned (.tuple #[]) ∧ St w0 g o n (insertionSort ltInt d a b) w' := by
  go_enter Yba.func15, Yba.ntmps15
  go_wp2_with fail
  go_loopg [6] (b + 1 - a) (fun k s6 wr => ∃ (i : Nat) (dk : Array Int), s6 = .int .i64 i ∧ a < i ∧ b + 1 - i ≤ k ∧ i ≤ b + 1 ∧ St w0 g o n dk wr ∧ Aside (insOuter ltInt a b i dk = insertionSort ltInt d a b))
  case atStart => exact ⟨a + 1, d, by simp, by omega, by omega, by omega, h, rfl⟩
  case round =>
    obtain ⟨i, dk, rfl, hai, hik, hib, hs, he⟩ := hrel
    clear h
    by_cases hlt : i < b
    rotate_left
    · go_wp2_with fail
      go_end0
      refine ⟨rfl, ?_⟩
      have := he.out
      rw [insOuter, if_neg hlt] at this
      rw [← this]
      exact hs
    go_wp2_with fail
    go_loopg [7] i (fun k s7 wj => ∃ (j : Nat) (dj : Array Int), s7 = .int .i64 j ∧ a ≤ j ∧ j ≤ k ∧ j ≤ i ∧ St w0 g o n dj wj ∧ Aside (insInner ltInt a j dj = insInner ltInt a i dk))
    case atStart => exact ⟨i, dk, rfl, by omega, by omega, by omega, hs, rfl⟩
    case round =>
      obtain ⟨j, dj, rfl, haj, hjk, hji, hsj, hej⟩ := hrel
      clear hs
      obtain ⟨G, hG, hc, hf⟩ := hsj.sees
      have done : (j ≤ a ∨ ltInt dj[j]! dj[j - 1]! = false) → Aside (insOuter ltInt a b (i + 1) dj = insertionSort ltInt d a b) := fun hx => by
        have h1 := he.out
        rw [insOuter, if_pos hlt, ← hej.out, ins_out dj hx] at h1
        exact h1
      have DONE : Aside _ := done
      clear done
      go_wp2_with fail
      by_cases hja : a < j
      · go_quiet (first | (go_at_call 21; refine Calls.quiet_of_same (lss _ _ _)))
        go_wp2_with fail
        · have hl : ltInt (G j) (G (j - 1)) = true := by assumption
          go_region
          all_goals go_wp2_with fail
          go_roundg (j - 1)
          case measure => omega
          case rel =>
            exact ⟨j - 1, swp dj j (j - 1), by congr 1; omega, by omega, by omega, by omega, hsj.swap hG (by omega) (by omega) (nq + 1), (ins_in dj hja (by rw [← hG.out, ← hG.out]; exact hl)).symm.trans hej.out⟩
        · have hl : ltInt (G j) (G (j - 1)) = false := by assumption
          go_roundg (b + 1 - (i + 1))
          case measure => omega
          case rel => exact ⟨i + 1, dj, by simp, by omega, by omega, by omega, hsj.drewN nq, DONE.out (.inr (by rw [← hG.out, ← hG.out]; exact hl))⟩
      · go_quiet (first | (go_at_call 21; refine Calls.quiet_of_same (lss _ _ _)))
        go_wp2_with fail
        go_roundg (b + 1 - (i + 1))
        case measure => omega
        case rel => exact ⟨i + 1, dj, by simp, by omega, by omega, by omega, hsj.drewN nq, DONE.out (.inl (by omega))⟩
end Go.Proofs.Ybulkdsqs
