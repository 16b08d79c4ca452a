/-
  LawS5972COrder: slices.heapSortOrdered at uint64.
-/
import Derived.Test.YbulkdsqsOSift
namespace Go.Proofs.Ybulkdsqs
open Go.RowKit Go.Sort
set_option linter.unusedSimpArgs false
set_option linter.unusedVariables false

theorem half_of {a b : Nat} (hab : a ≤ b) : ((b : Int) - (a : Int) - 1).tdiv 2 = (((b - a - 1) / 2 : Nat) : Int) := by
  rcases Nat.eq_or_lt_of_le hab with h | h
  · subst h
    rw [show ((a : Int) - (a : Int) - 1) = -1 by omega]
    simp
  · rw [Int.tdiv_eq_ediv_of_nonneg (by omega)]
    omega

set_option maxHeartbeats 3200000 in
set_option maxRecDepth 1000000 in
theorem heap16 (w0 : World) (g o n c a b : Nat) (d : Array Int) (w : World) (h : St w0 g o n d w) (hab : a ≤ b) (hb : b ≤ n) (hn : n < 4611686018427387904) :
    Calls Yba.prog 16 #[.slice (some ⟨g, o, none⟩) n c, .int .i64 a, .int .i64 b] w fun e w' => e = .returned (.tuple #[]) ∧ St w0 g o n (heapSort ltInt d a b) w' := by
  have ecast : ((b - a : Nat) : Int) = (b : Int) - (a : Int) := by omega
  have EC : Aside _ := ecast
  clear ecast
  have HALF : Aside _ := half_of hab
  go_enter Yba.func16, Yba.ntmps16
  go_wp2_with fail
  go_loopg [9] ((b - a - 1) / 2 + 1) (fun k s9 wr => ∃ dk : Array Int, ((k = 0 ∧ s9 = .int .i64 (-1)) ∨ ∃ i : Nat, k = i + 1 ∧ s9 = .int .i64 i ∧ i ≤ (b - a - 1) / 2) ∧ St w0 g o n dk wr ∧ Aside (heapBuild ltInt (b - a) a k dk = heapBuild ltInt (b - a) a ((b - a - 1) / 2 + 1) d))
  case atStart => exact ⟨d, .inr ⟨(b - a - 1) / 2, rfl, by rw [← HALF.out], Nat.le_refl _⟩, h, rfl⟩
  case round =>
    obtain ⟨dk, hk, hs, he⟩ := hrel
    clear h
    rcases hk with ⟨rfl, rfl⟩ | ⟨i, rfl, rfl, hi⟩
    · go_wp2_with fail
      go_loopg [10] (b - a) (fun k s10 wr => ∃ dj : Array Int, ((k = 0 ∧ s10 = .int .i64 (-1)) ∨ ∃ i : Nat, k = i + 1 ∧ s10 = .int .i64 i ∧ i < b - a) ∧ St w0 g o n dj wr ∧ Aside (heapPop ltInt a k dj = heapSort ltInt d a b))
      case atStart =>
        have e : heapPop ltInt a (b - a) dk = heapSort ltInt d a b := by
          have := he.out
          unfold heapSort
          rw [← this]
          rfl
        refine ⟨dk, ?_, hs, e⟩
        rcases Nat.eq_or_lt_of_le hab with h' | h'
        · exact .inl ⟨by omega, by congr 1; omega⟩
        · exact .inr ⟨b - a - 1, by omega, by congr 1; omega, by omega⟩
      case round =>
        obtain ⟨dj, hk, hs, he⟩ := hrel
        rcases hk with ⟨rfl, rfl⟩ | ⟨i, rfl, rfl, hi⟩
        · go_wp2_with fail
          go_end0
          refine ⟨rfl, ?_⟩
          have := he.out
          rw [← this]
          exact hs
        · obtain ⟨G, hG, hc, hf⟩ := hs.sees
          obtain ⟨y', hy'⟩ := still (p := ⟨g, o + a, none⟩) (x := .int .u64 (G (a + i))) (hc (a + i) (by omega))
          go_wp2_with fail
          go_region
          go_wp2_with fail
          refine (sift26 w0 g o n c 0 i a (swp dj a (a + i)) _ (hs.swap hG (by omega) (by omega) 1) (by omega) (by omega) hn).mono ?_
          rintro e w1 ⟨rfl, hs1⟩
          clear hs hc hf hy'
          go_wp2_with fail
          go_roundg i
          case measure => omega
          case rel =>
            refine ⟨siftDown ltInt i a 0 (swp dj a (a + i)), ?_, hs1, he.out⟩
            rcases i with _ | i
            · exact .inl ⟨rfl, by simp⟩
            · exact .inr ⟨i, rfl, by congr 1; omega, by omega⟩
    · have hcall := sift26 w0 g o n c i (b - a) a dk wr hs (by omega) (by omega) hn
      rw [EC.out] at hcall
      go_wp2_with (go_at_call 26; refine hcall.mono ?_; rintro e w1 ⟨rfl, hs1⟩)
      go_roundg i
      case measure => omega
      case rel =>
        refine ⟨siftDown ltInt (b - a) a i dk, ?_, hs1, he.out⟩
        rcases i with _ | i
        · exact .inl ⟨rfl, by simp⟩
        · exact .inr ⟨i, rfl, by congr 1; omega, by omega⟩
end Go.Proofs.Ybulkdsqs
