/-
  THE PLAIN LAW of LawS5968CWhole: no bit of o lies outside s, bit by bit or in one word.
-/
import Derived.Test.YbulkdsooCCallees
namespace Go.Proofs.Ybulkdsoo
open Go.RowKit

/-- Bit b of o is set and that of s is not. -/
def badB (s o : Int) (b : Nat) : Bool := (bits .and .u64 (o / 2 ^ b) 1 == 1) && (bits .and .u64 (s / 2 ^ b) 1 == 0)
def goodB (s o : Int) (n : Nat) : Bool := (List.range n).all fun b => !badB s o b
theorem goodB_succ (s o : Int) (n : Nat) : goodB s o (n + 1) = (goodB s o n && !badB s o n) := by simp [goodB, List.range_succ]
theorem goodB_bad (s o : Int) (n b : Nat) (hb : b < n) (h : badB s o b = true) : goodB s o n = false := by
  simp only [goodB, List.all_eq_false, List.mem_range]
  exact ⟨b, hb, by simp [h]⟩
def goodW (s o : Int) : Bool := goodB s o 64
def good (f g : Nat → Int) (n : Nat) : Bool := (List.range n).all fun i => goodW (f i) (g i)
theorem good_succ (f g : Nat → Int) (n : Nat) : good f g (n + 1) = (good f g n && goodW (f n) (g n)) := by simp [good, List.range_succ]
theorem good_mono (f g : Nat → Int) (n j : Nat) (h : j ≤ n) (hj : good f g j = false) : good f g n = false := by
  simp only [good, List.all_eq_false, List.mem_range] at hj ⊢
  obtain ⟨x, hx, hb⟩ := hj
  exact ⟨x, by omega, hb⟩

theorem and_one (A b : Nat) (hA : A < 18446744073709551616) : bits .and .u64 ((A : Int) / 2 ^ b) 1 = ((A / 2 ^ b % 2 : Nat) : Int) := by
  have e : ((A : Int) / 2 ^ b) = ((A / 2 ^ b : Nat) : Int) := by simp
  have hl : A / 2 ^ b ≤ A := Nat.div_le_self _ _
  have h := u64_and_nat (A / 2 ^ b) 1 (by omega) (by omega)
  rw [e]
  rw [Nat.and_one_is_mod] at h
  exact h

theorem badB_test (S O b : Nat) (hS : S < 18446744073709551616) (hO : O < 18446744073709551616) : badB (S : Int) (O : Int) b = (O.testBit b && !S.testBit b) := by
  rw [badB, and_one O b hO, and_one S b hS, Nat.testBit_eq_decide_div_mod_eq, Nat.testBit_eq_decide_div_mod_eq]
  have h1 : O / 2 ^ b % 2 = 0 ∨ O / 2 ^ b % 2 = 1 := by omega
  have h2 : S / 2 ^ b % 2 = 0 ∨ S / 2 ^ b % 2 = 1 := by omega
  rcases h1 with h1 | h1 <;> rcases h2 with h2 | h2 <;> rw [h1, h2] <;> rfl

theorem goodW_word (s o : Int) (hs : 0 ≤ s) (hs' : s < 18446744073709551616) (ho : 0 ≤ o) (ho' : o < 18446744073709551616) : goodW s o = (bits .andNot .u64 o s == 0) := by
  obtain ⟨S, rfl⟩ := Int.eq_ofNat_of_zero_le hs
  obtain ⟨O, rfl⟩ := Int.eq_ofNat_of_zero_le ho
  have hS : S < 2 ^ 64 := by omega
  have hO : O < 2 ^ 64 := by omega
  have e : (18446744073709551615 - S) = 2 ^ 64 - (S + 1) := by omega
  have hz : (O &&& (18446744073709551615 - S) = 0) ↔ ∀ b, b < 64 → badB (S : Int) (O : Int) b = false := by
    constructor
    · intro h b hb
      have ht : (O &&& (18446744073709551615 - S)).testBit b = false := by rw [h]; exact Nat.zero_testBit b
      rw [Nat.testBit_and, e, Nat.testBit_two_pow_sub_succ hS] at ht
      rw [badB_test S O b (by omega) (by omega)]
      simpa [hb] using ht
    · intro h
      refine Nat.eq_of_testBit_eq fun b => ?_
      rw [Nat.testBit_and, e, Nat.testBit_two_pow_sub_succ hS, Nat.zero_testBit]
      by_cases hb : b < 64
      · have := h b hb
        rw [badB_test S O b (by omega) (by omega)] at this
        simpa [hb] using this
      · simp [hb]
  rw [u64_andNot_nat O S (by omega) (by omega)]
  rw [Bool.eq_iff_iff]
  simp only [goodW, goodB, List.all_eq_true, List.mem_range, beq_iff_eq]
  constructor
  · intro h
    have := hz.2 (fun b hb => by simpa using h b hb)
    rw [this]; rfl
  · intro h b hb
    have := hz.1 (by omega) b hb
    simp [this]

theorem good_incl (f g : Nat → Int) (n : Nat) (hf : ∀ i, i < n → 0 ≤ f i ∧ f i < 18446744073709551616) (hg : ∀ i, i < n → 0 ≤ g i ∧ g i < 18446744073709551616) : good f g n = incl f g n := by
  induction n with
  | zero => rfl
  | succ n ih =>
    rw [good_succ, incl_succ, ih (fun i hi => hf i (by omega)) (fun i hi => hg i (by omega)), goodW_word _ _ (hf n (by omega)).1 (hf n (by omega)).2 (hg n (by omega)).1 (hg n (by omega)).2]

end Go.Proofs.Ybulkdsoo
