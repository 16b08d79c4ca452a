/-
  LawS5970CWhole: twenty bytes as a number: the difference, the order.
-/
import Derived.Test.YbulkdspqFmtCDist
namespace Go.Proofs.YbulkdspqFmt
open Go.RowKit
set_option linter.unusedSimpArgs false
set_option linter.unusedVariables false

/-- The number of the k lowest bytes. -/
def lowv (f : Nat → Int) : Nat → Int
  | 0 => 0
  | k + 1 => lowv f k + f (19 - k) * 256 ^ k
/-- The number of twenty bytes. -/
def nm (f : Nat → Int) : Int := lowv f 20

theorem pow_pos' (k : Nat) : (0 : Int) < 256 ^ k := Int.pow_pos (by omega)
theorem lowv_bd {f : Nat → Int} (h : Byt f) : ∀ k, k ≤ 20 → 0 ≤ lowv f k ∧ lowv f k < 256 ^ k
  | 0, _ => by simp [lowv]
  | k + 1, hk => by
    have ih := lowv_bd h k (by omega)
    have hb := h (19 - k) (by omega)
    have hp := pow_pos' k
    have h1 : 0 ≤ f (19 - k) * 256 ^ k := Int.mul_nonneg hb.1 (by omega)
    have h2 : f (19 - k) * 256 ^ k ≤ 255 * 256 ^ k := Int.mul_le_mul_of_nonneg_right (by omega) (by omega)
    rw [lowv, Int.pow_succ]
    omega
theorem lowv_dg (a b : Nat → Int) : ∀ k, k ≤ 20 → lowv (dg a b) k = lowv a k - lowv b k + brw a b k * 256 ^ k
  | 0, _ => by simp [lowv, brw]
  | k + 1, hk => by
    have ih := lowv_dg a b k (by omega)
    have hs := brw_step a b (i := 19 - k) (by omega)
    rw [show 20 - (19 - k) = k + 1 by omega, show 19 - (19 - k) = k by omega] at hs
    have hd : dg a b (19 - k) = a (19 - k) - b (19 - k) - brw a b k + brw a b (k + 1) * 256 := by
      rw [hs]
      unfold dg
      rw [show 19 - (19 - k) = k by omega]
      split <;> omega
    rw [lowv, lowv, lowv, ih, hd, Int.pow_succ, Int.add_mul, Int.sub_mul, Int.sub_mul, Int.mul_assoc, Int.mul_comm (256 : Int) (256 ^ k)]
    omega
/-- The difference, as a number. -/
theorem nm_dg {a b : Nat → Int} (ha : Byt a) (hb : Byt b) : nm (dg a b) = (nm a - nm b) % 256 ^ 20 := by
  have h := lowv_dg a b 20 (Nat.le_refl _)
  have hd : Byt (dg a b) := fun i hi => dg_bd ha hb hi
  have h1 := lowv_bd hd 20 (Nat.le_refl _)
  have h2 := brw_bd a b 20
  unfold nm
  generalize lowv (dg a b) 20 = x at *
  generalize lowv a 20 = y at *
  generalize lowv b 20 = z at *
  generalize brw a b 20 = r at *
  have hr : r = 0 ∨ r = 1 := by omega
  rcases hr with rfl | rfl
  · rw [Int.zero_mul, Int.add_zero] at h
    rw [← h]
    exact (Int.emod_eq_of_lt h1.1 h1.2).symm
  · rw [Int.one_mul] at h
    have : y - z = x - 256 ^ 20 := by omega
    rw [this, Int.sub_emod, Int.emod_self, Int.sub_zero, Int.emod_emod_of_dvd _ (Int.dvd_refl _)]
    exact (Int.emod_eq_of_lt h1.1 h1.2).symm
theorem lowv_congr {f g : Nat → Int} : ∀ k, (∀ i, 20 - k ≤ i → i < 20 → f i = g i) → k ≤ 20 → lowv f k = lowv g k
  | 0, _, _ => rfl
  | k + 1, h, hk => by rw [lowv, lowv, lowv_congr k (fun i h1 h2 => h i (by omega) h2) (by omega), h (19 - k) (by omega) (by omega)]
/-- Two numbers are the same only if all bytes are. -/
theorem nm_inj {f g : Nat → Int} (hf : Byt f) (hg : Byt g) : ∀ k, k ≤ 20 → lowv f k = lowv g k → ∀ i, 20 - k ≤ i → i < 20 → f i = g i
  | 0, _, _, i, h1, h2 => by omega
  | k + 1, hk, he, i, h1, h2 => by
    have b1 := lowv_bd hf k (by omega)
    have b2 := lowv_bd hg k (by omega)
    rw [lowv, lowv] at he
    have hp := pow_pos' k
    have e : f (19 - k) = g (19 - k) := by
      rcases Int.lt_trichotomy (f (19 - k)) (g (19 - k)) with h | h | h
      · have := Int.mul_le_mul_of_nonneg_right (show f (19 - k) + 1 ≤ g (19 - k) by omega) (show (0 : Int) ≤ 256 ^ k by omega)
        rw [Int.add_mul, Int.one_mul] at this
        omega
      · exact h
      · have := Int.mul_le_mul_of_nonneg_right (show g (19 - k) + 1 ≤ f (19 - k) by omega) (show (0 : Int) ≤ 256 ^ k by omega)
        rw [Int.add_mul, Int.one_mul] at this
        omega
    rw [e] at he
    by_cases hi : i = 19 - k
    · rw [hi]; exact e
    · exact nm_inj hf hg k (by omega) (by omega) i (by omega) h2

end Go.Proofs.YbulkdspqFmt
