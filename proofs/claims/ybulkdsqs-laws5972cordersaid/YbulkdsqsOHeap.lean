/-
  LawS5972COrder: the plain law of a heap: keys D 0 .. D (n - 1), the parent of k at (k - 1) / 2. No Go in sight.
-/
import Derived.Sort.LotA
namespace Go.Proofs.Ybulkdsqs
open Go.Sort
set_option linter.unusedVariables false

/-- Two keys changed round. -/
def sw (D : Nat → Int) (i j : Nat) : Nat → Int := fun k => if k = j then D i else if k = i then D j else D k
def Heap (D : Nat → Int) (n : Nat) : Prop := ∀ k, 0 < k → k < n → D ((k - 1) / 2) ≤ D k
/-- A heap but for the element at j, which may be too small. -/
structure UpI (D : Nat → Int) (n j : Nat) : Prop where
  other : ∀ k, 0 < k → k < n → k ≠ j → D ((k - 1) / 2) ≤ D k
  kids : 0 < j → ∀ k, 0 < k → k < n → (k - 1) / 2 = j → D ((j - 1) / 2) ≤ D k
/-- A heap but for the element at i, which may be too great. -/
structure DnI (D : Nat → Int) (n i : Nat) : Prop where
  other : ∀ k, 0 < k → k < n → (k - 1) / 2 ≠ i → D ((k - 1) / 2) ≤ D k
  kids : 0 < i → ∀ k, 0 < k → k < n → (k - 1) / 2 = i → D ((i - 1) / 2) ≤ D k

theorem UpI.start {D : Nat → Int} {n : Nat} (h : Heap D n) : UpI D (n + 1) n :=
  ⟨fun k h0 hk hn => h k h0 (by omega), fun h0 k hk hn e => by omega⟩
theorem UpI.stop {D : Nat → Int} {n j : Nat} (h : UpI D n j) (hs : 0 < j → D ((j - 1) / 2) ≤ D j) : Heap D n := fun k h0 hk => by
  by_cases e : k = j
  · subst e; exact hs h0
  · exact h.other k h0 hk e
theorem UpI.step {D : Nat → Int} {n j : Nat} (h : UpI D n j) (hj : j < n) (h0 : 0 < j) (hl : D j < D ((j - 1) / 2)) : UpI (sw D ((j - 1) / 2) j) n ((j - 1) / 2) := by
  obtain ⟨i, hi⟩ : ∃ i, i = (j - 1) / 2 := ⟨_, rfl⟩
  have hij : i < j := by omega
  rw [← hi] at hl ⊢
  constructor
  · intro k k0 kn ki
    unfold sw
    by_cases kj : k = j
    · subst kj
      rw [if_neg (show ¬ (k - 1) / 2 = k by omega), if_pos (by omega), if_pos rfl]
      omega
    · have h1 := h.other k k0 kn kj
      rw [if_neg kj, if_neg ki]
      by_cases pj : (k - 1) / 2 = j
      · rw [if_pos pj]
        have := h.kids h0 k k0 kn pj
        rw [← hi] at this
        exact this
      · rw [if_neg pj]
        by_cases pi : (k - 1) / 2 = i
        · rw [if_pos pi]
          rw [pi] at h1
          omega
        · rw [if_neg pi]; exact h1
  · intro i0 k k0 kn pi
    unfold sw
    have e1 := h.other i i0 (by omega) (by omega)
    rw [if_neg (show ¬ (i - 1) / 2 = j by omega), if_neg (show ¬ (i - 1) / 2 = i by omega)]
    by_cases kj : k = j
    · rw [if_pos kj]; exact e1
    · rw [if_neg kj, if_neg (show ¬ k = i by omega)]
      have e2 := h.other k k0 kn kj
      rw [pi] at e2
      omega

theorem DnI.start {D : Nat → Int} {n : Nat} (h : ∀ k, 0 < k → k < n → (k - 1) / 2 ≠ 0 → D ((k - 1) / 2) ≤ D k) : DnI D n 0 := ⟨h, fun h0 => by omega⟩
theorem DnI.stop {D : Nat → Int} {n i : Nat} (h : DnI D n i) (hs : ∀ k, 0 < k → k < n → (k - 1) / 2 = i → D i ≤ D k) : Heap D n := fun k h0 hk => by
  by_cases e : (k - 1) / 2 = i
  · rw [e]; exact hs k h0 hk e
  · exact h.other k h0 hk e
theorem DnI.step {D : Nat → Int} {n i j : Nat} (h : DnI D n i) (hj : j = 2 * i + 1 ∨ j = 2 * i + 2) (hn : j < n) (hm : ∀ k, 0 < k → k < n → (k - 1) / 2 = i → D j ≤ D k) (hl : D j < D i) : DnI (sw D i j) n j := by
  constructor
  · intro k k0 kn pj
    unfold sw
    rw [if_neg pj]
    by_cases kj : k = j
    · subst kj
      rw [if_pos (by omega), if_pos rfl]
      omega
    · rw [if_neg kj]
      by_cases pi : (k - 1) / 2 = i
      · rw [if_pos pi, if_neg (show ¬ k = i by omega)]
        exact hm k k0 kn pi
      · rw [if_neg pi]
        by_cases ki : k = i
        · rw [if_pos ki]
          subst ki
          exact h.kids k0 j (by omega) hn (by omega)
        · rw [if_neg ki]
          exact h.other k k0 kn pi
  · intro j0 k k0 kn pj
    unfold sw
    rw [if_neg (show ¬ (j - 1) / 2 = j by omega), if_pos (show (j - 1) / 2 = i by omega), if_neg (show ¬ k = j by omega), if_neg (show ¬ k = i by omega)]
    have := h.other k k0 kn (by omega)
    rw [pj] at this
    exact this

theorem Heap.root {D : Nat → Int} {n : Nat} (h : Heap D n) : ∀ m k, k ≤ m → k < n → D 0 ≤ D k := by
  intro m
  induction m with
  | zero =>
    intro k hk _
    obtain rfl : k = 0 := by omega
    exact Int.le_refl _
  | succ m ih =>
    intro k hk hn
    rcases Nat.eq_zero_or_pos k with e | e
    · subst e; exact Int.le_refl _
    · exact Int.le_trans (ih ((k - 1) / 2) (by omega) (by omega)) (h k e hn)

/-- The keys of a row of names. -/
def ks (kf : Nat → Int) (d : Array Nat) : Nat → Int := fun k => kf d[k]!
theorem ks_swp (kf : Nat → Int) (d : Array Nat) {i j : Nat} (hi : i < d.size) (hj : j < d.size) : ks kf (swp d i j) = sw (ks kf d) i j := by
  funext k
  unfold ks sw
  by_cases e1 : k = j
  · rw [if_pos e1, e1, swp_right d i j hj]
  · rw [if_neg e1]
    by_cases e2 : k = i
    · rw [if_pos e2, e2, swp_left d i j hi (by omega)]
    · rw [if_neg e2, swp_other d i j k e2 e1]
theorem swp_perm (d : Array Nat) {i j : Nat} (hi : i < d.size) (hj : j < d.size) : (swp d i j).toList.Perm d.toList := by
  have h := swp_permIn d 0 d.size i j (Nat.zero_le _) hi (Nat.zero_le _) hj (Nat.le_refl _)
  have e1 : (swp d i j).extract 0 d.size = swp d i j := by rw [← size_swp d i j]; simp
  have e2 : d.extract 0 d.size = d := by simp
  have := h.2.2
  rwa [e1, e2] at this
end Go.Proofs.Ybulkdsqs
