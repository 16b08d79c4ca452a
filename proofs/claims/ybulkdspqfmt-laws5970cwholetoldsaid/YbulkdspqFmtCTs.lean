/-
  LawS5970CWhole: small identifiers, clockwise distances from one of them, ranks among members in order.
-/
import Derived.Test.YbulkdspqFmtCLess
namespace Go.Proofs.YbulkdspqFmt
open Go.RowKit
set_option linter.unusedSimpArgs false
set_option linter.unusedVariables false

/-- Sixteen bits. -/
def Sm (x : Int) : Prop := 0 ≤ x ∧ x < 65536
/-- The cells of a small identifier. -/
abbrev ic (x : Int) : List Value := ab (cf x)
theorem ic_len (x : Int) : (ic x).length = 20 := rfl
theorem ic_one (x : Int) : ∀ v ∈ ic x, v.oneCell' = true := ab_one _
theorem byt_cf {x : Int} (h : Sm x) : Byt (cf x) := by
  intro i hi
  unfold Sm at h
  unfold cf
  split
  · omega
  · split <;> omega
theorem nm_cf {x y : Int} (hx : Sm x) (hy : Sm y) : nm (cf x) = nm (cf y) ↔ x = y := by
  constructor
  · intro h
    have e := ab_of_nm (byt_cf hx) (byt_cf hy) h
    have e0 : some (Value.int .u8 (cf x 0)) = some (Value.int .u8 (cf y 0)) := by rw [← ab_get _ 0 (by omega), ← ab_get _ 0 (by omega), e]
    have e1 : some (Value.int .u8 (cf x 19)) = some (Value.int .u8 (cf y 19)) := by rw [← ab_get _ 19 (by omega), ← ab_get _ 19 (by omega), e]
    simp [cf] at e0 e1
    omega
  · rintro rfl; rfl
/-- The clockwise distance from s to x. -/
def D (s x : Int) : Int := ds (cf s) (cf x)
theorem D_bd (s x : Int) : 0 ≤ D s x ∧ D s x < MM := ds_bd _ _
theorem D_eq {s x y : Int} (hs : Sm s) (hx : Sm x) (hy : Sm y) : D s x = D s y ↔ x = y := by
  rw [← nm_cf hx hy]
  have h1 := nm_bd (byt_cf hx)
  have h2 := nm_bd (byt_cf hy)
  have h3 := nm_bd (byt_cf hs)
  unfold D ds
  revert h1 h2 h3
  generalize nm (cf x) = a
  generalize nm (cf y) = b
  generalize nm (cf s) = c
  unfold MM
  omega
theorem D_self (s : Int) : D s s = 0 := by simp [D, ds]
theorem D_zero {s x : Int} (hs : Sm s) (hx : Sm x) : D s x = 0 ↔ x = s := by
  rw [← D_self s]
  exact D_eq hs hx hs
/-- Members in order. -/
def Ord (s : Int) (ids : List Int) : Prop := ids.Pairwise (fun a b => D s a < D s b)
/-- How many are nearer. -/
def rk (s : Int) (ids : List Int) (x : Int) : Nat := ids.countP (fun y => decide (D s y < D s x))
theorem rk_le (s : Int) (ids : List Int) (x : Int) : rk s ids x ≤ ids.length := List.countP_le_length
theorem rk_get {s x : Int} : ∀ {ids : List Int}, Ord s ids → ∀ i y, ids[i]? = some y → (D s y < D s x ↔ i < rk s ids x)
  | [], _, i, y, h => by simp at h
  | z :: zs, ho, 0, y, h => by
    simp at h; subst h
    have h1 := List.pairwise_cons.1 ho
    unfold rk
    rw [List.countP_cons]
    by_cases hz : D s z < D s x
    · simp [hz]
    · have : zs.countP (fun y => decide (D s y < D s x)) = 0 := by
        rw [List.countP_eq_zero]
        intro a ha
        have := h1.1 a ha
        simp; omega
      simp [hz, this]
  | z :: zs, ho, i + 1, y, h => by
    have h1 := List.pairwise_cons.1 ho
    have ih := rk_get (x := x) h1.2 i y (by simpa using h)
    have hy : y ∈ zs := List.mem_of_getElem? (by simpa using h)
    have hzy := h1.1 y hy
    unfold rk at ih ⊢
    rw [List.countP_cons]
    by_cases hz : D s z < D s x
    · simp [hz, ih]
    · have : ¬ D s y < D s x := by omega
      have h0 : zs.countP (fun y => decide (D s y < D s x)) = 0 := by
        rw [List.countP_eq_zero]
        intro a ha
        have := h1.1 a ha
        simp; omega
      simp [hz, this, h0]
theorem rk_mem {s x : Int} (hs : Sm s) (hx : Sm x) {ids : List Int} (ho : Ord s ids) (hi : ∀ y ∈ ids, Sm y) : x ∈ ids ↔ ids[rk s ids x]? = some x := by
  constructor
  · intro h
    obtain ⟨i, hi', e⟩ := List.mem_iff_getElem.1 h
    have e' : ids[i]? = some x := by rw [List.getElem?_eq_getElem hi', e]
    have h1 := rk_get (x := x) ho i x e'
    have h2 : rk s ids x ≤ i := by
      rcases Nat.lt_or_ge i (rk s ids x) with h | h
      · have := h1.2 h; omega
      · exact h
    rcases Nat.lt_or_eq_of_le h2 with h | h
    · have hl : rk s ids x < ids.length := by omega
      have h3 := rk_get (x := x) ho (rk s ids x) ids[rk s ids x] (List.getElem?_eq_getElem hl)
      have h4 := List.pairwise_iff_getElem.1 ho _ _ hl hi' h
      rw [e] at h4
      have := h3.1 h4
      omega
    · rw [h]; exact e'
  · exact fun h => List.mem_of_getElem? h
/-- The tops' order agrees with the distances'. -/
theorem top_lt {a b : Int} (h : topN a < topN b) : a < b := by unfold topN at h; omega
theorem top_le {a b : Int} (h : a ≤ b) : topN a ≤ topN b := by unfold topN; omega
end Go.Proofs.YbulkdspqFmt
