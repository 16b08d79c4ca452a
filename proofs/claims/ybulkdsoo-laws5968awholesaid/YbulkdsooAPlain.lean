/-
  THE PLAIN PART of LawS5968AWhole: which locks a session lists, and at which places.
-/
import Derived.Test.YbulkdsooAStop
namespace Go.Proofs.Ybulkdsoo
open Go.RowKit
set_option linter.unusedSimpArgs false
set_option linter.unusedVariables false

/-- The first k locks that session j lists, in order. -/
def Ls (o : Nat → Nat) (j k : Nat) : List Int := ((List.range k).filter fun t => o t == j).map fun (t : Nat) => (t : Int)

/-- The place of lock t among its session's. -/
def rank (o : Nat → Nat) (t : Nat) : Nat := (Ls o (o t) t).length

theorem Ls_zero (o : Nat → Nat) (j : Nat) : Ls o j 0 = [] := rfl
theorem Ls_hit (o : Nat → Nat) (j k : Nat) (h : o k = j) : Ls o j (k + 1) = Ls o j k ++ [(k : Int)] := by
  simp [Ls, List.range_succ, List.filter_append, h]
theorem Ls_miss (o : Nat → Nat) (j k : Nat) (h : o k ≠ j) : Ls o j (k + 1) = Ls o j k := by
  simp [Ls, List.range_succ, List.filter_append, h]
theorem Ls_le (o : Nat → Nat) (j k : Nat) : (Ls o j k).length ≤ k := by
  simp only [Ls, List.length_map]
  exact Nat.le_trans (List.length_filter_le _ _) (by simp)

/-- Going on from k to m only adds behind. -/
theorem Ls_prefix (o : Nat → Nat) (j k d : Nat) : ∃ r, Ls o j (k + d) = Ls o j k ++ r := by
  induction d with
  | zero => exact ⟨[], by simp⟩
  | succ d ih =>
    obtain ⟨r, hr⟩ := ih
    by_cases h : o (k + d) = j
    · exact ⟨r ++ [((k + d : Nat) : Int)], by rw [← Nat.add_assoc, Ls_hit _ _ _ h, hr, List.append_assoc]⟩
    · exact ⟨r, by rw [← Nat.add_assoc, Ls_miss _ _ _ h, hr]⟩

theorem Ls_at (o : Nat → Nat) (t m : Nat) (h : t < m) : (Ls o (o t) m)[rank o t]? = some (t : Int) := by
  obtain ⟨r, hr⟩ := Ls_prefix o (o t) (t + 1) (m - (t + 1))
  rw [show t + 1 + (m - (t + 1)) = m by omega, Ls_hit o (o t) t rfl] at hr
  rw [hr, rank, List.append_assoc, List.getElem?_append_right (Nat.le_refl _)]
  simp

theorem rank_lt (o : Nat → Nat) (t m : Nat) (h : t < m) : rank o t < (Ls o (o t) m).length := by
  have := Ls_at o t m h
  exact (List.getElem?_eq_some_iff.1 this).1

theorem rank_ne (o : Nat → Nat) (t m : Nat) (h : t < m) (e : o t = o m) : rank o t ≠ rank o m := by
  have := rank_lt o t m h
  rw [e] at this
  have e2 : rank o m = (Ls o (o m) m).length := rfl
  omega

/-- What the sessions list behind stopWaiting(i). -/
def After (o : Nat → Nat) (m i j : Nat) : List Int := if i < m - 1 ∧ o (m - 1) = j then (Ls o j m).set (rank o (m - 1)) (i : Int) else Ls o j m

theorem After_len (o : Nat → Nat) (m i j : Nat) : (After o m i j).length = (Ls o j m).length := by
  unfold After; split <;> simp

theorem After_at (o : Nat → Nat) (m i t : Nat) (h : t < m) : (After o m i (o t))[rank o t]? = some (if t = m - 1 ∧ i < m - 1 then (i : Int) else (t : Int)) := by
  unfold After
  by_cases hc : i < m - 1 ∧ o (m - 1) = o t
  · rw [if_pos hc]
    by_cases ht : t = m - 1
    · subst ht
      rw [if_pos ⟨rfl, hc.1⟩, List.getElem?_set_self]
      exact rank_lt o (m - 1) m h
    · have hne := rank_ne o t (m - 1) (by omega) hc.2.symm
      rw [if_neg (by omega), List.getElem?_set_ne (by omega)]
      exact Ls_at o t m h
  · rw [if_neg hc]
    by_cases ht : t = m - 1 ∧ i < m - 1
    · exact absurd ⟨ht.2, by rw [ht.1]⟩ hc
    · rw [if_neg ht]
      exact Ls_at o t m h

/-- The cells of a row of sharedLock of which 'waiting' alone is set. -/
def shc (l : List Int) : List Value := l.flatMap fun t => [.pointer none, .int .i32 0, .int .i32 0, .int .i32 t]

theorem shc_len (l : List Int) : (shc l).length = l.length * 4 := by
  induction l with
  | nil => rfl
  | cons a l ih => simp only [shc, List.flatMap_cons, List.length_append, List.length_cons, List.length_nil] at ih ⊢; omega
theorem shc_append (a b : List Int) : shc (a ++ b) = shc a ++ shc b := by simp [shc]
theorem shc_one (t : Int) : shc [t] = [.pointer none, .int .i32 0, .int .i32 0, .int .i32 t] := by simp [shc]

theorem shc_at : ∀ (l : List Int) (r : Nat) (t : Int), l[r]? = some t → (shc l)[r * 4 + 3]? = some (.int .i32 t)
  | [], r, t, h => by simp at h
  | a :: l, 0, t, h => by simp at h; subst h; simp [shc]
  | a :: l, r + 1, t, h => by
    have ih := shc_at l r t (by simpa using h)
    have e : (r + 1) * 4 + 3 = r * 4 + 3 + 4 := by omega
    rw [e]
    simpa [shc] using ih

theorem shc_set : ∀ (l : List Int) (r : Nat) (t : Int), (shc l).set (r * 4 + 3) (.int .i32 t) = shc (l.set r t)
  | [], r, t => by simp [shc]
  | a :: l, 0, t => by simp [shc]
  | a :: l, r + 1, t => by
    have ih := shc_set l r t
    have e : (r + 1) * 4 + 3 = r * 4 + 3 + 4 := by omega
    rw [e]
    simpa [shc] using ih

end Go.Proofs.Ybulkdsoo
