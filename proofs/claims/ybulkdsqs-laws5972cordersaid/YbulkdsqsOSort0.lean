/-
  LawS5972COrder: a row of sixty-four-bit numbers of the law's own, one of them stored.
-/
import Derived.Test.YbulkdsqsOLaws
namespace Go.Proofs.Ybulkdsqs
open Go.RowKit
set_option linter.unusedSimpArgs false
set_option linter.unusedVariables false

/-- The cell of a number. -/
abbrev nc (z : Int) : Value := .int .u64 z
/-- A row of numbers. -/
def Rw (w : World) (g n c : Nat) (d : List Int) : Prop := d.length = n ∧ w.ownsRow 0 26 1 (.slice (some ⟨g, 0, none⟩) n c) n (d.map nc)
theorem take_mid (L cs : List Value) (o k n : Nat) (h : o + k ≤ n) (hn : n ≤ L.length) (hk : cs.length = k) : (L.take o ++ cs ++ L.drop (o + k)).take n = (L.take n).take o ++ (cs ++ (L.take n).drop (o + k)) := by
  have e1 : L.drop (o + k) = (L.take n).drop (o + k) ++ L.drop n := by
    have := List.drop_append_of_le_length (l₁ := L.take n) (l₂ := L.drop n) (i := o + k) (by rw [List.length_take]; omega)
    rw [← this, List.take_append_drop]
  have e2 : L.take o = (L.take n).take o := by rw [List.take_take, Nat.min_eq_left (by omega)]
  rw [e1, e2]
  have e3 : (L.take n).take o ++ cs ++ ((L.take n).drop (o + k) ++ L.drop n) = ((L.take n).take o ++ (cs ++ (L.take n).drop (o + k))) ++ L.drop n := by simp [List.append_assoc]
  rw [e3]
  refine List.take_left' ?_
  simp only [List.length_append, List.length_take, List.length_drop, hk]
  omega
theorem run_store_one {P : Program} (hz : (P.info? 26).map (·.size) = some 1) {w : World} {g n c i : Nat} {d : List Int} (h : Rw w g n c d) (hi : i < d.length) (y : Int) :
    ∃ w', (storeVar 26 ⟨g, i, none⟩ (nc y)).run P w = .ok () w' ∧ Rw w' g n c (d.set i y) ∧ w.grownBy w' (some g) := by
  obtain ⟨hl, ho⟩ := h
  rcases ho.2 with ⟨e, _⟩ | ⟨g', cap, cur, e, _, hg, hc, hm, hsz, ht⟩
  · simp at e
  simp only [Value.slice.injEq, Option.some.injEq, Addr.mk.injEq, and_true, true_and] at e
  obtain ⟨rfl, rfl⟩ := e
  have hcur : n ≤ cur.size := by omega
  have hst := run_storeCells_at P g i 26 [nc y] 0 cur w hg (by simp; omega) (by simp [Value.oneCell'])
  simp only [Nat.add_zero, List.length_cons, List.length_nil, Nat.zero_add] at hst
  refine ⟨w.setRow g (cur.toList.take i ++ [nc y] ++ cur.toList.drop (i + 1)).toArray, ?_, ⟨by rw [List.length_set, hl], ⟨by simp [hl], .inr ⟨g, c, _, rfl, Nat.zero_le _, setRow_heap _ _ _ _ _ _ hg, hc, hm, ?_, ?_⟩⟩⟩, ⟨rfl, rfl, rfl, by simp [World.setRow], fun k _ hk => setRow_other _ _ _ _ (fun e => hk (by rw [e]))⟩⟩
  · cases hq : P.info? 26 with
    | none => simp [hq] at hz
    | some j =>
      have hs' : j.size = 1 := by simpa [hq] using hz
      have hv : (nc y).cells = #[nc y] := rfl
      simp [storeVar, sizeOf, typeInfo, hq, hv, hs']
      simpa using hst
  · simp only [List.size_toArray, List.length_append, List.length_take, List.length_drop, List.length_cons, List.length_nil, Array.length_toList]
    omega
  · have e1 := take_mid cur.toList [nc y] i 1 n (by omega) (by simpa using hcur) rfl
    rw [Nat.mul_one] at ht ⊢
    show (cur.toList.take i ++ [nc y] ++ cur.toList.drop (i + 1)).take n = _
    rw [e1, ht, List.map_set, List.set_eq_take_append_cons_drop, if_pos (by simpa using hi)]
    rfl
theorem Rw.get {w : World} {g n c : Nat} {d : List Int} (h : Rw w g n c d) {i : Nat} {x : Int} (hx : d[i]? = some x) : w.cell? ⟨g, i, none⟩ = some (nc x) := by
  have := h.2.cells (g := g) rfl i (nc x) (by rw [List.getElem?_map, hx]; rfl)
  rwa [Addr.add_mid, Nat.zero_add] at this
theorem Rw.kept {w w' : World} {g n c : Nat} {d : List Int} {row : Option Nat} (h : Rw w g n c d) (q : w.grownBy w' row) (hne : row ≠ some g) : Rw w' g n c d :=
  ⟨h.1, own_kept h.2 q (fun q' hq e => by simp [Value.ownBlock] at hq; subst hq; exact hne e)⟩
end Go.Proofs.Ybulkdsqs
