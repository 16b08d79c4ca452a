/-
  LawS5972COrder: the sort's own row of sixty-four-bit numbers: its state under one word.
-/
import Derived.Test.YbulkdsqsOLaws
import Derived.Sort.Walk13a
import Derived.CellFam
import Derived.BigGuard
import Derived.BigCall
import Derived.Deep.Draws
import Derived.RegionTactic
namespace Go.Proofs.Ybulkdsqs
open Go.RowKit Go.Sort
set_option linter.unusedSimpArgs false
set_option linter.unusedVariables false

/-- Of w0 the row at block g holds d by now; some draws, some new blocks; nothing else has turned. -/
structure St (w0 : World) (g o n : Nat) (d : Array Int) (W : World) : Prop where
  size : d.size = n
  low : g < w0.heap.size
  base : ∃ d0 : Array Int, d0.size = n ∧ Holds (Value.int .u64) w0 g o d0
  here : At (Value.int .u64) w0 g o d W

section
variable {w0 W : World} {g o n : Nat} {d d' : Array Int}

theorem St.start (h : Holds (Value.int .u64) w0 g o d) (hg : g < w0.heap.size) : St w0 g o d.size d w0 := ⟨rfl, hg, ⟨d, rfl, h⟩, At.refl h⟩
theorem St.holds (h : St w0 g o n d W) : Holds (Value.int .u64) W g o d ∧ g < W.heap.size := by
  obtain ⟨d0, hs, h0⟩ := h.base
  exact h.here.holds h0 (h.size.trans hs.symm) h.low
theorem St.sees (h : St w0 g o n d W) : ∃ G : Nat → Int, Aside (∀ t, G t = d[t]!) ∧ (∀ t, t < n → W.cell? ⟨g, o + t, none⟩ = some (.int .u64 (G t))) ∧ (∀ t, t < n → W.frozen? ⟨g, o + t, none⟩ = false) := by
  have hh := h.holds.1
  exact ⟨fun t => d[t]!, fun _ => rfl, fun t ht => (hh t (by rw [h.size]; exact ht)).1, fun t ht => (hh t (by rw [h.size]; exact ht)).2⟩
theorem St.drewN (h : St w0 g o n d W) (q : Nat) : St w0 g o n d (W.drewN q) := { h with here := h.here.ahead q }
theorem St.drew (h : St w0 g o n d W) : St w0 g o n d W.drew := h.drewN 1
theorem St.swap (h : St w0 g o n d W) {G : Nat → Int} (hG : Aside (∀ t, G t = d[t]!)) {i j : Nat} (hi : i < n) (hj : j < n) (q : Nat) :
    St w0 g o n (swp d i j) (((W.setCell ⟨g, o + i, none⟩ (.int .u64 (G j))).setCell ⟨g, o + j, none⟩ (.int .u64 (G i))).drewN q) := by
  have hs := h.size
  refine ⟨by rw [size_swp]; exact hs, h.low, h.base, h.here.step h.low (size_swp _ _ _) ⟨q, ?_⟩⟩
  have e := putRow_swp (Value.int .u64) W g o d i j (by omega) (by omega)
  rw [putRow_self _ _ _ _ _ h.holds.1] at e
  rw [hG.out, hG.out, e]
  rfl
theorem St.alloc (h : St w0 g o n d W) (ob : Obj) : St w0 g o n d (W.alloc ob) := by
  obtain ⟨m, os, e⟩ := h.here
  exact { h with here := ⟨m, os ++ #[ob], by rw [e, alloc_eq_grow, grow_grow]⟩ }
theorem St.other (h : St w0 g o n d W) {b k : Nat} (hb : w0.heap.size ≤ b) (v : Value) : St w0 g o n d (W.setCell ⟨b, k, none⟩ v) := by
  obtain ⟨m, os, e⟩ := h.here
  refine { h with here := ⟨m, os.modify (b - w0.heap.size) (onCells (·.setIfInBounds k v)), ?_⟩ }
  have hz : (putRow (Value.int .u64) (Sort.ahead w0 m) g o d).heap.size = w0.heap.size := by simp
  rw [e, setCell_eq, mapBlock_grow_new _ _ _ _ (by rw [hz]; exact hb), hz]
theorem St.le (h : St w0 g o n d W) : w0.heap.size ≤ W.heap.size := by
  obtain ⟨m, os, e⟩ := h.here
  rw [e, size_grow, size_putRow]
  exact Nat.le_add_right _ _
/-- A store's cell is still there behind another store. -/
theorem still {w : World} {p q : Addr} {x y : Value} (h : w.cell? q = some y) : ∃ y', (w.setCell p x).cell? q = some y' := cell?_setCell_some h
end

theorem lss (x y : Int) (w : World) : Calls Yba.prog 21 #[.int .u64 x, .int .u64 y] w fun e w' => e = .returned (.bool (ltInt x y)) ∧ w' = w :=
  (less21 x y w).mono fun _ _ ⟨h, h'⟩ => ⟨h, h'.symm⟩

end Go.Proofs.Ybulkdsqs
