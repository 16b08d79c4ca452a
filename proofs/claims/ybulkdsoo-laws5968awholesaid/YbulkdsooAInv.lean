/-
  WHAT HOLDS OF THE MEMORY that LawS5968AWhole makes, and what each step does to it.
-/
import Derived.Test.YbulkdsooAPlain
namespace Go.Proofs.Ybulkdsoo
open Go.RowKit
set_option linter.unusedSimpArgs false
set_option linter.unusedVariables false

/-- The first loop: j sessions are made. -/
structure L1 (w wr : World) (j : Nat) : Prop where
  below : Below w.heap.size w wr
  size : wr.heap.size = w.heap.size + 1 + j
  arr : wr.rowIs w.heap.size 26 3 (fun t => if t < j then .pointer (some ⟨w.heap.size + 1 + t, 0, none⟩) else .pointer none)
  ses : ∀ t, t < j → wr.cell? ⟨w.heap.size + 1 + t, 6, none⟩ = some (.slice none 0 0) ∧ wr.frozen? ⟨w.heap.size + 1 + t, 6, none⟩ = false

theorem L1_start (w : World) : L1 w (w.alloc (.cells #[.pointer none, .pointer none, .pointer none] 26)) 0 :=
  ⟨(Below.refl _ _).alloc (Nat.le_refl _) _, by simp, World.rowIs_alloc w _ 26 _ (fun i hi => by
    match i, hi with
    | 0, _ => rfl
    | 1, _ => rfl
    | 2, _ => rfl), fun t ht => absurd ht (Nat.not_lt_zero _)⟩

theorem L1_step {w wr : World} {j : Nat} (h : L1 w wr j) (c : Array Value) (hc : c[6]? = some (.slice none 0 0)) :
    L1 w ((wr.alloc (.cells c 33)).setCell ⟨w.heap.size, j, none⟩ (.pointer (some ⟨wr.heap.size, 0, none⟩))) (j + 1) := by
  have hs := h.size
  refine ⟨(h.below.alloc (by omega) _).setCell (Nat.le_refl _) _, by simp [hs]; omega, ((h.arr.alloc _).set j _).congr (fun t _ => ?_), fun t ht => ?_⟩
  · by_cases e : t = j
    · subst e; simp [hs]
    · rw [if_neg e]
      by_cases hlt : t < j
      · rw [if_pos hlt, if_pos (by omega)]
      · rw [if_neg hlt, if_neg (by omega)]
  · by_cases e : t = j
    · subst e
      have hb : ((wr.alloc (.cells c 33)).setCell ⟨w.heap.size, t, none⟩ (.pointer (some ⟨wr.heap.size, 0, none⟩))).heap[w.heap.size + 1 + t]? = some (.cells c 33 (0, 0)) := by
        rw [Below.heap_setCell _ _ _ _ (by show w.heap.size + 1 + t ≠ w.heap.size; omega), ← hs]
        exact heap_alloc_new wr _
      refine ⟨?_, ?_⟩
      · simp only [World.cell?, hb]; simpa using hc
      · simp [World.frozen?, hb]
    · obtain ⟨h1, h2⟩ := h.ses t (by omega)
      have hb : ((wr.alloc (.cells c 33)).setCell ⟨w.heap.size, j, none⟩ (.pointer (some ⟨wr.heap.size, 0, none⟩))).heap[w.heap.size + 1 + t]? = wr.heap[w.heap.size + 1 + t]? := by
        rw [Below.heap_setCell _ _ _ _ (by show w.heap.size + 1 + t ≠ w.heap.size; omega)]
        exact Below.heap_alloc wr _ _ (by omega)
      exact ⟨(World.cell?_of_block (a := ⟨w.heap.size + 1 + t, 6, none⟩) hb).trans h1, (World.frozen?_of_block (a := ⟨w.heap.size + 1 + t, 6, none⟩) hb).trans h2⟩

/-- The second loop: the sessions list the first kl locks; the first kw entries of ws are filled. -/
structure Inv (w wr : World) (m kl kw : Nat) (o : Nat → Nat) (M : Nat → Int) (V : Nat → Value) : Prop where
  below : Below w.heap.size w wr
  size : w.heap.size + 5 ≤ wr.heap.size
  arr : ∀ j, j < 3 → wr.cell? ⟨w.heap.size, j, none⟩ = some (.pointer (some ⟨w.heap.size + 1 + j, 0, none⟩))
  ses : ∀ j, j < 3 → wr.cell? ⟨w.heap.size + 1 + j, 6, none⟩ = some (V j)
  free : ∀ j, j < 3 → wr.frozen? ⟨w.heap.size + 1 + j, 6, none⟩ = false
  ws : W3 wr (w.heap.size + 4) m (fun t => if t < kw then some ⟨w.heap.size + 1 + o t, 0, none⟩ else none) (fun t => if t < kw then M t else 0) (fun t => if t < kw then (rank o t : Int) else 0)
  own : ∀ j, j < 3 → wr.ownsRow (w.heap.size + 5) 38 4 (V j) (Ls o j kl).length (shc (Ls o j kl))
  apart : ∀ i j, i < 3 → j < 3 → i ≠ j → (V i).ownBlock = none ∨ (V i).ownBlock ≠ (V j).ownBlock

theorem madeCells_wl (m : Nat) : ∀ i, i < m * 3 → (madeCells #[.pointer none, .int .i32 0, .int .i32 0] (m * 3))[i]? = some (wl (fun _ => none) (fun _ => 0) (fun _ => 0) i) := by
  intro i hi
  have h3 : i % 3 = 0 ∨ i % 3 = 1 ∨ i % 3 = 2 := by omega
  rcases h3 with h | h | h <;> simp [madeCells, hi, wl, h]

theorem Inv_start {w wr : World} (h : L1 w wr 3) (m : Nat) (o : Nat → Nat) (M : Nat → Int) :
    Inv w (wr.alloc (.cells (madeCells #[.pointer none, .int .i32 0, .int .i32 0] (m * 3)) 40)) m 0 0 o M (fun _ => .slice none 0 0) := by
  have hs := h.size
  refine ⟨h.below.alloc (by omega) _, by simp [hs], fun j hj => ?_, fun j hj => ?_, fun j hj => ?_, ?_, fun j hj => ?_, fun i j _ _ _ => .inl rfl⟩
  · have := (h.arr.alloc (.cells (madeCells #[.pointer none, .int .i32 0, .int .i32 0] (m * 3)) 40)).cell hj
    simpa [hj] using this
  · exact Lib.cell?_alloc_some _ (h.ses j hj).1
  · rw [World.frozen?_of_block (w := wr) (Below.heap_alloc wr _ _ (by show w.heap.size + 1 + j < _; omega))]
    exact (h.ses j hj).2
  · have := World.rowIs_alloc wr (madeCells #[.pointer none, .int .i32 0, .int .i32 0] (m * 3)) 40 (wl (fun _ => none) (fun _ => 0) (fun _ => 0)) (fun i hi => madeCells_wl m i (by rw [size_madeCells] at hi; exact hi))
    rw [size_madeCells, hs] at this
    exact W3.congr (m := m) this (fun t _ => by simp)
  · rw [Ls_zero]; exact World.ownsRow_nil _ _ _ _

/-- A world that parts from wr by new blocks and draws alone. -/
theorem Inv.of_blocks {w wr wr' : World} {m kl kw : Nat} {o : Nat → Nat} {M : Nat → Int} {V : Nat → Value} (h : Inv w wr m kl kw o M V) (hg : wr.grownBy wr' none) : Inv w wr' m kl kw o M V := by
  have hsz := h.size
  have hb : ∀ k, k < wr.heap.size → wr'.heap[k]? = wr.heap[k]? := fun k hk => hg.block k hk (by simp)
  refine ⟨h.below.trans ⟨hg.os, hg.tape, hg.output, hg.size, fun k hk => hb k (by have := h.below.size; omega)⟩, Nat.le_trans h.size hg.size, fun j hj => ?_, fun j hj => ?_, fun j hj => ?_, h.ws.of_block (hb _ (by omega)), fun j hj => (h.own j hj).kept hg (Classical.em _), h.apart⟩
  · exact hg.cell (h.arr j hj) (by simp)
  · exact hg.cell (h.ses j hj) (by simp)
  · exact (World.frozen?_of_block (w := wr) (hb _ (by show w.heap.size + 1 + j < _; omega))).trans (h.free j hj)

/-- 's.shared = append(s.shared, sharedLock{waiting: int32(k)})'. -/
theorem Inv_append {w wr w2 : World} {m k : Nat} {o : Nat → Nat} {M : Nat → Int} {V : Nat → Value} (h : Inv w wr m k k o M V) (ho : o k < 3)
    (v' : Value) (hown : w2.ownsRow (w.heap.size + 5) 38 4 v' ((Ls o (o k) k).length + 1) (shc (Ls o (o k) k) ++ shc [(k : Int)]))
    (ob : Obj) (hg : (wr.alloc ob).grownBy w2 (V (o k)).ownBlock) (hw : v'.ownBlock = (V (o k)).ownBlock ∧ (V (o k)).ownBlock ≠ none ∨ v'.ownBlock = some (wr.alloc ob).heap.size) :
    Inv w (w2.setCell ⟨w.heap.size + 1 + o k, 6, none⟩ v') m (k + 1) k o M (up V (o k) v') := by
  have hsz := h.size
  have hbs := h.below.size
  have hz1 : (wr.alloc ob).heap.size = wr.heap.size + 1 := by simp
  have hz2 : wr.heap.size + 1 ≤ w2.heap.size := by rw [← hz1]; exact hg.size
  -- the row that was written lies behind B + 5
  have hrow : ∀ q, (V (o k)).ownBlock = some q → w.heap.size + 5 ≤ q ∧ q < wr.heap.size := (h.own (o k) ho).lt
  have hb : ∀ q, q < wr.heap.size → some q ≠ (V (o k)).ownBlock → w2.heap[q]? = wr.heap[q]? := fun q hq hne =>
    (hg.block q (by omega) hne).trans (Below.heap_alloc wr ob q hq)
  have hlow : ∀ q, q < w.heap.size + 5 → some q ≠ (V (o k)).ownBlock := fun q hq e => by have := hrow q e.symm; omega
  have hvr : ∀ q, v'.ownBlock = some q → w.heap.size + 5 ≤ q := fun q e => (hown.lt q e).1
  have hS : ∀ q, q ≠ w.heap.size + 1 + o k → (w2.setCell ⟨w.heap.size + 1 + o k, 6, none⟩ v').heap[q]? = w2.heap[q]? := fun q hq => Below.heap_setCell _ _ _ _ hq
  have hcur : w2.cell? ⟨w.heap.size + 1 + o k, 6, none⟩ = some (V (o k)) :=
    (World.cell?_of_block (a := ⟨w.heap.size + 1 + o k, 6, none⟩) (hb (w.heap.size + 1 + o k) (by omega) (hlow (w.heap.size + 1 + o k) (by omega)))).trans (h.ses _ ho)
  have hfro : w2.frozen? ⟨w.heap.size + 1 + o k, 6, none⟩ = false :=
    (World.frozen?_of_block (a := ⟨w.heap.size + 1 + o k, 6, none⟩) (hb (w.heap.size + 1 + o k) (by omega) (hlow (w.heap.size + 1 + o k) (by omega)))).trans (h.free _ ho)
  refine ⟨?_, ?_, fun j hj => ?_, fun j hj => ?_, fun j hj => ?_, ?_, fun j hj => ?_, fun i j hi hj hne => ?_⟩
  · refine Below.setCell ?_ (by show w.heap.size ≤ w.heap.size + 1 + o k; omega) _
    exact (h.below.alloc hbs ob).grown hg (by simp; omega) (fun q e => by have := hrow q e; omega)
  · simp [World.setCell]; omega
  · rw [World.cell?_of_block (w := wr) (a := ⟨w.heap.size, j, none⟩) ((hS w.heap.size (by omega)).trans (hb _ (by omega) (hlow _ (by omega))))]
    exact h.arr j hj
  · by_cases e : j = o k
    · subst e
      rw [up_same]
      simp [World.cell?_setCell_same, hcur]
    · rw [up_other _ _ _ _ e, World.cell?_of_block (w := wr) (a := ⟨w.heap.size + 1 + j, 6, none⟩) ((hS _ (by show w.heap.size + 1 + j ≠ _; omega)).trans (hb _ (by show w.heap.size + 1 + j < _; omega) (hlow _ (by show w.heap.size + 1 + j < _; omega))))]
      exact h.ses j hj
  · by_cases e : j = o k
    · subst e
      simp [hfro]
    · rw [World.frozen?_of_block (w := wr) (a := ⟨w.heap.size + 1 + j, 6, none⟩) ((hS _ (by show w.heap.size + 1 + j ≠ _; omega)).trans (hb _ (by show w.heap.size + 1 + j < _; omega) (hlow _ (by show w.heap.size + 1 + j < _; omega))))]
      exact h.free j hj
  · exact h.ws.of_block ((hS _ (by omega)).trans (hb _ (by omega) (hlow _ (by omega))))
  · by_cases e : j = o k
    · subst e
      rw [up_same, Ls_hit _ _ _ rfl, shc_append]
      have := ownsRow_setCell_other hown (a := ⟨w.heap.size + 1 + o k, 6, none⟩) (fun e => by have : w.heap.size + 5 ≤ w.heap.size + 1 + o k := hvr _ e; omega) v'
      simpa using this
    · rw [up_other _ _ _ _ e, Ls_miss _ _ _ (fun e' => e e'.symm)]
      refine ownsRow_setCell_other ?_ (fun e' => by have : w.heap.size + 5 ≤ w.heap.size + 1 + o k := ((h.own j hj).lt _ e').1; omega) v'
      refine ((h.own j hj).alloc ob).kept hg ?_
      exact h.apart j (o k) hj ho e
  · -- the rows still lie apart
    have key : ∀ j, j < 3 → j ≠ o k → v'.ownBlock = none ∨ v'.ownBlock ≠ (V j).ownBlock := by
      intro j hj e
      rcases hw with ⟨h1, h2⟩ | h1
      · rw [h1]; exact h.apart (o k) j ho hj (fun e' => e e'.symm)
      · refine .inr fun e' => ?_
        rw [h1] at e'
        have := ((h.own j hj).lt _ e'.symm).2
        omega
    by_cases e1 : i = o k
    · subst e1
      rw [up_same, up_other _ _ _ _ (fun e => hne e.symm)]
      exact key j hj (fun e => hne e.symm)
    · rw [up_other _ _ _ _ e1]
      by_cases e2 : j = o k
      · subst e2
        rw [up_same]
        rcases key i hi e1 with hk | hk
        · rcases hw with ⟨h1, h2⟩ | h1
          · rw [h1] at hk; exact absurd hk h2
          · rw [h1] at hk; cases hk
        · exact .inr fun e' => hk e'.symm
      · rw [up_other _ _ _ _ e2]
        exact h.apart i j hi hj hne

theorem Inv_append_cell {w wr w2 : World} {m k : Nat} {o : Nat → Nat} {M : Nat → Int} {V : Nat → Value} (h : Inv w wr m k k o M V) (ho : o k < 3) (ob : Obj) (hg : (wr.alloc ob).grownBy w2 (V (o k)).ownBlock) :
    w2.cell? ⟨w.heap.size + 1 + o k, 6, none⟩ = some (V (o k)) ∧ w2.frozen? ⟨w.heap.size + 1 + o k, 6, none⟩ = false := by
  have hsz := h.size
  have hne : some (w.heap.size + 1 + o k) ≠ (V (o k)).ownBlock := fun e => by have := ((h.own (o k) ho).lt _ e.symm).1; omega
  have hb : w2.heap[w.heap.size + 1 + o k]? = wr.heap[w.heap.size + 1 + o k]? := (hg.block _ (by simp; omega) hne).trans (Below.heap_alloc wr ob _ (by omega))
  exact ⟨(World.cell?_of_block (a := ⟨w.heap.size + 1 + o k, 6, none⟩) hb).trans (h.ses _ ho), (World.frozen?_of_block (a := ⟨w.heap.size + 1 + o k, 6, none⟩) hb).trans (h.free _ ho)⟩

theorem new_cells (w : World) (cs : List Value) (t : TypeId) : ∀ j u, cs[j]? = some u → (w.alloc (.cells cs.toArray t)).cell? ((⟨w.heap.size, 0, none⟩ : Addr).add j) = some u := by
  intro j u h
  have e : ((⟨w.heap.size, 0, none⟩ : Addr).add j) = ⟨w.heap.size, j, none⟩ := by rw [Addr.add_lit]; simp
  have hb : (w.alloc (.cells cs.toArray t)).heap[w.heap.size]? = some (.cells cs.toArray t (0, 0)) := heap_alloc_new w _
  rw [e]
  simp only [World.cell?, hb]
  simpa using h

theorem own_shape {w : World} {base : Nat} {e : TypeId} {size : Nat} {v : Value} {n : Nat} {xs : List Value} (h : w.ownsRow base e size v n xs) : ∃ a c, v = .slice a n c := by
  rcases h.2 with ⟨e1, e2⟩ | ⟨g, cap, cur, e1, _⟩
  · exact ⟨none, 0, by rw [e1, e2]⟩
  · exact ⟨_, _, e1⟩

/-- 'ws[k] = waitingLock{..}'. -/
theorem Inv_store {w wr : World} {m k : Nat} {o : Nat → Nat} {M : Nat → Int} {V : Nat → Value} (h : Inv w wr m (k + 1) k o M V) :
    Inv w (((wr.setCell ⟨w.heap.size + 4, k * 3, none⟩ (.pointer (some ⟨w.heap.size + 1 + o k, 0, none⟩))).setCell ⟨w.heap.size + 4, k * 3 + 1, none⟩ (.int .i32 (M k))).setCell ⟨w.heap.size + 4, k * 3 + 2, none⟩ (.int .i32 (rank o k))) m (k + 1) (k + 1) o M V := by
  have hsz := h.size
  obtain ⟨W', hW'⟩ : ∃ W', W' = (((wr.setCell ⟨w.heap.size + 4, k * 3, none⟩ (.pointer (some ⟨w.heap.size + 1 + o k, 0, none⟩))).setCell ⟨w.heap.size + 4, k * 3 + 1, none⟩ (.int .i32 (M k))).setCell ⟨w.heap.size + 4, k * 3 + 2, none⟩ (.int .i32 (rank o k))) := ⟨_, rfl⟩
  have hg : wr.grownBy W' (some (w.heap.size + 4)) := by
    rw [hW']
    exact grownBy_trans (grownBy_trans (grownBy_setCell _ _ _ _) (grownBy_setCell _ _ _ _)) (grownBy_setCell _ _ _ _)
  have hws := h.ws.store k (some ⟨w.heap.size + 1 + o k, 0, none⟩) (M k) (rank o k)
  rw [← hW'] at hws ⊢
  clear hW'
  refine ⟨h.below.grown hg (by have := h.below.size; omega) (fun q e => by cases e; omega), Nat.le_trans h.size hg.size, fun j hj => ?_, fun j hj => ?_, fun j hj => ?_, ?_, fun j hj => ?_, h.apart⟩
  · exact hg.cell (h.arr j hj) (by simp)
  · exact hg.cell (h.ses j hj) (by simp; omega)
  · exact (grownBy_frozen hg (a := ⟨w.heap.size + 1 + j, 6, none⟩) (by show w.heap.size + 1 + j < _; omega) (by simp; omega)).trans (h.free j hj)
  · refine hws.congr fun t _ => ?_
    by_cases e : t = k
    · subst e; simp [up]
    · have e' : (t < k + 1) = (t < k) := by rw [eq_iff_iff]; omega
      simp [up, e, e']
  · refine (h.own j hj).kept hg (.inr fun e => ?_)
    have := (h.own j hj).lt _ e
    omega

theorem Inv.drew {w wr : World} {m kl kw : Nat} {o : Nat → Nat} {M : Nat → Int} {V : Nat → Value} (h : Inv w wr m kl kw o M V) : Inv w wr.drew m kl kw o M V :=
  h.of_blocks ⟨rfl, rfl, rfl, Nat.le_refl _, fun _ _ _ => rfl⟩

end Go.Proofs.Ybulkdsoo
