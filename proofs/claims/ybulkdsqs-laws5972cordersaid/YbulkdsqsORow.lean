/-
  LawS5972COrder: rows of the call's own and the sort's words for them.
-/
import Derived.Test.YbulkdsqsOUp
namespace Go.Proofs.Ybulkdsqs
open Go.RowKit Go.Sort
set_option linter.unusedSimpArgs false
set_option linter.unusedVariables false

section
variable {α : Type} [Inhabited α] {enc : α → Value} {w w0 W : World} {g o n c base : Nat} {T : TypeId} {d : Array α} {xs : List Value}
theorem at_grown (h : At enc w0 g o d W) : w0.grownBy W (some g) := by
  obtain ⟨m, os, rfl⟩ := h
  refine ⟨rfl, rfl, rfl, by simp, fun k hk hne => ?_⟩
  rw [heap_grow_old _ _ (by simpa using hk)]
  simp only [putRow, mapBlock, Array.getElem?_modify]
  rw [if_neg (fun e => hne (by rw [e]))]
  rfl
theorem own_holds (ho : w.ownsRow base T 1 (.slice (some ⟨g, 0, none⟩) n c) n (d.toList.map enc)) : d.size = n ∧ Holds enc w g 0 d ∧ g < w.heap.size := by
  have hl := ho.1
  simp only [List.length_map, Array.length_toList, Nat.mul_one] at hl
  rcases ho.2 with ⟨e, _⟩ | ⟨g', cap, cur, e, hb, hg, hc, hm, hsz, ht⟩
  · simp at e
  simp only [Value.slice.injEq, Option.some.injEq, Addr.mk.injEq, and_true, true_and] at e
  obtain ⟨rfl, rfl⟩ := e
  refine ⟨hl, fun j hj => ⟨?_, ?_⟩, (Array.getElem?_eq_some_iff.1 hg).1⟩
  · simp only [World.cell?, hg, Nat.zero_add]
    have : (cur.toList.take (n * 1))[j]? = some (enc d[j]!) := by
      rw [ht, List.getElem?_map, getElem!_pos d j hj]
      simp [hj]
    rw [List.getElem?_take] at this
    split at this
    · simpa using this
    · simp at this
  · simp [World.frozen?, hg]
theorem at_own (h : At enc w0 g 0 d W) (hn : d.size = n) (ho : w0.ownsRow base T 1 (.slice (some ⟨g, 0, none⟩) n c) n xs) : W.ownsRow base T 1 (.slice (some ⟨g, 0, none⟩) n c) n (d.toList.map enc) := by
  rcases ho.2 with ⟨e, _⟩ | ⟨g', cap, cur, e, hb, hg, hc, hm, hsz, ht⟩
  · simp at e
  simp only [Value.slice.injEq, Option.some.injEq, Addr.mk.injEq, and_true, true_and] at e
  obtain ⟨rfl, rfl⟩ := e
  obtain ⟨m, os, rfl⟩ := h
  have hlt : g < w0.heap.size := (Array.getElem?_eq_some_iff.1 hg).1
  have hg' : (grow (putRow enc (Sort.ahead w0 m) g 0 d) os).heap[g]? = some (.cells (putCells enc 0 d cur) T (0, 0)) := by
    rw [heap_grow_old _ _ (by simpa using hlt)]
    simp only [putRow, mapBlock, Array.getElem?_modify, if_true]
    rw [show (Sort.ahead w0 m).heap = w0.heap from rfl, hg]
    rfl
  refine ⟨by simp [hn], .inr ⟨g, c, _, rfl, hb, hg', hc, hm, by simpa [putCells] using hsz, ?_⟩⟩
  apply List.ext_getElem?
  intro k
  rw [List.getElem?_take, List.getElem?_map]
  by_cases hk : k < n * 1
  · rw [if_pos hk]
    have hk' : k < d.size := by omega
    have hk2 : k < cur.size := by omega
    simp [putCells, Array.getElem?_mapIdx, hk2, hk', getElem!_pos]
  · rw [if_neg hk, List.getElem?_eq_none (by rw [Array.length_toList, hn]; omega)]
    rfl
end

/-- Of w all but the blocks of S stands as it was; blocks may have come. -/
structure Chg (S : Nat → Prop) (w w' : World) : Prop where
  os : w'.os = w.os
  tape : w'.tape = w.tape
  output : w'.output = w.output
  size : w.heap.size ≤ w'.heap.size
  keep : ∀ {q : Nat} {o : Obj}, w.heap[q]? = some o → ¬ S q → w'.heap[q]? = some o
theorem Chg.of {w w' : World} {row : Option Nat} (h : w.grownBy w' row) {S : Nat → Prop} (hS : ∀ q, row = some q → S q ∨ w.heap.size ≤ q) : Chg S w w' :=
  ⟨h.os, h.tape, h.output, h.size, fun {q o} hq hn => (h.block q (Array.getElem?_eq_some_iff.1 hq).1 (fun e => by rcases hS q e.symm with e' | e'; exact hn e'; have := (Array.getElem?_eq_some_iff.1 hq).1; omega)).trans hq⟩
theorem Chg.refl (S : Nat → Prop) (w : World) : Chg S w w := ⟨rfl, rfl, rfl, Nat.le_refl _, fun h _ => h⟩
/-- What a later step changes may be new. -/
theorem Chg.trans {S S' : Nat → Prop} {w w1 w2 : World} (h : Chg S w w1) (k : Chg S' w1 w2) (hS : ∀ q, S' q → S q ∨ w.heap.size ≤ q) : Chg S w w2 :=
  ⟨k.os.trans h.os, k.tape.trans h.tape, k.output.trans h.output, Nat.le_trans h.size k.size, fun {q o} hq hn => k.keep (h.keep hq hn) (fun e => by rcases hS q e with e' | e'; exact hn e'; have := (Array.getElem?_eq_some_iff.1 hq).1; omega)⟩
theorem Chg.own {S : Nat → Prop} {w w' : World} {base : Nat} {e : TypeId} {size : Nat} {v : Value} {n : Nat} {xs : List Value} (k : Chg S w w') (h : w.ownsRow base e size v n xs) (hne : ∀ q, v.ownBlock = some q → ¬ S q) : w'.ownsRow base e size v n xs :=
  ⟨h.1, h.2.imp id fun ⟨g, cap, cur, h1, h2, h3, h4⟩ => ⟨g, cap, cur, h1, h2, k.keep h3 (hne g (by rw [h1]; rfl)), h4⟩⟩
end Go.Proofs.Ybulkdsqs
