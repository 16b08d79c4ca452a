/-
  LawS5972COrder: a row of waits; Less, Swap, Len of waitHeap.
-/
import Derived.Test.YbulkdsqsOIfc
import Derived.Test.YbulkdsqsOHeap
namespace Go.Proofs.Ybulkdsqs
open Go.RowKit Go.Sort
set_option linter.unusedSimpArgs false
set_option linter.unusedVariables false

/-- The cell of a wait's address. -/
def pc (b : Nat) : Value := .pointer (some ⟨b, 0, none⟩)
/-- Of w0 the row at block g holds the waits d by now; some draws, some new blocks. -/
structure Sp (w0 : World) (g n : Nat) (d : Array Nat) (W : World) : Prop where
  size : d.size = n
  low : g < w0.heap.size
  base : ∃ d0 : Array Nat, d0.size = n ∧ Holds pc w0 g 0 d0
  here : At pc w0 g 0 d W
section
variable {w0 W : World} {g n : Nat} {d d' : Array Nat}
theorem Sp.start (h : Holds pc w0 g 0 d) (hg : g < w0.heap.size) : Sp w0 g d.size d w0 := ⟨rfl, hg, ⟨d, rfl, h⟩, At.refl h⟩
theorem Sp.holds (h : Sp w0 g n d W) : Holds pc W g 0 d ∧ g < W.heap.size := by
  obtain ⟨d0, hs, h0⟩ := h.base
  exact h.here.holds h0 (h.size.trans hs.symm) h.low
theorem Sp.sees (h : Sp w0 g n d W) : ∃ G : Nat → Nat, Aside (∀ t, G t = d[t]!) ∧ (∀ t, t < n → W.cell? ⟨g, t, none⟩ = some (.pointer (some ⟨G t, 0, none⟩))) ∧ (∀ t, t < n → W.frozen? ⟨g, t, none⟩ = false) := by
  have hh := h.holds.1
  refine ⟨fun t => d[t]!, fun _ => rfl, fun t ht => ?_, fun t ht => ?_⟩
  · have := (hh t (by rw [h.size]; exact ht)).1
    rwa [Nat.zero_add] at this
  · have := (hh t (by rw [h.size]; exact ht)).2
    rwa [Nat.zero_add] at this
theorem Sp.drewN (h : Sp w0 g n d W) (q : Nat) : Sp w0 g n d (W.drewN q) := { h with here := h.here.ahead q }
theorem Sp.swap (h : Sp w0 g n d W) {G : Nat → Nat} (hG : Aside (∀ t, G t = d[t]!)) {i j : Nat} (hi : i < n) (hj : j < n) (q : Nat) :
    Sp w0 g n (swp d i j) (((W.setCell ⟨g, i, none⟩ (.pointer (some ⟨G j, 0, none⟩))).setCell ⟨g, j, none⟩ (.pointer (some ⟨G i, 0, none⟩))).drewN q) := by
  have hs := h.size
  refine ⟨by rw [size_swp]; exact hs, h.low, h.base, h.here.step h.low (size_swp _ _ _) ⟨q, ?_⟩⟩
  have e := putRow_swp pc W g 0 d i j (by omega) (by omega)
  rw [putRow_self _ _ _ _ _ h.holds.1, Nat.zero_add, Nat.zero_add] at e
  rw [hG.out, hG.out]
  show Sort.ahead _ q = _
  unfold pc at e
  rw [e]
  rfl
/-- What lies elsewhere stands. -/
theorem Sp.else (h : Sp w0 g n d W) {b k : Nat} (hb : b < w0.heap.size) (hne : b ≠ g) : W.cell? ⟨b, k, none⟩ = w0.cell? ⟨b, k, none⟩ ∧ W.frozen? ⟨b, k, none⟩ = w0.frozen? ⟨b, k, none⟩ := by
  obtain ⟨m, os, e⟩ := h.here
  rw [e]
  constructor
  · rw [cell?_grow _ _ _ (by simpa using hb), cell?_putRow_other _ _ _ _ _ _ (.inl hne)]
    rfl
  · rw [frozen?_grow _ _ _ (by simpa using hb), frozen?_putRow]
    rfl
end

/-- What of the world ahead of the heap's own steps is read: the variable h, the waits' numbers. -/
structure Kx (w0 : World) (hb g n c : Nat) (kf : Nat → Int) (S : List Nat) : Prop where
  var : w0.cell? ⟨hb, 0, none⟩ = some (.slice (some ⟨g, 0, none⟩) n c)
  vlt : hb < w0.heap.size
  vne : hb ≠ g
  keys : ∀ b ∈ S, b < w0.heap.size ∧ b ≠ g ∧ w0.cell? ⟨b, 6, none⟩ = some (.int .u64 (kf b))
theorem Kx.cell {w0 W : World} {hb g n c : Nat} {kf : Nat → Int} {S : List Nat} {d : Array Nat} (h : Kx w0 hb g n c kf S) (hs : Sp w0 g n d W) : W.cell? ⟨hb, 0, none⟩ = some (.slice (some ⟨g, 0, none⟩) n c) := by
  rw [(hs.else h.vlt h.vne).1]; exact h.var
theorem Kx.key {w0 W : World} {hb g n c : Nat} {kf : Nat → Int} {S : List Nat} {d : Array Nat} (h : Kx w0 hb g n c kf S) (hs : Sp w0 g n d W) (hp : d.toList.Perm S) {t : Nat} (ht : t < n) : W.cell? ⟨d[t]!, 6, none⟩ = some (.int .u64 (kf d[t]!)) := by
  have hm : d[t]! ∈ S := by
    refine (hp.mem_iff).1 ?_
    have hz := hs.size
    rw [getElem!_pos d t (by omega), ← Array.mem_def]
    exact Array.getElem_mem _
  obtain ⟨k1, k2, k3⟩ := h.keys _ hm
  rw [(hs.else k1 k2).1]; exact k3

set_option maxHeartbeats 1600000 in
set_option maxRecDepth 1000000 in
theorem less52 {w0 : World} {hb g n c : Nat} {kf : Nat → Int} {S : List Nat} (K : Kx w0 hb g n c kf S) (d : Array Nat) (w : World) (h : Sp w0 g n d w) (hp : d.toList.Perm S) (i j : Nat) (hi : i < n) (hj : j < n) (hn : n ≤ 4096) :
    Calls Yba.prog 52 #[.slice (some ⟨g, 0, none⟩) n c, .int .i64 i, .int .i64 j] w fun e w' => e = .returned (.bool (decide (ks kf d i < ks kf d j))) ∧ Sp w0 g n d w' := by
  obtain ⟨G, hG, hc, hf⟩ := h.sees
  have k1 := K.key h hp hi
  have k2 := K.key h hp hj
  rw [← hG.out] at k1 k2
  have e : decide (ks kf d i < ks kf d j) = decide (kf (G i) < kf (G j)) := by rw [hG.out, hG.out]; rfl
  rw [e]
  clear e
  go_enter Yba.func52, Yba.ntmps52
  go_wp2_with fail
  go_quiet (fail)
  go_wp2_with fail
  refine bodyPost_ret (v := .bool (decide (kf (G i) < kf (G j)))) (by kernel_rfl) rfl ⟨rfl, h.drewN nq⟩

set_option maxHeartbeats 1600000 in
set_option maxRecDepth 1000000 in
theorem swap53 {w0 : World} {g n : Nat} (c : Nat) (d : Array Nat) (w : World) (h : Sp w0 g n d w) (i j : Nat) (hi : i < n) (hj : j < n) (hn : n ≤ 4096) :
    Calls Yba.prog 53 #[.slice (some ⟨g, 0, none⟩) n c, .int .i64 i, .int .i64 j] w fun e w' => e = .returned (.tuple #[]) ∧ Sp w0 g n (swp d i j) w' := by
  obtain ⟨G, hG, hc, hf⟩ := h.sees
  obtain ⟨y', hy'⟩ := still (p := ⟨g, i, none⟩) (x := .pointer (some ⟨G j, 0, none⟩)) (hc j hj)
  go_enter Yba.func53, Yba.ntmps53
  go_wp2_with fail
  go_region
  go_wp2_with fail
  go_end0
  exact ⟨rfl, h.swap hG hi hj 1⟩

theorem len9 (a : Option Addr) (n c : Nat) (w : World) : Calls Yba.prog 9 #[.slice a n c] w fun e w' => e = .returned (.int .i64 n) ∧ w' = w := by
  go_enter Yba.func9, Yba.ntmps9
  go_wp2_with fail
  refine bodyPost_ret (v := .int .i64 n) (by kernel_rfl) rfl ⟨rfl, rfl⟩
end Go.Proofs.Ybulkdsqs
