/-
  THE WALK of (*tasks).done (16).
-/
import Derived.Test.YbulkdspqBDel
namespace Go.Proofs.Ybulkdspq
open Go.RowKit
set_option linter.unusedSimpArgs false
set_option linter.unusedVariables false

/-- The struct s: a free lock, the slice 'all'. -/
def sCell (v : Value) : Nat → Value := fun i => if i = 0 then .int .i32 0 else if i = 1 then .int .u32 0 else v

/-- Behind done(t). -/
structure Gone (w wr w' : World) (n : Nat) (id : Nat → Nat) (g L ti bs : Nat) : Prop where
  pool : Pool w w' n (fun t => if t = ti then 1 else 0)
  str : w'.rowIs bs 89 3 (sCell (.slice (some ⟨g, 0, none⟩) (Kp id ti L).length L))
  kept : ∀ i s, (Kp id ti L)[i]? = some s → w'.cell? ⟨g, i, none⟩ = some (.pointer (some ⟨w.heap.size + 4 + 2 * s, 0, none⟩))
  other : ∀ q, q < wr.heap.size → w.heap.size + 3 + 2 * n ≤ q → q ≠ bs → q ≠ g → w'.heap[q]? = wr.heap[q]?

theorem Pool.count {w wr : World} {n : Nat} (h : Pool w wr n (fun _ => 0)) {t : Nat} (ht : t < n) : Pool w (wr.setCell ⟨w.heap.size + 1, t, none⟩ (.int .i64 1)) n (fun s => if s = t then 1 else 0) := by
  have hs := h.size
  have hb : ∀ k, k ≠ w.heap.size + 1 → (wr.setCell ⟨w.heap.size + 1, t, none⟩ (.int .i64 1)).heap[k]? = wr.heap[k]? := fun k hk => Below.heap_setCell _ _ _ _ hk
  refine ⟨h.below.setCell (by show w.heap.size ≤ w.heap.size + 1; omega) _, by simpa [World.setCell] using hs, h.pool.of_block (hb _ (by omega)), (h.cnts.set t _).congr (fun s _ => by by_cases e : s = t <;> simp [e]), ?_, fun s hs' => ?_, fun s hs' => ?_⟩
  · exact (World.cell?_of_block (a := ⟨w.heap.size + 2, 0, none⟩) (hb (w.heap.size + 2) (by omega))).trans h.box
  · exact (World.cell?_of_block (a := ⟨w.heap.size + 3 + 2 * s, 0, none⟩) (hb (w.heap.size + 3 + 2 * s) (by omega))).trans (h.js s hs')
  · obtain ⟨c, h1, h2⟩ := h.tasks s hs'
    exact ⟨c, (hb _ (by omega)).trans h1, h2⟩

theorem sCell_set {w : World} {bs : Nat} {v : Value} (h : w.rowIs bs 89 3 (sCell v)) (u : Value) : (w.setCell ⟨bs, 2, none⟩ u).rowIs bs 89 3 (sCell u) :=
  (h.set 2 u).congr fun i hi => by
    match i, hi with
    | 0, _ => rfl
    | 1, _ => rfl
    | 2, _ => rfl

set_option maxHeartbeats 800000 in
set_option maxRecDepth 100000 in
theorem done_any {w wr : World} {n : Nat} (h : Pool w wr n (fun _ => 0)) (id : Nat → Nat) (g L ti bs : Nat) (hn : n ≤ 8) (hid : ∀ i, id i < n) (ht : ti < n) (hL : L ≤ 65536)
    (hrow : wr.rowIs g 64 L (fun i => .pointer (some ⟨w.heap.size + 4 + 2 * id i, 0, none⟩))) (hg : w.heap.size + 3 + 2 * n ≤ g) (hbs : w.heap.size + 3 + 2 * n ≤ bs) (hne : bs ≠ g)
    (hstr : wr.rowIs bs 89 3 (sCell (.slice (some ⟨g, 0, none⟩) L L))) :
    Calls Yba.prog 16 #[.pointer (some ⟨bs, 0, none⟩), .pointer (some ⟨w.heap.size + 4 + 2 * ti, 0, none⟩)] wr fun e w' => e = .returned (.tuple #[]) ∧ Gone w wr w' n id g L ti bs := by
  have lg := hrow.lt
  have ls := hstr.lt
  have hz := h.size
  go_enter Yba.func16, Yba.ntmps16
  go_upto_region 0 with fail
  go_cut [3] (fun v wc => v = .pointer (some ⟨wr.heap.size, 0, none⟩) ∧ wr.grownBy wc none ∧ wc.cell? ⟨wr.heap.size, 0, none⟩ = some (.pointer (some ⟨w.heap.size + 4 + 2 * ti, 0, none⟩)))
  case first =>
    go_wp2_with fail
    go_meet
    case rel =>
      refine ⟨rfl, World.grownBy_alloc wr _ none, ?_⟩
      have hb : (wr.alloc (.cells #[.pointer (some ⟨w.heap.size + 4 + 2 * ti, 0, none⟩)] 64)).heap[wr.heap.size]? = some (.cells #[.pointer (some ⟨w.heap.size + 4 + 2 * ti, 0, none⟩)] 64 (0, 0)) := heap_alloc_new wr _
      simp only [World.cell?, hb]
      rfl
  case rest =>
    obtain ⟨rfl, hg1, hb1⟩ := hcut
    have hp1 := h.kept hg1 (fun q e => by cases e)
    have hs1 := hstr.of_block (hg1.block bs ls (by simp))
    have hr1 := hrow.of_block (hg1.block g lg (by simp))
    go_wp2_with fail
    refine (lock_any bs 0 _ (hs1.cell (by decide)) (hs1.frozen 0)).mono ?_
    rintro e w2 ⟨rfl, hw2⟩
    have hg2 : wc.grownBy w2 (some bs) := by rw [hw2]; exact grownBy_setCell _ _ _ _
    have hp2 := hp1.kept hg2 (fun q e => by cases e; exact hbs)
    have hr2 := hr1.of_block (hg2.block g (hr1.lt) (by simpa using fun e => hne e.symm))
    have hb2 := hg2.cell hb1 (by simp; omega)
    have hs2 : w2.rowIs bs 89 3 (fun i => if i = 0 then .int .i32 1 else if i = 1 then .int .u32 0 else .slice (some ⟨g, 0, none⟩) L L) := by
      rw [hw2]
      refine (hs1.set 0 _).congr fun i hi => ?_
      by_cases e : i = 0 <;> simp [e, sCell]
    have c2 := hs2.cell (i := 2) (by decide)
    simp only [if_neg (show ¬ (2 : Nat) = 0 by decide), if_neg (show ¬ (2 : Nat) = 1 by decide)] at c2
    have HW : Hid (w2 = wc.setCell ⟨bs, 0, none⟩ (.int .i32 1)) := hw2
    clear hw2
    go_wp2_with fail
    refine (delete_any hp2 id g L ti wr.heap.size hid ht hL hr2 hg (by omega) hb2).mono ?_
    rintro e w3 ⟨rfl, hg3, hk3⟩
    have hp3 := hp2.kept hg3 (fun q e => by cases e; exact hg)
    have hs3 := hs2.of_block (hg3.block bs hs2.lt (by simpa using hne))
    have hb3 := hg3.cell hb2 (by simp; omega)
    have d2 := hs3.cell (i := 2) (by decide)
    simp only [if_neg (show ¬ (2 : Nat) = 0 by decide), if_neg (show ¬ (2 : Nat) = 1 by decide)] at d2
    have f2 := hs3.frozen 2
    go_wp2_with fail
    have hg4 : w3.grownBy (w3.setCell ⟨bs, 2, none⟩ (.slice (some ⟨g, 0, none⟩) (Kp id ti L).length L)) (some bs) := grownBy_setCell _ _ _ _
    have hs4 := hs3.set 2 (.slice (some ⟨g, 0, none⟩) (Kp id ti L).length L)
    have u0 := hs4.cell (i := 0) (by decide)
    simp only [if_neg (show ¬ (0 : Nat) = 2 by decide), if_true] at u0
    refine (unlock_any bs 0 _ u0 (hs4.frozen 0)).mono ?_
    rintro e w5 ⟨rfl, hw5⟩
    have hg5 : w3.grownBy w5 (some bs) := by rw [hw5]; exact grownBy_trans hg4 (grownBy_setCell _ _ _ _)
    have hp5 := hp3.kept hg5 (fun q e => by cases e; exact hbs)
    have hb5 := hg5.cell hb3 (by simp; omega)
    have hs5 : w5.rowIs bs 89 3 (sCell (.slice (some ⟨g, 0, none⟩) (Kp id ti L).length L)) := by
      rw [hw5]
      refine (hs4.set 0 _).congr fun i hi => ?_
      match i, hi with
      | 0, _ => rfl
      | 1, _ => rfl
      | 2, _ => rfl
    have hk5 : ∀ i s, (Kp id ti L)[i]? = some s → w5.cell? ⟨g, i, none⟩ = some (.pointer (some ⟨w.heap.size + 4 + 2 * s, 0, none⟩)) := fun i s hi => hg5.cell (hk3 i s hi) (by simpa using fun e => hne e.symm)
    have ho5 : ∀ q, q < wr.heap.size → q ≠ bs → q ≠ g → w5.heap[q]? = wr.heap[q]? := fun q hq h1 h2 => by
      have z1 := hg1.size
      have z2 := hg2.size
      have z3 := hg3.size
      exact (hg5.block q (by omega) (by simpa using h1)).trans ((hg3.block q (by omega) (by simpa using h2)).trans ((hg2.block q (by omega) (by simpa using h1)).trans (hg1.block q hq (by simp))))
    have HF : Hid (Pool w w5 n (fun _ => 0) ∧ w5.rowIs bs 89 3 (sCell (.slice (some ⟨g, 0, none⟩) (Kp id ti L).length L)) ∧ (∀ i s, (Kp id ti L)[i]? = some s → w5.cell? ⟨g, i, none⟩ = some (.pointer (some ⟨w.heap.size + 4 + 2 * s, 0, none⟩))) ∧ ∀ q, q < wr.heap.size → q ≠ bs → q ≠ g → w5.heap[q]? = wr.heap[q]?) := ⟨hp5, hs5, hk5, ho5⟩
    obtain ⟨tc, tc1, tc2⟩ := hp5.tasks ti ht
    have c7 : w5.cell? ⟨w.heap.size + 4 + 2 * ti, 7, none⟩ = some (.func (.func 15) #[] #[.pointer (some ⟨w.heap.size + 2, 0, none⟩), .pointer (some ⟨w.heap.size + 3 + 2 * ti, 0, none⟩)]) := by
      simp only [World.cell?, tc1]; exact tc2
    clear hw5 hs4 hg4 u0 hg5 hp5 hs5 hk5 ho5 hp3 hs3 hb3 d2 f2 hg3 hk3 hp2 hs2 c2 hb2 hg2 hr2 tc1 tc2 hg1 hb1 hp1 hs1 hr1 HW
    go_wp2_with fail
    obtain ⟨hp5, hs5, hk5, ho5⟩ := HF.out
    refine (count_any hp5 ht hn rfl).mono ?_
    rintro e w6 ⟨rfl, hw6⟩
    have hg6 : w5.grownBy w6 (some (w.heap.size + 1)) := by rw [hw6]; exact grownBy_setCell _ _ _ _
    have hF : Gone w wr w6 n id g L ti bs := by
      refine ⟨by rw [hw6]; exact hp5.count ht, hs5.of_block (hg6.block bs hs5.lt (by simp; omega)), fun i s hi => hg6.cell (hk5 i s hi) (by simp; omega), fun q hq h0 h1 h2 => ?_⟩
      have z5 := hp5.size
      rw [← ho5 q hq h1 h2]
      rw [hw6]
      exact Below.heap_setCell _ _ _ _ (by show q ≠ w.heap.size + 1; omega)
    have HG : Hid (Gone w wr w6 n id g L ti bs) := hF
    clear hF hg6 hw6 hp5 hs5 hk5 ho5 HF
    go_wp2
    go_end0
    exact ⟨rfl, HG.out⟩

end Go.Proofs.Ybulkdspq
