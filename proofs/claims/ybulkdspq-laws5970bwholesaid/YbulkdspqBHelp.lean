/-
  THE MEMORY of LawS5970BWhole (4), and the two closures.
-/
import Derived.Test.YbulkdspqBLock
import Derived.LaidEqlPtr
import Derived.BigQuiet
import Derived.BigRegion
import Derived.Deep.QuietTactic
import Derived.Deep.LoopGhost
import Derived.Deep.OwnRows
import Derived.Deep.DeepCutAuto
import Derived.Deep.CutBlock
import Derived.Deep.Light
import Derived.WalkSmall
namespace Go.Proofs.Ybulkdspq
open Go.RowKit
set_option linter.unusedSimpArgs false
set_option linter.unusedVariables false

theorem Yba.info64 : (Yba.prog.info? 64).map (fun i => (i.zero, i.size, i.bytes)) = some (some (.pointer none), 1, 8) := by kernel_rfl
theorem Yba.info3 : (Yba.prog.info? 3).map (fun i => (i.zero, i.size, i.bytes)) = some (some (.int .i64 0), 1, 8) := by kernel_rfl

/-! ### Two pointers to tasks -/
theorem info80 : ∃ j, Yba.prog.info? 80 = some j ∧ j.size = 8 := by
  obtain ⟨j, hj, hs⟩ := Option.map_eq_some_iff.1 (show (Yba.prog.info? 80).map (·.size) = some 8 by kernel_rfl)
  exact ⟨j, hj, hs⟩

theorem eql_same (a : Addr) (w : World) : (binOp .eql 64 (.pointer (some a)) (.pointer (some a))).run Yba.prog w = .ok (.bool true) w := by
  obtain ⟨j, hj, _⟩ := info80
  exact run_eql_ptr_same w a Yba.underlying64 hj

theorem eql_other {a b : Addr} {ca cb : Array Value} {ta tb : TypeId} (w : World) (hne : a ≠ b) (ha : w.heap[a.block]? = some (.cells ca ta (0, 0))) (hb : w.heap[b.block]? = some (.cells cb tb (0, 0))) :
    (binOp .eql 64 (.pointer (some a)) (.pointer (some b))).run Yba.prog w = .ok (.bool false) w := by
  obtain ⟨j, hj, hs⟩ := info80
  exact run_eql_ptr_other w Yba.underlying64 hj (by omega) hne ha hb

theorem neq_same (a : Addr) (w : World) : (binOp .neq 64 (.pointer (some a)) (.pointer (some a))).run Yba.prog w = .ok (.bool false) w := by
  obtain ⟨j, hj, _⟩ := info80
  have h : ∀ d : Nat, (Op.equalIn (d + 1) 64 (.pointer (some a)) (.pointer (some a))).run Yba.prog w = .ok true w := fun d => by
    simp [Op.equalIn, run_underlying Yba.underlying64, sizeOf, typeInfo, hj, run_sameAddr_same]
  simp only [binOp]
  simp [Op.equal, Op.maxDepth, h 9999]

theorem neq_other {a b : Addr} {ca cb : Array Value} {ta tb : TypeId} (w : World) (hne : a ≠ b) (ha : w.heap[a.block]? = some (.cells ca ta (0, 0))) (hb : w.heap[b.block]? = some (.cells cb tb (0, 0))) :
    (binOp .neq 64 (.pointer (some a)) (.pointer (some b))).run Yba.prog w = .ok (.bool true) w := by
  obtain ⟨j, hj, hs⟩ := info80
  have h : ∀ d : Nat, (Op.equalIn (d + 1) 64 (.pointer (some a)) (.pointer (some b))).run Yba.prog w = .ok false w := fun d => by
    simp [Op.equalIn, run_underlying Yba.underlying64, sizeOf, typeInfo, hj, hs, run_sameAddr_other w hne ha hb]
  simp only [binOp]
  simp [Op.equal, Op.maxDepth, h 9999]

/-! ### The pool -/
/-- n tasks, n counts, n captured variables; cnt: the counts. -/
structure Pool (w wr : World) (n : Nat) (cnt : Nat → Int) : Prop where
  below : Below w.heap.size w wr
  size : w.heap.size + 3 + 2 * n ≤ wr.heap.size
  pool : wr.rowIs w.heap.size 64 n (fun t => .pointer (some ⟨w.heap.size + 4 + 2 * t, 0, none⟩))
  cnts : wr.rowIs (w.heap.size + 1) 3 n (fun t => .int .i64 (cnt t))
  box : wr.cell? ⟨w.heap.size + 2, 0, none⟩ = some (.slice (some ⟨w.heap.size + 1, 0, none⟩) n n)
  js : ∀ t, t < n → wr.cell? ⟨w.heap.size + 3 + 2 * t, 0, none⟩ = some (.int .i64 t)
  tasks : ∀ t, t < n → ∃ c, wr.heap[w.heap.size + 4 + 2 * t]? = some (.cells c 80 (0, 0)) ∧ c[7]? = some (.func (.func 15) #[] #[.pointer (some ⟨w.heap.size + 2, 0, none⟩), .pointer (some ⟨w.heap.size + 3 + 2 * t, 0, none⟩)])

theorem Pool.kept {w wr wr' : World} {n : Nat} {cnt : Nat → Int} (h : Pool w wr n cnt) {row : Option Nat} (hg : wr.grownBy wr' row) (hr : ∀ q, row = some q → w.heap.size + 3 + 2 * n ≤ q) : Pool w wr' n cnt := by
  have hs := h.size
  have hne : ∀ k, k < w.heap.size + 3 + 2 * n → some k ≠ row := fun k hk e => by have := hr k e.symm; omega
  have hb : ∀ k, k < w.heap.size + 3 + 2 * n → wr'.heap[k]? = wr.heap[k]? := fun k hk => hg.block k (by omega) (hne k hk)
  refine ⟨h.below.grown hg h.below.size (fun q e => by have := hr q e; omega), Nat.le_trans hs hg.size, h.pool.of_block (hb _ (by omega)), h.cnts.of_block (hb _ (by omega)), hg.cell h.box (hne _ (by show w.heap.size + 2 < _; omega)), fun t ht => hg.cell (h.js t ht) (hne _ (by show w.heap.size + 3 + 2 * t < _; omega)), fun t ht => ?_⟩
  obtain ⟨c, h1, h2⟩ := h.tasks t ht
  exact ⟨c, (hb _ (by omega)).trans h1, h2⟩

theorem Pool.alloc {w wr : World} {n : Nat} {cnt : Nat → Int} (h : Pool w wr n cnt) (o : Obj) : Pool w (wr.alloc o) n cnt := h.kept (World.grownBy_alloc wr o none) (fun q e => by cases e)

/-- Two tasks compared. -/
theorem Pool.eql {w wr : World} {n : Nat} {cnt : Nat → Int} (h : Pool w wr n cnt) {s t : Nat} (hs : s < n) (ht : t < n) :
    (binOp .eql 64 (.pointer (some ⟨w.heap.size + 4 + 2 * s, 0, none⟩)) (.pointer (some ⟨w.heap.size + 4 + 2 * t, 0, none⟩))).run Yba.prog wr = .ok (.bool (decide (s = t))) wr := by
  by_cases e : s = t
  · subst e; simpa using eql_same _ wr
  · obtain ⟨c1, h1, _⟩ := h.tasks s hs
    obtain ⟨c2, h2, _⟩ := h.tasks t ht
    have := eql_other (a := ⟨w.heap.size + 4 + 2 * s, 0, none⟩) (b := ⟨w.heap.size + 4 + 2 * t, 0, none⟩) wr (by simp <;> omega) h1 h2
    simpa [e] using this
theorem Pool.neq {w wr : World} {n : Nat} {cnt : Nat → Int} (h : Pool w wr n cnt) {s t : Nat} (hs : s < n) (ht : t < n) :
    (binOp .neq 64 (.pointer (some ⟨w.heap.size + 4 + 2 * s, 0, none⟩)) (.pointer (some ⟨w.heap.size + 4 + 2 * t, 0, none⟩))).run Yba.prog wr = .ok (.bool (!decide (s = t))) wr := by
  by_cases e : s = t
  · subst e; simpa using neq_same _ wr
  · obtain ⟨c1, h1, _⟩ := h.tasks s hs
    obtain ⟨c2, h2, _⟩ := h.tasks t ht
    have := neq_other (a := ⟨w.heap.size + 4 + 2 * s, 0, none⟩) (b := ⟨w.heap.size + 4 + 2 * t, 0, none⟩) wr (by simp <;> omega) h1 h2
    simpa [e] using this

/-- 'func(u *task) bool { return u == t }', t boxed in block bx. -/
theorem same_any {w wr : World} {n : Nat} {cnt : Nat → Int} (h : Pool w wr n cnt) {s t bx : Nat} (hs : s < n) (ht : t < n) (hbx : wr.cell? ⟨bx, 0, none⟩ = some (.pointer (some ⟨w.heap.size + 4 + 2 * t, 0, none⟩))) :
    Calls Yba.prog 25 #[.pointer (some ⟨w.heap.size + 4 + 2 * s, 0, none⟩), .pointer (some ⟨bx, 0, none⟩)] wr fun e w' => e = .returned (.bool (decide (s = t))) ∧ wr = w' := by
  have he := h.eql hs ht
  clear h
  go_enter Yba.func25, Yba.ntmps25
  go_wp2
  go_ret
  exact ⟨rfl, rfl⟩

/-- 'func() { counts[j]++ }'. -/
theorem count_any {w wr : World} {n : Nat} {cnt : Nat → Int} (h : Pool w wr n cnt) {t : Nat} (ht : t < n) (hn : n ≤ 8) (h0 : cnt t = 0) :
    Calls Yba.prog 15 #[.pointer (some ⟨w.heap.size + 2, 0, none⟩), .pointer (some ⟨w.heap.size + 3 + 2 * t, 0, none⟩)] wr fun e w' => e = .returned (.tuple #[]) ∧ w' = wr.setCell ⟨w.heap.size + 1, t, none⟩ (.int .i64 1) := by
  have c1 := h.box
  have c2 := h.js t ht
  have c3 := h.cnts.cell ht
  have c4 := h.cnts.frozen t
  rw [h0] at c3
  have htn : (t : Int) < n := by omega
  clear h
  go_enter Yba.func15, Yba.ntmps15
  go_wp2
  go_end0
  exact ⟨rfl, rfl⟩

end Go.Proofs.Ybulkdspq
