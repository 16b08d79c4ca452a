/-
  LawS5970AWhole: three rows, each longer by one element, in whatever order.
-/
import Derived.Test.YbulkdspqAClos
import Derived.Test.YbulkdspqAHeld
namespace Go.Proofs.Ybulkdspq
open Go.RowKit
set_option linter.unusedSimpArgs false
set_option linter.unusedVariables false

/-- The state inside such a region: which element is laid ready (b), which row is longer (a). -/
structure G3 (w0 w : World) (I N V c1 c2 c3 n : Nat) (X1 X2 X3 : List Value) (e1 e2 e3 : Int) (b1 b2 b3 a1 a2 a3 : Bool) (y1 z1 y2 z2 y3 z3 : Value) : Prop where
  chg : Chg (fun q => q = I ∨ q = N ∨ q = V) w0 w
  lt : I < w0.heap.size ∧ N < w0.heap.size ∧ V < w0.heap.size
  ne : I ≠ N ∧ I ≠ V ∧ N ≠ V
  p1 : b1 = true → ∃ p, y1 = .slice (some ⟨p, 0, none⟩) 1 1 ∧ w0.heap.size ≤ p ∧ w.heap[p]? = some (.cells (idc e1).toArray 26 (0, 0))
  p2 : b2 = true → ∃ p, y2 = .slice (some ⟨p, 0, none⟩) 1 1 ∧ w0.heap.size ≤ p ∧ w.heap[p]? = some (.cells (ic e2).toArray 3 (0, 0))
  p3 : b3 = true → ∃ p, y3 = .slice (some ⟨p, 0, none⟩) 1 1 ∧ w0.heap.size ≤ p ∧ w.heap[p]? = some (.cells (vc e3).toArray 54 (0, 0))
  q1 : a1 = false → w.ownsRow 0 26 20 (.slice (some ⟨I, 0, none⟩) n c1) n X1
  q2 : a2 = false → w.ownsRow 0 3 1 (.slice (some ⟨N, 0, none⟩) n c2) n X2
  q3 : a3 = false → w.ownsRow 0 54 1 (.slice (some ⟨V, 0, none⟩) n c3) n X3
  r1 : a1 = true → ∃ g c, z1 = .slice (some ⟨g, 0, none⟩) (n + 1) c ∧ w.ownsRow 0 26 20 (.slice (some ⟨g, 0, none⟩) (n + 1) c) (n + 1) (X1 ++ idc e1) ∧ (g = I ∨ w0.heap.size ≤ g)
  r2 : a2 = true → ∃ g c, z2 = .slice (some ⟨g, 0, none⟩) (n + 1) c ∧ w.ownsRow 0 3 1 (.slice (some ⟨g, 0, none⟩) (n + 1) c) (n + 1) (X2 ++ ic e2) ∧ (g = N ∨ w0.heap.size ≤ g)
  r3 : a3 = true → ∃ g c, z3 = .slice (some ⟨g, 0, none⟩) (n + 1) c ∧ w.ownsRow 0 54 1 (.slice (some ⟨g, 0, none⟩) (n + 1) c) (n + 1) (X3 ++ vc e3) ∧ (g = V ∨ w0.heap.size ≤ g)

section
variable {w0 w : World} {I N V c1 c2 c3 n : Nat} {X1 X2 X3 : List Value} {e1 e2 e3 : Int} {b1 b2 b3 a1 a2 a3 : Bool} {y1 z1 y2 z2 y3 z3 : Value}
theorem G3.grow {w' : World} (h : G3 w0 w I N V c1 c2 c3 n X1 X2 X3 e1 e2 e3 b1 b2 b3 a1 a2 a3 y1 z1 y2 z2 y3 z3) (k : w.grownBy w' none) : G3 w0 w' I N V c1 c2 c3 n X1 X2 X3 e1 e2 e3 b1 b2 b3 a1 a2 a3 y1 z1 y2 z2 y3 z3 :=
  ⟨h.chg.grown k (by simp), h.lt, h.ne, fun e => (h.p1 e).imp fun p hp => ⟨hp.1, hp.2.1, keep_blk k hp.2.2 (by simp)⟩, fun e => (h.p2 e).imp fun p hp => ⟨hp.1, hp.2.1, keep_blk k hp.2.2 (by simp)⟩, fun e => (h.p3 e).imp fun p hp => ⟨hp.1, hp.2.1, keep_blk k hp.2.2 (by simp)⟩,
    fun e => own_kept (h.q1 e) k (by simp), fun e => own_kept (h.q2 e) k (by simp), fun e => own_kept (h.q3 e) k (by simp),
    fun e => (h.r1 e).imp fun g hg => hg.imp fun c hc => ⟨hc.1, own_kept hc.2.1 k (by simp), hc.2.2⟩, fun e => (h.r2 e).imp fun g hg => hg.imp fun c hc => ⟨hc.1, own_kept hc.2.1 k (by simp), hc.2.2⟩, fun e => (h.r3 e).imp fun g hg => hg.imp fun c hc => ⟨hc.1, own_kept hc.2.1 k (by simp), hc.2.2⟩⟩

theorem bs38 (z : Int) (w : World) : (Instr.buildSlice 38 1 #[(0, .int .i64 z)]).run Yba.prog w = .ok (.slice (some ⟨w.heap.size, 0, none⟩) 1 1) (w.alloc (.cells (ic z).toArray 3)) := by kernel_rfl
theorem bs51 (z : Int) (w : World) : (Instr.buildSlice 51 1 #[(0, .int .u8 z)]).run Yba.prog w = .ok (.slice (some ⟨w.heap.size, 0, none⟩) 1 1) (w.alloc (.cells (vc z).toArray 54)) := by kernel_rfl

theorem G3.b1' {a : Act} {o : Oper} (h : G3 w0 w I N V c1 c2 c3 n X1 X2 X3 e1 e2 e3 false b2 b3 a1 a2 a3 y1 z1 y2 z2 y3 z3) (x : Operand) (ho : o.op = .buildSlice 31 1 #[(0, x)]) (hx : a.eval x = .agg (idc e1).toArray) :
    ∃ v w', (execOp a.eval o).run Yba.prog w = .ok (.value v) w' ∧ w.grownBy w' none ∧ G3 w0 w' I N V c1 c2 c3 n X1 X2 X3 e1 e2 e3 true b2 b3 a1 a2 a3 v z1 y2 z2 y3 z3 := by
  have k := World.grownBy_alloc w (.cells (idc e1).toArray 26) none
  have h' := h.grow k
  have hs := h.chg.size
  refine ⟨_, _, exec_bs31 x ho e1 hx, k, ⟨h'.chg, h'.lt, h'.ne, fun _ => ⟨w.heap.size, rfl, hs, heap_alloc_new w _⟩, h'.p2, h'.p3, h'.q1, h'.q2, h'.q3, h'.r1, h'.r2, h'.r3⟩⟩
theorem G3.b2' {a : Act} {o : Oper} (h : G3 w0 w I N V c1 c2 c3 n X1 X2 X3 e1 e2 e3 b1 false b3 a1 a2 a3 y1 z1 y2 z2 y3 z3) (x : Operand) (ho : o.op = .buildSlice 38 1 #[(0, x)]) (hx : a.eval x = .int .i64 e2) :
    ∃ v w', (execOp a.eval o).run Yba.prog w = .ok (.value v) w' ∧ w.grownBy w' none ∧ G3 w0 w' I N V c1 c2 c3 n X1 X2 X3 e1 e2 e3 b1 true b3 a1 a2 a3 y1 z1 v z2 y3 z3 := by
  have k := World.grownBy_alloc w (.cells (ic e2).toArray 3) none
  have h' := h.grow k
  have hs := h.chg.size
  refine ⟨.slice (some ⟨w.heap.size, 0, none⟩) 1 1, w.alloc (.cells (ic e2).toArray 3), ?_, k, ⟨h'.chg, h'.lt, h'.ne, h'.p1, fun _ => ⟨w.heap.size, rfl, hs, heap_alloc_new w _⟩, h'.p3, h'.q1, h'.q2, h'.q3, h'.r1, h'.r2, h'.r3⟩⟩
  unfold execOp
  simp only [ho, List.map_toArray, List.map_cons, List.map_nil, hx, Sem.run_bind, bs38, Result.andThen_ok, Sem.run_pure]
theorem G3.b3' {a : Act} {o : Oper} (h : G3 w0 w I N V c1 c2 c3 n X1 X2 X3 e1 e2 e3 b1 b2 false a1 a2 a3 y1 z1 y2 z2 y3 z3) (x : Operand) (ho : o.op = .buildSlice 51 1 #[(0, x)]) (hx : a.eval x = .int .u8 e3) :
    ∃ v w', (execOp a.eval o).run Yba.prog w = .ok (.value v) w' ∧ w.grownBy w' none ∧ G3 w0 w' I N V c1 c2 c3 n X1 X2 X3 e1 e2 e3 b1 b2 true a1 a2 a3 y1 z1 y2 z2 v z3 := by
  have k := World.grownBy_alloc w (.cells (vc e3).toArray 54) none
  have h' := h.grow k
  have hs := h.chg.size
  refine ⟨.slice (some ⟨w.heap.size, 0, none⟩) 1 1, w.alloc (.cells (vc e3).toArray 54), ?_, k, ⟨h'.chg, h'.lt, h'.ne, h'.p1, h'.p2, fun _ => ⟨w.heap.size, rfl, hs, heap_alloc_new w _⟩, h'.q1, h'.q2, h'.q3, h'.r1, h'.r2, h'.r3⟩⟩
  unfold execOp
  simp only [ho, List.map_toArray, List.map_cons, List.map_nil, hx, Sem.run_bind, bs51, Result.andThen_ok, Sem.run_pure]

theorem blk_cells {w : World} {p : Nat} {cs : List Value} {t : TypeId} (h : w.heap[p]? = some (.cells cs.toArray t (0, 0))) : ∀ j u, cs[j]? = some u → w.cell? ((⟨p, 0, none⟩ : Addr).add j) = some u := by
  intro j u hu
  have := range_of_blk h j u hu
  rw [Addr.add_mid]; exact this

theorem G3.a1' {a : Act} {o : Oper} (h : G3 w0 w I N V c1 c2 c3 n X1 X2 X3 e1 e2 e3 true b2 b3 false a2 a3 y1 z1 y2 z2 y3 z3) (hn : n ≤ 65536) (s x : Operand) (ho : o.op = .call { callee := .builtin .append, args := #[s, x], argTypes := #[31, 31] }) (hs : a.eval s = .slice (some ⟨I, 0, none⟩) n c1) (hx : a.eval x = y1) :
    ∃ v w', (execOp a.eval o).run Yba.prog w = .ok (.value v) w' ∧ w.grownBy w' (some I) ∧ G3 w0 w' I N V c1 c2 c3 n X1 X2 X3 e1 e2 e3 true b2 b3 true a2 a3 y1 v y2 z2 y3 z3 := by
  obtain ⟨p, rfl, hp, hpb⟩ := h.p1 rfl
  have hsz := h.chg.size
  obtain ⟨l1, l2, l3⟩ := h.lt
  obtain ⟨n1, n2, n3⟩ := h.ne
  obtain ⟨v, w', hr, ho', k, hnil, hat⟩ := exec_app Yba.underlying31 info26 rfl (by omega) (by omega) s x ho _ n X1 hs (h.q1 rfl) p 1 1 (idc e1) hx rfl (blk_cells hpb) (idc_one e1) (by omega)
  obtain ⟨g, c, rfl⟩ := own_some ho' (fun e => by simpa using (hnil.1 e))
  simp only [Value.ownBlock, Option.some.injEq] at k hat
  refine ⟨_, w', hr, k, ⟨h.chg.grown k (fun q e => by cases e; exact .inl (.inl rfl)), h.lt, h.ne, fun _ => ⟨p, rfl, hp, keep_blk k hpb (by simp; omega)⟩, fun e => (h.p2 e).imp fun p hp => ⟨hp.1, hp.2.1, keep_blk k hp.2.2 (by have := hp.2.1; simp; omega)⟩, fun e => (h.p3 e).imp fun p hp => ⟨hp.1, hp.2.1, keep_blk k hp.2.2 (by have := hp.2.1; simp; omega)⟩,
    (fun e => (by cases e)), fun e => own_kept (h.q2 e) k (by simp [Value.ownBlock]; omega), fun e => own_kept (h.q3 e) k (by simp [Value.ownBlock]; omega), fun _ => ⟨g, c, rfl, ho', by omega⟩,
    fun e => (h.r2 e).imp fun g hg => hg.imp fun c hc => ⟨hc.1, own_kept hc.2.1 k (by have := hc.2.2; simp [Value.ownBlock]; omega), hc.2.2⟩, fun e => (h.r3 e).imp fun g hg => hg.imp fun c hc => ⟨hc.1, own_kept hc.2.1 k (by have := hc.2.2; simp [Value.ownBlock]; omega), hc.2.2⟩⟩⟩
theorem G3.a2' {a : Act} {o : Oper} (h : G3 w0 w I N V c1 c2 c3 n X1 X2 X3 e1 e2 e3 b1 true b3 a1 false a3 y1 z1 y2 z2 y3 z3) (hn : n ≤ 65536) (s x : Operand) (ho : o.op = .call { callee := .builtin .append, args := #[s, x], argTypes := #[38, 38] }) (hs : a.eval s = .slice (some ⟨N, 0, none⟩) n c2) (hx : a.eval x = y2) :
    ∃ v w', (execOp a.eval o).run Yba.prog w = .ok (.value v) w' ∧ w.grownBy w' (some N) ∧ G3 w0 w' I N V c1 c2 c3 n X1 X2 X3 e1 e2 e3 b1 true b3 a1 true a3 y1 z1 y2 v y3 z3 := by
  obtain ⟨p, rfl, hp, hpb⟩ := h.p2 rfl
  have hsz := h.chg.size
  obtain ⟨l1, l2, l3⟩ := h.lt
  obtain ⟨n1, n2, n3⟩ := h.ne
  obtain ⟨v, w', hr, ho', k, hnil, hat⟩ := exec_app Yba.underlying38 info3 rfl (by omega) (by omega) s x ho _ n X2 hs (h.q2 rfl) p 1 1 (ic e2) hx rfl (blk_cells hpb) (ic_one e2) (by omega)
  obtain ⟨g, c, rfl⟩ := own_some ho' (fun e => by simpa using (hnil.1 e))
  simp only [Value.ownBlock, Option.some.injEq] at k hat
  refine ⟨_, w', hr, k, ⟨h.chg.grown k (fun q e => by cases e; exact .inl (.inr (.inl rfl))), h.lt, h.ne, fun e => (h.p1 e).imp fun p hp => ⟨hp.1, hp.2.1, keep_blk k hp.2.2 (by have := hp.2.1; simp; omega)⟩, fun _ => ⟨p, rfl, hp, keep_blk k hpb (by simp; omega)⟩, fun e => (h.p3 e).imp fun p hp => ⟨hp.1, hp.2.1, keep_blk k hp.2.2 (by have := hp.2.1; simp; omega)⟩,
    fun e => own_kept (h.q1 e) k (by simp [Value.ownBlock]; omega), (fun e => (by cases e)), fun e => own_kept (h.q3 e) k (by simp [Value.ownBlock]; omega),
    fun e => (h.r1 e).imp fun g hg => hg.imp fun c hc => ⟨hc.1, own_kept hc.2.1 k (by have := hc.2.2; simp [Value.ownBlock]; omega), hc.2.2⟩, fun _ => ⟨g, c, rfl, ho', by omega⟩, fun e => (h.r3 e).imp fun g hg => hg.imp fun c hc => ⟨hc.1, own_kept hc.2.1 k (by have := hc.2.2; simp [Value.ownBlock]; omega), hc.2.2⟩⟩⟩
theorem G3.a3' {a : Act} {o : Oper} (h : G3 w0 w I N V c1 c2 c3 n X1 X2 X3 e1 e2 e3 b1 b2 true a1 a2 false y1 z1 y2 z2 y3 z3) (hn : n ≤ 65536) (s x : Operand) (ho : o.op = .call { callee := .builtin .append, args := #[s, x], argTypes := #[51, 51] }) (hs : a.eval s = .slice (some ⟨V, 0, none⟩) n c3) (hx : a.eval x = y3) :
    ∃ v w', (execOp a.eval o).run Yba.prog w = .ok (.value v) w' ∧ w.grownBy w' (some V) ∧ G3 w0 w' I N V c1 c2 c3 n X1 X2 X3 e1 e2 e3 b1 b2 true a1 a2 true y1 z1 y2 z2 y3 v := by
  obtain ⟨p, rfl, hp, hpb⟩ := h.p3 rfl
  have hsz := h.chg.size
  obtain ⟨l1, l2, l3⟩ := h.lt
  obtain ⟨n1, n2, n3⟩ := h.ne
  obtain ⟨v, w', hr, ho', k, hnil, hat⟩ := exec_app Yba.underlying51 info54 rfl (by omega) (by omega) s x ho _ n X3 hs (h.q3 rfl) p 1 1 (vc e3) hx rfl (blk_cells hpb) (vc_one e3) (by omega)
  obtain ⟨g, c, rfl⟩ := own_some ho' (fun e => by simpa using (hnil.1 e))
  simp only [Value.ownBlock, Option.some.injEq] at k hat
  refine ⟨_, w', hr, k, ⟨h.chg.grown k (fun q e => by cases e; exact .inl (.inr (.inr rfl))), h.lt, h.ne, fun e => (h.p1 e).imp fun p hp => ⟨hp.1, hp.2.1, keep_blk k hp.2.2 (by have := hp.2.1; simp; omega)⟩, fun e => (h.p2 e).imp fun p hp => ⟨hp.1, hp.2.1, keep_blk k hp.2.2 (by have := hp.2.1; simp; omega)⟩, fun _ => ⟨p, rfl, hp, keep_blk k hpb (by simp; omega)⟩,
    fun e => own_kept (h.q1 e) k (by simp [Value.ownBlock]; omega), fun e => own_kept (h.q2 e) k (by simp [Value.ownBlock]; omega), (fun e => (by cases e)),
    fun e => (h.r1 e).imp fun g hg => hg.imp fun c hc => ⟨hc.1, own_kept hc.2.1 k (by have := hc.2.2; simp [Value.ownBlock]; omega), hc.2.2⟩, fun e => (h.r2 e).imp fun g hg => hg.imp fun c hc => ⟨hc.1, own_kept hc.2.1 k (by have := hc.2.2; simp [Value.ownBlock]; omega), hc.2.2⟩, fun _ => ⟨g, c, rfl, ho', by omega⟩⟩⟩
end

end Go.Proofs.Ybulkdspq
