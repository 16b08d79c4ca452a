/-
  LawS5970CWhole: what Nearest (17) keeps in memory, and what it computes.
-/
import Derived.Test.YbulkdspqFmtCAdj
namespace Go.Proofs.YbulkdspqFmt
open Go.RowKit
set_option linter.unusedSimpArgs false
set_option linter.unusedVariables false

/-! ### Operations that are guarded -/
theorem wpList_execG {P : Program} {ops : Array Oper} {rest : List Oper} {op : Oper} {a : Act} {w w' : World} {Q : Exit → Act → World → Prop} (hw : Region.wanted op (yielded ops a.tmps) = true) (v : Value) (hr : (execOp a.eval op).run P w = .ok (.value v) w')
    (h : wpList P ops Q rest (a.put op.dst v) w') : wpList P ops Q (op :: rest) a w := by
  refine wpList_step fun K hK => ?_
  rw [if_pos hw]
  unfold Oper.wp
  simp only [hr, Oper.upon]
  exact hK _ _ h
section
variable {P : Program} {a : Act} {o : Oper} {w : World}
theorem exec_load_row (ty : TypeId) (x : Operand) (ho : o.op = .load ty x) (b i : Nat) (hx : a.eval x = .pointer (some ⟨b, i, none⟩)) (cs : List Value) (d : TypeDesc) (hc : w.rangeAt b i cs) (hu : P.underlying ty = some d) (hd : d.isRow = true) (hi : (P.info? ty).map (·.size) = some cs.length) : (execOp a.eval o).run P w = .ok (.value (.agg cs.toArray)) w := by
  unfold execOp
  simp only [ho, hx, Instr.loadAt, Instr.sureAddr, Sem.run_bind, Sem.run_pure, Result.andThen_ok, run_loadVar_mid w b i ty cs d hc hu hd hi]
theorem exec_load_cell (ty : TypeId) (x : Operand) (ho : o.op = .load ty x) (b i : Nat) (hx : a.eval x = .pointer (some ⟨b, i, none⟩)) (cs : List Value) (t : TypeId) (hb : w.heap[b]? = some (.cells cs.toArray t (0, 0))) (d : TypeDesc) (hu : P.underlying ty = some d) (hd : d.isRow = false) (v : Value) (hv : cs[i]? = some v) : (execOp a.eval o).run P w = .ok (.value v) w := by
  unfold execOp
  simp only [ho, hx, Instr.loadAt, Instr.sureAddr, Sem.run_bind, Sem.run_pure, Result.andThen_ok, run_load_cell hb hu hd hv]
/-- A row stored in the midst of a block. -/
theorem run_store_mid {ty : TypeId} {b : Nat} {pre old cs post : List Value} {t : TypeId} (hb : w.heap[b]? = some (.cells (pre ++ old ++ post).toArray t (0, 0))) (hs : old.length = cs.length) (hi : (P.info? ty).map (·.size) = some cs.length) (h1 : ∀ v ∈ cs, v.oneCell' = true) :
    (storeVar ty ⟨b, pre.length, none⟩ (.agg cs.toArray)).run P w = .ok () (w.setRow b (pre ++ cs ++ post).toArray) := by
  have hst := run_storeCells_at P b pre.length t cs 0 (pre ++ old ++ post).toArray w hb (by simp; omega) h1
  have e1 : (pre ++ old ++ post).take pre.length = pre := by rw [List.append_assoc]; exact List.take_left' rfl
  have e2 : (pre ++ old ++ post).drop (pre.length + cs.length) = post := List.drop_left' (by simp [hs])
  have e3 : ((pre ++ old ++ post).toArray.toList.take (pre.length + 0) ++ cs ++ (pre ++ old ++ post).toArray.toList.drop (pre.length + 0 + cs.length)) = pre ++ cs ++ post := by
    rw [Nat.add_zero]
    exact congr (congrArg _ (congr (congrArg _ e1) rfl)) e2
  rw [e3] at hst
  cases hq : P.info? ty with
  | none => simp [hq] at hi
  | some i =>
    have hs' : i.size = cs.length := by simpa [hq] using hi
    simp [storeVar, sizeOf, typeInfo, hq, Value.cells, hs']
    simpa using hst
end
section
variable {P : Program} {ops : Array Oper} {S : World → Prop} {a : Act} {md : Region.Mode} {Q : Exit → Act → World → Prop}
theorem any_store_mid (i : Nat) {fuel : Nat} {o : Oper} {listed : Array Bool} {w : World} (hi : ops[i]? = some o) (hd : o.dst = none) (hr : Region.ready md ops listed = [i]) (hw : Region.wanted o (yielded ops a.tmps) = true)
    (ty : TypeId) (x y : Operand) (ho : o.op = .store ty x y) (b k : Nat) (pre old cs post : List Value) (hk : pre.length = k) (hx : a.eval x = .pointer (some ⟨b, k, none⟩)) (hy : a.eval y = .agg cs.toArray) (t : TypeId) (hb : w.heap[b]? = some (.cells (pre ++ old ++ post).toArray t (0, 0))) (hs : old.length = cs.length) (hsz : (P.info? ty).map (·.size) = some cs.length) (h1 : ∀ v ∈ cs, v.oneCell' = true)
    (h : ∀ w', w'.heap[b]? = some (.cells (pre ++ cs ++ post).toArray t (0, 0)) → w.grownBy w' (some b) → S w' ∧ wpAnyH P md ops Q S fuel (listed.setIfInBounds i true) (a.put none undef) w') : wpAnyH P md ops Q S (fuel + 1) listed a w := by
  have hh := h _ (setRow_heap _ _ _ _ _ _ hb) ⟨rfl, rfl, rfl, by simp [World.setRow], fun k _ hk => setRow_other _ _ _ _ (fun e => hk (by rw [e]))⟩
  refine any_skip i _ hi hr hw ?_ hh.1 (by rw [hd]; exact hh.2)
  subst hk
  have hr := run_store_mid (P := P) hb hs hsz h1
  unfold execOp
  simp only [ho, hx, hy, Instr.storeAt, Instr.sureAddr, Sem.run_bind, Sem.run_pure, Result.andThen_ok, hr]
end
/-! ### Zero values -/
theorem ic0 : ab (fun _ => 0) = ic 0 := rfl
theorem exec_build25 {a : Act} {o : Oper} {w : World} (ho : o.op = .build 25 #[]) : (execOp a.eval o).run Ybaf.prog w = .ok (.value (.agg (ic 0).toArray)) w := by
  have hb : (Instr.build 25 #[]).run Ybaf.prog w = .ok (.agg (ic 0).toArray) w := by kernel_rfl
  unfold execOp
  simp only [ho, List.map_toArray, List.map_nil, Sem.run_bind, hb, Result.andThen_ok, Sem.run_pure]
theorem exec_build65 {a : Act} {o : Oper} {w : World} (ho : o.op = .build 65 #[]) : (execOp a.eval o).run Ybaf.prog w = .ok (.value (.agg [.bool false, .bool false].toArray)) w := by
  have hb : (Instr.build 65 #[]).run Ybaf.prog w = .ok (.agg [.bool false, .bool false].toArray) w := by kernel_rfl
  unfold execOp
  simp only [ho, List.map_toArray, List.map_nil, Sem.run_bind, hb, Result.andThen_ok, Sem.run_pure]
theorem un0 : uN 0 = uc 0 0 0 := by simp [uN]
theorem alloc64 (w : World) : (Instr.alloc 64 true (.tuple #[])).run Ybaf.prog w = .ok (.pointer (some ⟨w.heap.size, 0, none⟩)) (w.alloc (.cells (uc 0 0 0 ++ uc 0 0 0).toArray 64)) := by kernel_rfl
theorem wpList_alloc64 {ops : Array Oper} {rest : List Oper} {op : Oper} {a : Act} {w : World} {Q : Exit → Act → World → Prop} (hgd : op.guard = none) (ho : op.op = .alloc 64)
    (h : wpList Ybaf.prog ops Q rest (a.put op.dst (.pointer (some ⟨w.heap.size, 0, none⟩))) (w.alloc (.cells (uN 0 ++ uN 0).toArray 64))) : wpList Ybaf.prog ops Q (op :: rest) a w := by
  rw [un0] at h
  refine wpList_plain hgd fun K hK => ?_
  unfold Oper.wp execOp
  simp only [ho, Sem.run_bind, alloc64, Result.andThen_ok, Sem.run_pure]
  exact hK _ _ h
theorem alloc65 (w : World) : (Instr.alloc 65 true (.tuple #[])).run Ybaf.prog w = .ok (.pointer (some ⟨w.heap.size, 0, none⟩)) (w.alloc (.cells [.bool false, .bool false].toArray 65)) := by kernel_rfl
theorem wpList_alloc65 {ops : Array Oper} {rest : List Oper} {op : Oper} {a : Act} {w : World} {Q : Exit → Act → World → Prop} (hgd : op.guard = none) (ho : op.op = .alloc 65)
    (h : wpList Ybaf.prog ops Q rest (a.put op.dst (.pointer (some ⟨w.heap.size, 0, none⟩))) (w.alloc (.cells [.bool false, .bool false].toArray 65))) : wpList Ybaf.prog ops Q (op :: rest) a w := by
  refine wpList_plain hgd fun K hK => ?_
  unfold Oper.wp execOp
  simp only [ho, Sem.run_bind, alloc65, Result.andThen_ok, Sem.run_pure]
  exact hK _ _ h
theorem size65 (v0 v1 : Value) : (Ybaf.prog.info? 65).map (·.size) = some [v0, v1].length := by kernel_rfl
theorem size4 : (Ybaf.prog.info? 4).map (·.size) = some 1 := by kernel_rfl
theorem exec_index66 {a : Act} {o : Oper} {w : World} (x y : Operand) (ho : o.op = .index 66 x y) (v0 v1 : Value) (h0 : v0.oneCell' = true) (h1 : v1.oneCell' = true) (i : Nat) (v : Value) (hv : [v0, v1][i]? = some v) (hx : a.eval x = .agg [v0, v1].toArray) (hy : a.eval y = .int .i64 (i : Int)) : (execOp a.eval o).run Ybaf.prog w = .ok (.value v) w := by
  have b0 : (Instr.index 66 (.agg [v0, v1].toArray) (.int .i64 ((0 : Nat) : Int))).run Ybaf.prog w = .ok v0 w := by kernel_rfl
  have b1 : (Instr.index 66 (.agg [v0, v1].toArray) (.int .i64 ((1 : Nat) : Int))).run Ybaf.prog w = .ok v1 w := by kernel_rfl
  have hb : (Instr.index 66 (.agg [v0, v1].toArray) (.int .i64 (i : Int))).run Ybaf.prog w = .ok v w := by
    rcases i with _ | _ | i
    · simp only [List.getElem?_cons_zero, Option.some.injEq] at hv
      subst hv
      exact b0
    · simp only [List.getElem?_cons_succ, List.getElem?_cons_zero, Option.some.injEq] at hv
      subst hv
      exact b1
    · simp at hv
  unfold execOp
  simp only [ho, hx, hy, Sem.run_bind, hb, Result.andThen_ok, Sem.run_pure]

/-! ### What Nearest has found so far -/
structure NS (w0 w : World) (s c cc : Int) (f0 f1 : Bool) (d0 d1 : Int) : Prop where
  g : w0.grownBy w none
  b2 : w.heap[w0.heap.size]? = some (.cells (ic c).toArray 25 (0, 0))
  b3 : w.heap[w0.heap.size + 1]? = some (.cells (ic cc).toArray 25 (0, 0))
  b5 : w.heap[w0.heap.size + 2]? = some (.cells (uN d0 ++ uN d1).toArray 64 (0, 0))
  b6 : w.heap[w0.heap.size + 3]? = some (.cells [.bool f0, .bool f1].toArray 65 (0, 0))
  sc : Sm c
  scc : Sm cc
  fd : f0 = true → d0 = D s c
theorem NS.kept {w0 w w' : World} {s c cc : Int} {f0 f1 : Bool} {d0 d1 : Int} (h : NS w0 w s c cc f0 f1 d0 d1) (q : w.grownBy w' none) : NS w0 w' s c cc f0 f1 d0 d1 :=
  ⟨grown_trans h.g q, keep_blk q h.b2 (by simp), keep_blk q h.b3 (by simp), keep_blk q h.b5 (by simp), keep_blk q h.b6 (by simp), h.sc, h.scc, h.fd⟩
theorem NS.r0 {w0 w : World} {s c cc : Int} {f0 f1 : Bool} {d0 d1 : Int} (h : NS w0 w s c cc f0 f1 d0 d1) : w.rangeAt (w0.heap.size + 2) 0 (uN d0) := by
  intro j v hv
  have hj : j < 3 := (List.getElem?_eq_some_iff.1 hv).1
  exact range_of_blk h.b5 j v (by rw [List.getElem?_append_left (by exact hj)]; exact hv)
theorem NS.r1 {w0 w : World} {s c cc : Int} {f0 f1 : Bool} {d0 d1 : Int} (h : NS w0 w s c cc f0 f1 d0 d1) : w.rangeAt (w0.heap.size + 2) 3 (uN d1) := by
  intro j v hv
  have := range_of_blk h.b5 (3 + j) v (by rw [List.getElem?_append_right (by show 3 ≤ 3 + j; omega), show 3 + j - (uN d0).length = j by show 3 + j - 3 = j; omega]; exact hv)
  rwa [Nat.zero_add] at this
/-- One step of the search for the nearest clockwise. -/
def nx (s : Int) (ids : List Int) (st : Bool × Int) (y : Int) : Bool × Int := if cwB s ids y = true ∧ (st.1 = false ∨ D s y < D s st.2) then (true, y) else st
/-- The state behind stores into the three blocks. -/
theorem NS.put {w0 w w1 w2 w3 : World} {s c cc c' cc' : Int} {f0 f1 f0' f1' : Bool} {d0 d1 d0' d1' : Int} (h : NS w0 w s c cc f0 f1 d0 d1) (x : Nat) (hx : x = w0.heap.size ∨ x = w0.heap.size + 1) (q1 : w.grownBy w1 (some x)) (q2 : w1.grownBy w2 (some (w0.heap.size + 2))) (q3 : w2.grownBy w3 (some (w0.heap.size + 3)))
    (h2 : w1.heap[w0.heap.size]? = some (.cells (ic c').toArray 25 (0, 0))) (h3 : w1.heap[w0.heap.size + 1]? = some (.cells (ic cc').toArray 25 (0, 0))) (h5 : w2.heap[w0.heap.size + 2]? = some (.cells (uN d0' ++ uN d1').toArray 64 (0, 0))) (h6 : w3.heap[w0.heap.size + 3]? = some (.cells [.bool f0', .bool f1'].toArray 65 (0, 0))) (sc : Sm c') (scc : Sm cc') (fd : f0' = true → d0' = D s c') : NS w0 w3 s c' cc' f0' f1' d0' d1' := by
  have s0 := h.g.size
  have s1 := q1.size
  have s2 := q2.size
  have s3 := q3.size
  refine ⟨⟨q3.os.trans (q2.os.trans (q1.os.trans h.g.os)), q3.tape.trans (q2.tape.trans (q1.tape.trans h.g.tape)), q3.output.trans (q2.output.trans (q1.output.trans h.g.output)), by omega, fun q hq _ => ?_⟩, keep_blk q3 (keep_blk q2 h2 (by simp)) (by simp), keep_blk q3 (keep_blk q2 h3 (by simp)) (by simp), keep_blk q3 h5 (by simp), h6, sc, scc, fd⟩
  have e1 := q1.block q (by omega) (by simp; rcases hx with rfl | rfl <;> omega)
  have e2 := q2.block q (by omega) (by simp; omega)
  have e3 := q3.block q (by omega) (by simp; omega)
  exact e3.trans (e2.trans (e1.trans (h.g.block q hq (by simp))))
end Go.Proofs.YbulkdspqFmt
