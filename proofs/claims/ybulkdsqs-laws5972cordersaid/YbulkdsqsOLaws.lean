/-
  LawS5972COrder: laws on blocks and rows that are of no program (out of YbulkdspqFmtCLaws, CNearA, CNearB, CWords).
-/
import Derived.Test.YbulkdsqsProg
import Derived.WalkKit
import Derived.WalkSpells
import Derived.LaidEqlPtr
import Derived.Below
import Derived.BigQuiet
import Derived.BigRegion
import Derived.Deep.QuietTactic
import Derived.Deep.LoopGhost
import Derived.Deep.OwnRows
import Derived.Deep.DeepCutAuto
import Derived.Deep.CutBlock
import Derived.Deep.MidRow
import Derived.Deep.RegionLaw
import Derived.Deep.RegionHeld3
import Derived.Maps.AppendAt
import Derived.WalkSmall
import Derived.OpenShut
namespace Go.Proofs.Ybulkdsqs
open Go.RowKit
set_option linter.unusedSimpArgs false
set_option linter.unusedVariables false

/-- Hides a fact from the walk. -/
def Hid (p : Prop) : Prop := p

/-! ### A whole block as one value -/
section
variable {P : Program}

theorem range_of_blk {w : World} {b : Nat} {cs : List Value} {t : TypeId} (hb : w.heap[b]? = some (.cells cs.toArray t (0, 0))) : w.rangeAt b 0 cs := by
  intro j u h
  simp only [World.cell?, hb, Nat.zero_add]
  simpa using h

theorem blk_new (w : World) (cs : Array Value) (t : TypeId) (b : Nat) (e : b = w.heap.size) : (w.alloc (.cells cs t)).heap[b]? = some (.cells cs t (0, 0)) := by subst e; exact heap_alloc_new w _
theorem blk_alloc {w : World} {b : Nat} {o : Obj} (h : w.heap[b]? = some o) (o' : Obj) : (w.alloc o').heap[b]? = some o :=
  (Below.heap_alloc w o' b (Array.getElem?_eq_some_iff.1 h).1).trans h

theorem run_load_blk {w : World} {b : Nat} {cs : List Value} {t ty : TypeId} {d : TypeDesc} (hb : w.heap[b]? = some (.cells cs.toArray t (0, 0))) (hu : P.underlying ty = some d) (hd : d.isRow = true) (hi : (P.info? ty).map (·.size) = some cs.length) :
    (loadVar ty ⟨b, 0, none⟩).run P w = .ok (.agg cs.toArray) w := run_loadVar_mid w b 0 ty cs d (range_of_blk hb) hu hd hi

theorem wpList_load_blk {ops : Array Oper} {rest : List Oper} {op : Oper} {a : Act} {w : World} {Q : Exit → Act → World → Prop} (hgd : op.guard = none) (ty : TypeId) (x : Operand) (ho : op.op = .load ty x)
    (b : Nat) (hx : a.eval x = .pointer (some ⟨b, 0, none⟩)) (cs : List Value) (t : TypeId) (hb : w.heap[b]? = some (.cells cs.toArray t (0, 0))) (d : TypeDesc) (hu : P.underlying ty = some d) (hd : d.isRow = true) (hi : (P.info? ty).map (·.size) = some cs.length)
    (h : wpList P ops Q rest (a.put op.dst (.agg cs.toArray)) w) : wpList P ops Q (op :: rest) a w :=
  wpList_load_mid hgd ty x ho b 0 hx cs d (range_of_blk hb) hu hd hi h

theorem run_store_blk {w : World} {b : Nat} {cur : Array Value} {cs : List Value} {t ty : TypeId} (hb : w.heap[b]? = some (.cells cur t (0, 0))) (hs : cur.size = cs.length) (hi : (P.info? ty).map (·.size) = some cs.length) (h1 : ∀ v ∈ cs, v.oneCell' = true) :
    (storeVar ty ⟨b, 0, none⟩ (.agg cs.toArray)).run P w = .ok () (w.setRow b cs.toArray) := by
  have hst := run_storeCells_at P b 0 t cs 0 cur w hb (by omega) h1
  have e : cur.toList.drop cs.length = [] := List.drop_eq_nil_of_le (by simp; omega)
  cases hq : P.info? ty with
  | none => simp [hq] at hi
  | some i =>
    have hs' : i.size = cs.length := by simpa [hq] using hi
    simp [storeVar, sizeOf, typeInfo, hq, Value.cells, hs', hst, e]

theorem wpList_store_blk {ops : Array Oper} {rest : List Oper} {op : Oper} {a : Act} {w : World} {Q : Exit → Act → World → Prop} (hgd : op.guard = none) (ty : TypeId) (x y : Operand) (ho : op.op = .store ty x y)
    (b : Nat) (cs : List Value) (hx : a.eval x = .pointer (some ⟨b, 0, none⟩)) (hy : a.eval y = .agg cs.toArray) (cur : Array Value) (t : TypeId) (hb : w.heap[b]? = some (.cells cur t (0, 0))) (hs : cur.size = cs.length)
    (hi : (P.info? ty).map (·.size) = some cs.length) (h1 : ∀ v ∈ cs, v.oneCell' = true)
    (h : ∀ w', w'.heap[b]? = some (.cells cs.toArray t (0, 0)) → w.grownBy w' (some b) → wpList P ops Q rest (a.put op.dst undef) w') : wpList P ops Q (op :: rest) a w := by
  refine wpList_plain hgd fun K hK => ?_
  have hr := run_store_blk (P := P) hb hs hi h1
  unfold Oper.wp execOp
  simp only [ho, hx, hy, Instr.storeAt, Instr.sureAddr, Sem.run_bind, Sem.run_pure, Result.andThen_ok, hr]
  exact hK _ _ (h _ (setRow_heap _ _ _ _ _ _ hb) ⟨rfl, rfl, rfl, by simp [World.setRow], fun k _ hk => setRow_other _ _ _ _ (fun e => hk (by rw [e]))⟩)

end

theorem grown_trans {a b c : World} {row : Option Nat} (h : a.grownBy b row) (k : b.grownBy c row) : a.grownBy c row :=
  ⟨k.os.trans h.os, k.tape.trans h.tape, k.output.trans h.output, Nat.le_trans h.size k.size, fun i hi hne => (k.block i (Nat.lt_of_lt_of_le hi h.size) hne).trans (h.block i hi hne)⟩

section
variable {P : Program}

theorem run_load_cell {w : World} {b i : Nat} {cs : List Value} {t ty : TypeId} {d : TypeDesc} {v : Value} (hb : w.heap[b]? = some (.cells cs.toArray t (0, 0))) (hu : P.underlying ty = some d) (hd : d.isRow = false) (hv : cs[i]? = some v) :
    (loadVar ty ⟨b, i, none⟩).run P w = .ok v w := by
  have hc : w.cell? ⟨b, i, none⟩ = some v := by
    simp only [World.cell?, hb]
    simpa using hv
  have hagg : (isAgg ty).run P w = .ok false w := by
    unfold isAgg
    rw [Sem.run_bind, run_underlying hu w]
    cases d <;> simp_all
  simp [loadVar, hagg, hc]

theorem wpList_load_cell {ops : Array Oper} {rest : List Oper} {op : Oper} {a : Act} {w : World} {Q : Exit → Act → World → Prop} (hgd : op.guard = none) (ty : TypeId) (x : Operand) (ho : op.op = .load ty x)
    (b i : Nat) (hx : a.eval x = .pointer (some ⟨b, i, none⟩)) (cs : List Value) (t : TypeId) (hb : w.heap[b]? = some (.cells cs.toArray t (0, 0))) (d : TypeDesc) (hu : P.underlying ty = some d) (hd : d.isRow = false) (v : Value) (hv : cs[i]? = some v)
    (h : wpList P ops Q rest (a.put op.dst v) w) : wpList P ops Q (op :: rest) a w := by
  refine wpList_plain hgd fun K hK => ?_
  unfold Oper.wp execOp
  simp only [ho, hx, Instr.loadAt, Instr.sureAddr, Sem.run_bind, Sem.run_pure, Result.andThen_ok, run_load_cell hb hu hd hv]
  exact hK _ _ h

theorem run_store_cell {w : World} {b i : Nat} {cs : List Value} {t ty : TypeId} {v : Value} (hb : w.heap[b]? = some (.cells cs.toArray t (0, 0))) (hi : (P.info? ty).map (·.size) = some 1) (hl : i < cs.length) (h1 : v.oneCell' = true) :
    (storeVar ty ⟨b, i, none⟩ v).run P w = .ok () (w.setRow b (cs.set i v).toArray) := by
  have hst := run_storeCells_at P b i t [v] 0 cs.toArray w hb (by simp; omega) (by simpa using h1)
  have hc : v.cells = #[v] := by cases v <;> first | rfl | (simp [Value.oneCell'] at h1)
  cases hq : P.info? ty with
  | none => simp [hq] at hi
  | some j =>
    have hs' : j.size = 1 := by simpa [hq] using hi
    have e : cs.take i ++ v :: cs.drop (i + 1) = cs.set i v := (List.set_eq_take_append_cons_drop).symm ▸ by simp [hl]
    simp [storeVar, sizeOf, typeInfo, hq, hc, hs', hst, e]

theorem wpList_store_cell {ops : Array Oper} {rest : List Oper} {op : Oper} {a : Act} {w : World} {Q : Exit → Act → World → Prop} (hgd : op.guard = none) (ty : TypeId) (x y : Operand) (ho : op.op = .store ty x y)
    (b i : Nat) (v : Value) (hx : a.eval x = .pointer (some ⟨b, i, none⟩)) (hy : a.eval y = v) (cs : List Value) (t : TypeId) (hb : w.heap[b]? = some (.cells cs.toArray t (0, 0))) (hi : (P.info? ty).map (·.size) = some 1) (hl : i < cs.length) (h1 : v.oneCell' = true)
    (cs' : List Value) (hc : cs.set i v = cs')
    (h : ∀ w', w'.heap[b]? = some (.cells cs'.toArray t (0, 0)) → w.grownBy w' (some b) → wpList P ops Q rest (a.put op.dst undef) w') : wpList P ops Q (op :: rest) a w := by
  subst hc
  refine wpList_plain hgd fun K hK => ?_
  have hr := run_store_cell (P := P) hb hi hl h1
  unfold Oper.wp execOp
  simp only [ho, hx, hy, Instr.storeAt, Instr.sureAddr, Sem.run_bind, Sem.run_pure, Result.andThen_ok, hr]
  exact hK _ _ (h _ (setRow_heap _ _ _ _ _ _ hb) ⟨rfl, rfl, rfl, by simp [World.setRow], fun k _ hk => setRow_other _ _ _ _ (fun e => hk (by rw [e]))⟩)

theorem keep_blk {w w' : World} {row : Option Nat} {q : Nat} {o : Obj} (hg : w.grownBy w' row) (h : w.heap[q]? = some o) (hne : some q ≠ row) : w'.heap[q]? = some o :=
  (hg.block q (Array.getElem?_eq_some_iff.1 h).1 hne).trans h

end

section
variable {P : Program}
variable {ops : Array Oper} {S : World → Prop} {op : Oper} {a : Act}
theorem yld_cell (hw : Region.wanted op (yielded ops a.tmps) = true) (ty : TypeId) (x : Operand) (ho : op.op = .load ty x)
    (b i : Nat) (hx : a.eval x = .pointer (some ⟨b, i, none⟩)) (cs : List Value) (t : TypeId) (hb : ∀ w, S w → w.heap[b]? = some (.cells cs.toArray t (0, 0))) (d : TypeDesc) (hu : P.underlying ty = some d) (hd : d.isRow = false) (v : Value) (hv : cs[i]? = some v) : YieldsIf P ops S op v a :=
  .inl ⟨hw, fun w hS => by
    unfold execOp
    simp only [ho, hx, Instr.loadAt, Instr.sureAddr, Sem.run_bind, Sem.run_pure, Result.andThen_ok, run_load_cell (hb w hS) hu hd hv]⟩
theorem yld_blk (hw : Region.wanted op (yielded ops a.tmps) = true) (ty : TypeId) (x : Operand) (ho : op.op = .load ty x)
    (b : Nat) (hx : a.eval x = .pointer (some ⟨b, 0, none⟩)) (cs : List Value) (t : TypeId) (hb : ∀ w, S w → w.heap[b]? = some (.cells cs.toArray t (0, 0))) (d : TypeDesc) (hu : P.underlying ty = some d) (hd : d.isRow = true) (hi : (P.info? ty).map (·.size) = some cs.length) : YieldsIf P ops S op (.agg cs.toArray) a :=
  yieldsIf_load_mid hw ty x ho b 0 hx cs d (fun w hS => range_of_blk (hb w hS)) hu hd hi

variable {md : Region.Mode} {Q : Exit → Act → World → Prop}
/-- An operation may be taken first. -/
theorem any_take (i : Nat) (d : Option Tmp) (v : Value) {oi : Oper} {fuel : Nat} {listed : Array Bool} {w : World} (hi : ops[i]? = some oi) (hd : oi.dst = d)
    (hs : Region.noSelect ops = true) (hf : Region.free md ops listed i = true) (hr : (Region.ready md ops listed).contains i = true)
    (hQ : ∀ c a w, Q (.panic c) (a.put oi.dst v) w → Q (.panic c) a w) (hy : YieldsIf P ops S oi v a) (hS : S w)
    (h : wpAnyH P md ops Q S fuel (listed.setIfInBounds i true) (a.put d v) w) : wpAnyH P md ops Q S (fuel + 1) listed a w := by
  subst hd
  exact wpAnyH_take hi hs hf hr hQ hy hS h
/-- One operation alone may come up: it yields a value. -/
theorem any_one (i : Nat) (d : Option Tmp) (v : Value) (w' : World) {fuel : Nat} {o : Oper} {listed : Array Bool} {w : World} (hi : ops[i]? = some o) (hd : o.dst = d) (hr : Region.ready md ops listed = [i]) (hw : Region.wanted o (yielded ops a.tmps) = true)
    (hrun : (execOp a.eval o).run P w = .ok (.value v) w') (hS' : S w') (h : wpAnyH P md ops Q S fuel (listed.setIfInBounds i true) (a.put d v) w') : wpAnyH P md ops Q S (fuel + 1) listed a w := by
  subst hd
  exact wpAnyH_all hr (by simp) (fun j hj => by
    have e : j = i := by simpa using hj
    subst e
    unfold wpOp
    simp only [hi, hw, if_true, Oper.wp, hrun, Oper.upon]
    exact .inl ⟨hS', h⟩)
/-- One operation alone may come up: it yields nothing. -/
theorem any_skip (i : Nat) (w' : World) {fuel : Nat} {o : Oper} {listed : Array Bool} {w : World} (hi : ops[i]? = some o) (hr : Region.ready md ops listed = [i]) (hw : Region.wanted o (yielded ops a.tmps) = true)
    (hrun : (execOp a.eval o).run P w = .ok .skip w') (hS' : S w') (h : wpAnyH P md ops Q S fuel (listed.setIfInBounds i true) (a.put o.dst undef) w') : wpAnyH P md ops Q S (fuel + 1) listed a w :=
  wpAnyH_all hr (by simp) (fun j hj => by
    have e : j = i := by simpa using hj
    subst e
    unfold wpOp
    simp only [hi, hw, if_true, Oper.wp, hrun, Oper.upon]
    exact .inl ⟨hS', h⟩)
end

section
variable {P : Program} {ops : Array Oper} {S : World → Prop} {a : Act} {md : Region.Mode} {Q : Exit → Act → World → Prop}
theorem any_store (i : Nat) {fuel : Nat} {o : Oper} {listed : Array Bool} {w : World} (hi : ops[i]? = some o) (hd : o.dst = none) (hr : Region.ready md ops listed = [i]) (hw : Region.wanted o (yielded ops a.tmps) = true)
    (ty : TypeId) (x y : Operand) (ho : o.op = .store ty x y) (b j : Nat) (v : Value) (hx : a.eval x = .pointer (some ⟨b, j, none⟩)) (hy : a.eval y = v) (cs : List Value) (t : TypeId) (hb : w.heap[b]? = some (.cells cs.toArray t (0, 0)))
    (hsz : (P.info? ty).map (·.size) = some 1) (hl : j < cs.length) (h1 : v.oneCell' = true) (cs' : List Value) (hc : cs.set j v = cs')
    (h : ∀ w', w'.heap[b]? = some (.cells cs'.toArray t (0, 0)) → w.grownBy w' (some b) → S w' ∧ wpAnyH P md ops Q S fuel (listed.setIfInBounds i true) (a.put none undef) w') : wpAnyH P md ops Q S (fuel + 1) listed a w := by
  subst hc
  have hh := h _ (setRow_heap _ _ _ _ _ _ hb) ⟨rfl, rfl, rfl, by simp [World.setRow], fun k _ hk => setRow_other _ _ _ _ (fun e => hk (by rw [e]))⟩
  refine any_skip i _ hi hr hw ?_ hh.1 (by rw [hd]; exact hh.2)
  unfold execOp
  simp only [ho, hx, hy, Instr.storeAt, Instr.sureAddr, Sem.run_bind, Sem.run_pure, Result.andThen_ok, run_store_cell hb hsz hl h1]
end

theorem wpList_exec {P : Program} {ops : Array Oper} {rest : List Oper} {op : Oper} {a : Act} {w w' : World} {Q : Exit → Act → World → Prop} (hgd : op.guard = none) (v : Value) (hr : (execOp a.eval op).run P w = .ok (.value v) w')
    (h : wpList P ops Q rest (a.put op.dst v) w') : wpList P ops Q (op :: rest) a w := by
  refine wpList_plain hgd fun K hK => ?_
  unfold Oper.wp
  simp only [hr, Oper.upon]
  exact hK _ _ h
/-! ### A call inside a drawn region -/
section
variable {P : Program} {ops : Array Oper} {S : World → Prop} {a : Act} {md : Region.Mode} {Q : Exit → Act → World → Prop}
theorem any_call (i : Nat) (d : Option Tmp) (fn : FuncId) (args : Array Value) {fuel : Nat} {o : Oper} {listed : Array Bool} {w : World} (hi : ops[i]? = some o) (hd : o.dst = d) (hr : Region.ready md ops listed = [i]) (hw : Region.wanted o (yielded ops a.tmps) = true)
    (hrun : (execOp a.eval o).run P w = .ok (.enter fn args) w) (hc : Calls P fn args w fun e w' => ∃ v, e = .returned v ∧ S w' ∧ wpAnyH P md ops Q S fuel (listed.setIfInBounds i true) (a.put d v) w') : wpAnyH P md ops Q S (fuel + 1) listed a w := by
  subst hd
  exact wpAnyH_all hr (by simp) (fun j hj => by
    have e : j = i := by simpa using hj
    subst e
    unfold wpOp
    simp only [hi, hw, if_true, Oper.wp, hrun, Oper.upon]
    refine .inl (Calls.mono hc fun e w' he => ?_)
    obtain ⟨v, rfl, h1, h2⟩ := he
    exact ⟨h1, h2⟩)
end

theorem own_kept {w w' : World} {base : Nat} {e : TypeId} {size : Nat} {v : Value} {n : Nat} {xs : List Value} {row : Option Nat} (h : w.ownsRow base e size v n xs) (hg : w.grownBy w' row) (hne : ∀ q, v.ownBlock = some q → row ≠ some q) : w'.ownsRow base e size v n xs := by
  refine ⟨h.1, h.2.imp id fun ⟨g, cap, cur, h1, h2, h3, h4⟩ => ⟨g, cap, cur, h1, h2, ?_, h4⟩⟩
  exact keep_blk hg h3 (fun e' => hne g (by rw [h1]; rfl) e'.symm)

/-- Rows of two element types lie in two blocks. -/
theorem own_apart {w : World} {b1 b2 : Nat} {e1 e2 : TypeId} {s1 s2 : Nat} {v1 v2 : Value} {n1 n2 : Nat} {x1 x2 : List Value} (h1 : w.ownsRow b1 e1 s1 v1 n1 x1) (h2 : w.ownsRow b2 e2 s2 v2 n2 x2) (hne : e1 ≠ e2) {q : Nat} (hq : v1.ownBlock = some q) : v2.ownBlock ≠ some q := by
  intro hq2
  rcases h1.2 with ⟨rfl, _⟩ | ⟨g, cap, cur, rfl, _, hg, _⟩
  · simp [Value.ownBlock] at hq
  rcases h2.2 with ⟨rfl, _⟩ | ⟨g2, cap2, cur2, rfl, _, hg2, _⟩
  · simp [Value.ownBlock] at hq2
  simp only [Value.ownBlock, Option.some.injEq] at hq hq2
  rw [hq] at hg
  rw [hq2, hg] at hg2
  simp only [Option.some.injEq, Obj.cells.injEq] at hg2
  exact hne hg2.2.1
/-- The row lies at or behind its base. -/
theorem own_base {w : World} {b1 : Nat} {e1 : TypeId} {s1 : Nat} {v1 : Value} {n1 : Nat} {x1 : List Value} (h1 : w.ownsRow b1 e1 s1 v1 n1 x1) {q : Nat} (hq : v1.ownBlock = some q) : b1 ≤ q ∧ q < w.heap.size := by
  rcases h1.2 with ⟨rfl, _⟩ | ⟨g, cap, cur, rfl, hb, hg, _⟩
  · simp [Value.ownBlock] at hq
  simp only [Value.ownBlock, Option.some.injEq] at hq
  subst hq
  exact ⟨hb, (Array.getElem?_eq_some_iff.1 hg).1⟩

theorem own_move {w w' : World} {base : Nat} {e : TypeId} {size : Nat} {v : Value} {n : Nat} {xs : List Value} (h : w.ownsRow base e size v n xs) (hw : ∀ q, base ≤ q → q < w.heap.size → w'.heap[q]? = w.heap[q]?) : w'.ownsRow base e size v n xs :=
  ⟨h.1, h.2.imp id fun ⟨g, cap, cur, h1, h2, h3, h4⟩ => ⟨g, cap, cur, h1, h2, (hw g h2 (Array.getElem?_eq_some_iff.1 h3).1).trans h3, h4⟩⟩
theorem own_form {w : World} {base : Nat} {e : TypeId} {size : Nat} {v : Value} {n : Nat} {xs : List Value} (h : w.ownsRow base e size v n xs) : ∃ a c, v = .slice a n c ∧ (0 < n → ∃ g, a = some ⟨g, 0, none⟩) := by
  rcases h.2 with ⟨rfl, rfl⟩ | ⟨g, cap, cur, rfl, _⟩
  · exact ⟨none, 0, rfl, fun h => by omega⟩
  · exact ⟨_, _, rfl, fun _ => ⟨g, rfl⟩⟩
/-- The operation that comes next is this one. -/
theorem wpList_is {P : Program} {ops : Array Oper} {rest : List Oper} {op : Oper} {a : Act} {w : World} {Q : Exit → Act → World → Prop} (o : Op) (ho : op.op = o) (h : wpList P ops Q (op :: rest) a w) : wpList P ops Q (op :: rest) a w := h

theorem grown_new {w w' : World} {o : Obj} (h : (w.alloc o).grownBy w' (some w.heap.size)) : w.grownBy w' none :=
  ⟨h.os, h.tape, h.output, Nat.le_trans (by simp) h.size, fun q hq _ => (h.block q (by simp; omega) (by simp; omega)).trans (Below.heap_alloc _ _ _ hq)⟩

/-- A stretch whose rest is told by a hypothesis. -/
theorem by_K {c : Code} {Q : Exit → Act → World → Prop} {K : Act → World → Prop} {a : Act} {w : World} (h : ∀ a w, Code.wp Yba.prog c Q a w → K a w) (h' : Code.wp Yba.prog c Q a w) : K a w := h a w h'


/-! ### Rows of elements of one size -/
section
variable {α : Type} {f : α → List Value} {sz : Nat}
theorem flat_len (hf : ∀ a, (f a).length = sz) : ∀ xs : List α, (xs.flatMap f).length = xs.length * sz
  | [] => by simp
  | x :: xs => by simp only [List.flatMap_cons, List.length_append, hf, flat_len hf xs, List.length_cons, Nat.add_mul]; omega
theorem flat_get (hf : ∀ a, (f a).length = sz) : ∀ (xs : List α) (i : Nat) (x : α) (c : Nat), xs[i]? = some x → c < sz → (xs.flatMap f)[i * sz + c]? = (f x)[c]?
  | [], i, x, c, h, _ => by simp at h
  | y :: ys, 0, x, c, h, hc => by
    simp at h; subst h
    rw [List.flatMap_cons, Nat.zero_mul, Nat.zero_add, List.getElem?_append_left (by rw [hf]; exact hc)]
  | y :: ys, i + 1, x, c, h, hc => by
    rw [List.flatMap_cons, List.getElem?_append_right (by rw [hf, Nat.add_mul]; omega), hf, show (i + 1) * sz + c - sz = i * sz + c by rw [Nat.add_mul]; omega]
    exact flat_get hf ys i x c (by simpa using h) hc
theorem flat_set (hf : ∀ a, (f a).length = sz) : ∀ (xs : List α) (i : Nat) (y : α), i < xs.length → (xs.flatMap f).take (i * sz) ++ (f y ++ (xs.flatMap f).drop (i * sz + sz)) = (xs.set i y).flatMap f
  | [], i, y, h => by simp at h
  | x :: xs, 0, y, h => by
    simp only [Nat.zero_mul, List.take_zero, List.nil_append, Nat.zero_add, List.flatMap_cons, List.set_cons_zero]
    rw [List.drop_left' (hf x)]
  | x :: xs, i + 1, y, h => by
    have := flat_set hf xs i y (by simpa using h)
    rw [List.flatMap_cons, List.set_cons_succ, List.flatMap_cons, ← this, List.take_append, List.drop_append, hf, show (i + 1) * sz - sz = i * sz by rw [Nat.add_mul]; omega, show (i + 1) * sz + sz - sz = i * sz + sz by rw [Nat.add_mul]; omega,
      List.take_of_length_le (by rw [hf, Nat.add_mul]; omega), List.drop_eq_nil_of_le (by rw [hf, Nat.add_mul]; omega), List.nil_append, List.append_assoc]
theorem flat_one (h1 : ∀ a, ∀ v ∈ f a, v.oneCell' = true) (xs : List α) : ∀ v ∈ xs.flatMap f, v.oneCell' = true := by
  intro v hv
  obtain ⟨a, _, ha⟩ := List.mem_flatMap.1 hv
  exact h1 a v ha

/-- A whole block of elements. -/
def Blk (f : α → List Value) (w : World) (g : Nat) (e : TypeId) (xs : List α) : Prop := w.heap[g]? = some (.cells (xs.flatMap f).toArray e (0, 0))
theorem Blk.range {w : World} {g : Nat} {e : TypeId} {xs : List α} (h : Blk f w g e xs) (hf : ∀ a, (f a).length = sz) {i : Nat} {x : α} (hx : xs[i]? = some x) : w.rangeAt g (i * sz) (f x) := by
  intro c u hu
  have hc : c < sz := by rw [← hf x]; exact (List.getElem?_eq_some_iff.1 hu).1
  have := range_of_blk h (i * sz + c) u (by rw [flat_get hf xs i x c hx hc]; exact hu)
  rwa [Nat.zero_add] at this
theorem Blk.cells {w : World} {g : Nat} {e : TypeId} {xs : List α} (h : Blk f w g e xs) : ∀ j u, (xs.flatMap f)[j]? = some u → w.cell? ((⟨g, 0, none⟩ : Addr).add j) = some u := by
  intro j u hu
  have := range_of_blk h j u hu
  rw [Addr.add_mid]; exact this
theorem Blk.kept {w w' : World} {row : Option Nat} {g : Nat} {e : TypeId} {xs : List α} (h : Blk f w g e xs) (hg : w.grownBy w' row) (hne : some g ≠ row) : Blk f w' g e xs := keep_blk hg h hne
/-- An owned row of elements, read. -/
theorem own_range {w : World} {base g n cap : Nat} {e : TypeId} {xs : List α} (h : w.ownsRow base e sz (.slice (some ⟨g, 0, none⟩) n cap) n (xs.flatMap f)) (hf : ∀ a, (f a).length = sz) {i : Nat} {x : α} (hx : xs[i]? = some x) : w.rangeAt g (i * sz) (f x) := by
  intro c u hu
  have hc : c < sz := by rw [← hf x]; exact (List.getElem?_eq_some_iff.1 hu).1
  have := h.cells (g := g) rfl (i * sz + c) u (by rw [flat_get hf xs i x c hx hc]; exact hu)
  rwa [Addr.add_mid, Nat.zero_add] at this
theorem Blk.own {w : World} {g : Nat} {e : TypeId} {xs : List α} (h : Blk f w g e xs) (hf : ∀ a, (f a).length = sz) (hm : xs.length ≤ maxLen) : w.ownsRow 0 e sz (.slice (some ⟨g, 0, none⟩) xs.length xs.length) xs.length (xs.flatMap f) :=
  ⟨flat_len hf xs, .inr ⟨g, xs.length, _, rfl, Nat.zero_le _, h, Nat.le_refl _, hm, by simp [flat_len hf xs], by rw [← flat_len hf xs]; show (List.flatMap f xs).take _ = _; exact List.take_length⟩⟩
theorem Blk.own0 {w : World} {g : Nat} {e : TypeId} {xs : List α} (h : Blk f w g e xs) (hf : ∀ a, (f a).length = sz) (hm : xs.length ≤ maxLen) : w.ownsRow 0 e sz (.slice (some ⟨g, 0, none⟩) 0 xs.length) 0 [] :=
  ⟨by simp, .inr ⟨g, xs.length, _, rfl, Nat.zero_le _, h, Nat.zero_le _, hm, by simp [flat_len hf xs], by simp⟩⟩
end

/-! ### An element stored -/
section
variable {P : Program} {α : Type} {f : α → List Value} {sz : Nat}
theorem run_store_row {w : World} {g : Nat} {e ty : TypeId} {xs : List α} (hb : Blk f w g e xs) (hf : ∀ a, (f a).length = sz) (hsz : (P.info? ty).map (·.size) = some sz) (h1 : ∀ a, ∀ v ∈ f a, v.oneCell' = true) {i : Nat} (hi : i < xs.length) (y : α) (v : Value) (hv : v.cells = (f y).toArray) :
    (storeVar ty ⟨g, i * sz, none⟩ v).run P w = .ok () (w.setRow g ((xs.set i y).flatMap f).toArray) := by
  have hle : i * sz + sz ≤ (xs.flatMap f).length := by rw [flat_len hf]; have := Nat.mul_le_mul_right sz (show i + 1 ≤ xs.length by omega); rw [Nat.add_mul] at this; omega
  have hst := run_storeCells_at P g (i * sz) e (f y) 0 (xs.flatMap f).toArray w hb (by rw [hf]; simpa using hle) (h1 y)
  have e1 := flat_set hf xs i y hi
  cases hq : P.info? ty with
  | none => simp [hq] at hsz
  | some j =>
    have hs' : j.size = sz := by simpa [hq] using hsz
    simp [storeVar, sizeOf, typeInfo, hq, hv, hs', hst, hf, e1]
theorem wpList_store_row {ops : Array Oper} {rest : List Oper} {op : Oper} {a : Act} {w : World} {Q : Exit → Act → World → Prop} (hgd : op.guard = none) (ty : TypeId) (x y : Operand) (ho : op.op = .store ty x y)
    (g i : Nat) (v : Value) (hx : a.eval x = .pointer (some ⟨g, i * sz, none⟩)) (hy : a.eval y = v) {xs : List α} {e : TypeId} (hb : Blk f w g e xs) (hf : ∀ a, (f a).length = sz) (hsz : (P.info? ty).map (·.size) = some sz) (h1 : ∀ a, ∀ v ∈ f a, v.oneCell' = true) (hi : i < xs.length) (z : α) (hv : v.cells = (f z).toArray)
    (h : ∀ w', Blk f w' g e (xs.set i z) → w.grownBy w' (some g) → wpList P ops Q rest (a.put op.dst undef) w') : wpList P ops Q (op :: rest) a w := by
  refine wpList_plain hgd fun K hK => ?_
  have hr := run_store_row (P := P) hb hf hsz h1 hi z v hv
  unfold Oper.wp execOp
  simp only [ho, hx, hy, Instr.storeAt, Instr.sureAddr, Sem.run_bind, Sem.run_pure, Result.andThen_ok, hr]
  exact hK _ _ (h _ (setRow_heap _ _ _ _ _ _ hb) ⟨rfl, rfl, rfl, by simp [World.setRow], fun k _ hk => setRow_other _ _ _ _ (fun e => hk (by rw [e]))⟩)
variable {ops : Array Oper} {S : World → Prop} {a : Act} {md : Region.Mode} {Q : Exit → Act → World → Prop}
theorem any_store_row (i : Nat) {fuel : Nat} {o : Oper} {listed : Array Bool} {w : World} (hi : ops[i]? = some o) (hd : o.dst = none) (hr : Region.ready md ops listed = [i]) (hw : Region.wanted o (yielded ops a.tmps) = true)
    (ty : TypeId) (x y : Operand) (ho : o.op = .store ty x y) (g k : Nat) (v : Value) (hx : a.eval x = .pointer (some ⟨g, k * sz, none⟩)) (hy : a.eval y = v) {xs : List α} {e : TypeId} (hb : Blk f w g e xs) (hf : ∀ a, (f a).length = sz) (hsz : (P.info? ty).map (·.size) = some sz) (h1 : ∀ a, ∀ v ∈ f a, v.oneCell' = true) (hk : k < xs.length) (z : α) (hv : v.cells = (f z).toArray)
    (h : ∀ w', Blk f w' g e (xs.set k z) → w.grownBy w' (some g) → S w' ∧ wpAnyH P md ops Q S fuel (listed.setIfInBounds i true) (a.put none undef) w') : wpAnyH P md ops Q S (fuel + 1) listed a w := by
  have hh := h _ (setRow_heap _ _ _ _ _ _ hb) ⟨rfl, rfl, rfl, by simp [World.setRow], fun k _ hk => setRow_other _ _ _ _ (fun e => hk (by rw [e]))⟩
  refine any_skip i _ hi hr hw ?_ hh.1 (by rw [hd]; exact hh.2)
  have hr := run_store_row (P := P) hb hf hsz h1 hk z v hv
  unfold execOp
  simp only [ho, hx, hy, Instr.storeAt, Instr.sureAddr, Sem.run_bind, Sem.run_pure, Result.andThen_ok, hr]
end

theorem info_parts {P : Program} {e : TypeId} {z : Option Value} {s b : Nat} (h : (P.info? e).map (fun i => (i.zero, i.size, i.bytes)) = some (z, s, b)) : ∃ i, P.info? e = some i ∧ i.zero = z ∧ i.size = s ∧ i.bytes = b := by
  obtain ⟨i, hi, h2⟩ := Option.map_eq_some_iff.1 h
  simp only [Prod.mk.injEq] at h2
  exact ⟨i, hi, h2.1, h2.2.1, h2.2.2⟩

/-- The address of an element of a row. -/
theorem index_row {P : Program} {t e : TypeId} {i : TypeInfo} {sz : Nat} (ht : P.underlying t = some (.slice e)) (hi : P.info? e = some i) (hsz : i.size = sz) (g n c k : Nat) (hk : k < n) (w : World) : (Instr.indexAt t (.slice (some ⟨g, 0, none⟩) n c) (.int .i64 (k : Int))).run P w = .ok (.pointer (some ⟨g, k * sz, none⟩)) w := by
  have hlt : (k : Int) < (n : Int) := by omega
  simp [Instr.indexAt, asIntOf, run_underlying ht, sizeOf, typeInfo, hi, hsz, hlt, hk, Addr.add_mid]
theorem exec_index {P : Program} {a : Act} {o : Oper} {w : World} {t e : TypeId} {i : TypeInfo} {sz : Nat} (x y : Operand) (ho : o.op = .indexAddr t x y) (ht : P.underlying t = some (.slice e)) (hi : P.info? e = some i) (hsz : i.size = sz) (g n c k : Nat) (hk : k < n) (hx : a.eval x = .slice (some ⟨g, 0, none⟩) n c) (hy : a.eval y = .int .i64 (k : Int)) :
    (execOp a.eval o).run P w = .ok (.value (.pointer (some ⟨g, k * sz, none⟩))) w := by
  unfold execOp
  simp only [ho, hx, hy, Sem.run_bind, index_row ht hi hsz g n c k hk w, Result.andThen_ok, Sem.run_pure]

theorem below_grown {w w' : World} (h : Below w.heap.size w w') : w.grownBy w' none := ⟨h.os, h.tape, h.output, h.size, fun q hq _ => h.block q hq⟩
theorem grown_drew (w : World) : w.grownBy { w with drawn := w.drawn + 1 } none := ⟨rfl, rfl, rfl, Nat.le_refl _, fun _ _ _ => rfl⟩
/-! ### Operations that are guarded -/
theorem wpList_execG {P : Program} {ops : Array Oper} {rest : List Oper} {op : Oper} {a : Act} {w w' : World} {Q : Exit → Act → World → Prop} (hw : Region.wanted op (yielded ops a.tmps) = true) (v : Value) (hr : (execOp a.eval op).run P w = .ok (.value v) w')
    (h : wpList P ops Q rest (a.put op.dst v) w') : wpList P ops Q (op :: rest) a w := by
  refine wpList_step fun K hK => ?_
  rw [if_pos hw]
  unfold Oper.wp
  simp only [hr, Oper.upon]
  exact hK _ _ h
section
variable {P : Program} {a : Act} {o : Oper} {w : World}
theorem exec_load_row (ty : TypeId) (x : Operand) (ho : o.op = .load ty x) (b i : Nat) (hx : a.eval x = .pointer (some ⟨b, i, none⟩)) (cs : List Value) (d : TypeDesc) (hc : w.rangeAt b i cs) (hu : P.underlying ty = some d) (hd : d.isRow = true) (hi : (P.info? ty).map (·.size) = some cs.length) : (execOp a.eval o).run P w = .ok (.value (.agg cs.toArray)) w := by
  unfold execOp
  simp only [ho, hx, Instr.loadAt, Instr.sureAddr, Sem.run_bind, Sem.run_pure, Result.andThen_ok, run_loadVar_mid w b i ty cs d hc hu hd hi]
theorem exec_load_cell (ty : TypeId) (x : Operand) (ho : o.op = .load ty x) (b i : Nat) (hx : a.eval x = .pointer (some ⟨b, i, none⟩)) (cs : List Value) (t : TypeId) (hb : w.heap[b]? = some (.cells cs.toArray t (0, 0))) (d : TypeDesc) (hu : P.underlying ty = some d) (hd : d.isRow = false) (v : Value) (hv : cs[i]? = some v) : (execOp a.eval o).run P w = .ok (.value v) w := by
  unfold execOp
  simp only [ho, hx, Instr.loadAt, Instr.sureAddr, Sem.run_bind, Sem.run_pure, Result.andThen_ok, run_load_cell hb hu hd hv]
/-- A row stored in the midst of a block. -/
theorem run_store_mid {ty : TypeId} {b : Nat} {pre old cs post : List Value} {t : TypeId} (hb : w.heap[b]? = some (.cells (pre ++ old ++ post).toArray t (0, 0))) (hs : old.length = cs.length) (hi : (P.info? ty).map (·.size) = some cs.length) (h1 : ∀ v ∈ cs, v.oneCell' = true) :
    (storeVar ty ⟨b, pre.length, none⟩ (.agg cs.toArray)).run P w = .ok () (w.setRow b (pre ++ cs ++ post).toArray) := by
  have hst := run_storeCells_at P b pre.length t cs 0 (pre ++ old ++ post).toArray w hb (by simp; omega) h1
  have e1 : (pre ++ old ++ post).take pre.length = pre := by rw [List.append_assoc]; exact List.take_left' rfl
  have e2 : (pre ++ old ++ post).drop (pre.length + cs.length) = post := List.drop_left' (by simp [hs])
  have e3 : ((pre ++ old ++ post).toArray.toList.take (pre.length + 0) ++ cs ++ (pre ++ old ++ post).toArray.toList.drop (pre.length + 0 + cs.length)) = pre ++ cs ++ post := by
    rw [Nat.add_zero]
    exact congr (congrArg _ (congr (congrArg _ e1) rfl)) e2
  rw [e3] at hst
  cases hq : P.info? ty with
  | none => simp [hq] at hi
  | some i =>
    have hs' : i.size = cs.length := by simpa [hq] using hi
    simp [storeVar, sizeOf, typeInfo, hq, Value.cells, hs']
    simpa using hst
end
section
variable {P : Program} {ops : Array Oper} {S : World → Prop} {a : Act} {md : Region.Mode} {Q : Exit → Act → World → Prop}
theorem any_store_mid (i : Nat) {fuel : Nat} {o : Oper} {listed : Array Bool} {w : World} (hi : ops[i]? = some o) (hd : o.dst = none) (hr : Region.ready md ops listed = [i]) (hw : Region.wanted o (yielded ops a.tmps) = true)
    (ty : TypeId) (x y : Operand) (ho : o.op = .store ty x y) (b k : Nat) (pre old cs post : List Value) (hk : pre.length = k) (hx : a.eval x = .pointer (some ⟨b, k, none⟩)) (hy : a.eval y = .agg cs.toArray) (t : TypeId) (hb : w.heap[b]? = some (.cells (pre ++ old ++ post).toArray t (0, 0))) (hs : old.length = cs.length) (hsz : (P.info? ty).map (·.size) = some cs.length) (h1 : ∀ v ∈ cs, v.oneCell' = true)
    (h : ∀ w', w'.heap[b]? = some (.cells (pre ++ cs ++ post).toArray t (0, 0)) → w.grownBy w' (some b) → S w' ∧ wpAnyH P md ops Q S fuel (listed.setIfInBounds i true) (a.put none undef) w') : wpAnyH P md ops Q S (fuel + 1) listed a w := by
  have hh := h _ (setRow_heap _ _ _ _ _ _ hb) ⟨rfl, rfl, rfl, by simp [World.setRow], fun k _ hk => setRow_other _ _ _ _ (fun e => hk (by rw [e]))⟩
  refine any_skip i _ hi hr hw ?_ hh.1 (by rw [hd]; exact hh.2)
  subst hk
  have hr := run_store_mid (P := P) hb hs hsz h1
  unfold execOp
  simp only [ho, hx, hy, Instr.storeAt, Instr.sureAddr, Sem.run_bind, Sem.run_pure, Result.andThen_ok, hr]
end
section
variable {P : Program} {ops : Array Oper} {S : World → Prop} {a : Act} {md : Region.Mode} {Q : Exit → Act → World → Prop} {K : Act → World → Prop}
theorem op_val (i : Nat) (d : Option Tmp) (v : Value) (w' : World) {o : Oper} {w : World} (hi : ops[i]? = some o) (hd : o.dst = d) (hw : Region.wanted o (yielded ops a.tmps) = true) (hrun : (execOp a.eval o).run P w = .ok (.value v) w') (h : K (a.put d v) w') : wpOp P ops Q i K a w := by
  subst hd
  unfold wpOp
  simp only [hi, hw, if_true, Oper.wp, hrun, Oper.upon]
  exact .inl h
theorem op_call (i : Nat) (d : Option Tmp) (fn : FuncId) (args : Array Value) {o : Oper} {w : World} (hi : ops[i]? = some o) (hd : o.dst = d) (hw : Region.wanted o (yielded ops a.tmps) = true) (hrun : (execOp a.eval o).run P w = .ok (.enter fn args) w) (hc : Calls P fn args w fun e w' => ∃ v, e = .returned v ∧ K (a.put d v) w') : wpOp P ops Q i K a w := by
  subst hd
  unfold wpOp
  simp only [hi, hw, if_true, Oper.wp, hrun, Oper.upon]
  refine .inl (Calls.mono hc fun e w' he => ?_)
  obtain ⟨v, rfl, h2⟩ := he
  exact h2
theorem any_two (i j : Nat) {fuel : Nat} {listed : Array Bool} {w : World} (hr : Region.ready md ops listed = [i, j])
    (h1 : wpOp P ops Q i (fun a' w' => S w' ∧ wpAnyH P md ops Q S fuel (listed.setIfInBounds i true) a' w') a w) (h2 : wpOp P ops Q j (fun a' w' => S w' ∧ wpAnyH P md ops Q S fuel (listed.setIfInBounds j true) a' w') a w) : wpAnyH P md ops Q S (fuel + 1) listed a w :=
  wpAnyH_all hr (by simp) (fun k hk => by
    have e : k = i ∨ k = j := by simpa using hk
    rcases e with rfl | rfl
    · exact h1
    · exact h2)
end
theorem wpList_valG {P : Program} {ops : Array Oper} {rest : List Oper} {op : Oper} {a : Act} {w : World} {Q : Exit → Act → World → Prop} (hw : Region.wanted op (yielded ops a.tmps) = true) (v : Value) (hr : (execOp a.eval op).run P w = .ok (.value v) w)
    (h : wpList P ops Q rest (a.put op.dst v) w) : wpList P ops Q (op :: rest) a w := wpList_execG hw v hr h
theorem wpList_skipG {P : Program} {ops : Array Oper} {rest : List Oper} {op : Oper} {a : Act} {w : World} {Q : Exit → Act → World → Prop} (hw : Region.wanted op (yielded ops a.tmps) = false) (h : wpList P ops Q rest (a.put op.dst undef) w) : wpList P ops Q (op :: rest) a w := by
  refine wpList_step fun K hK => ?_
  rw [hw]
  exact hK _ _ h
theorem wpList_callG {P : Program} {ops : Array Oper} {rest : List Oper} {op : Oper} {a : Act} {w : World} {Q : Exit → Act → World → Prop} (hw : Region.wanted op (yielded ops a.tmps) = true) (fn : FuncId) (args : Array Value) (hrun : (execOp a.eval op).run P w = .ok (.enter fn args) w) (hc : Calls P fn args w fun e w' => ∃ v, e = .returned v ∧ wpList P ops Q rest (a.put op.dst v) w') : wpList P ops Q (op :: rest) a w := by
  refine wpList_step fun K hK => ?_
  rw [if_pos hw]
  unfold Oper.wp
  simp only [hrun, Oper.upon]
  refine Calls.mono hc fun e w' he => ?_
  obtain ⟨v, rfl, h2⟩ := he
  exact hK _ _ h2
theorem wpList_isD {P : Program} {ops : Array Oper} {rest : List Oper} {op : Oper} {a : Act} {w : World} {Q : Exit → Act → World → Prop} (d : Nat) (o : Op) (hd : op.dst = some d) (ho : op.op = o) (h : wpList P ops Q (op :: rest) a w) : wpList P ops Q (op :: rest) a w := h
theorem range_keep {w w' : World} {row : Option Nat} {b o : Nat} {cs : List Value} (hg : w.grownBy w' row) (h : w.rangeAt b o cs) (hb : b < w.heap.size) (hne : some b ≠ row) : w'.rangeAt b o cs := by
  intro j v hv
  have := h j v hv
  simp only [World.cell?] at this ⊢
  rw [hg.block b hb hne]
  exact this
theorem grow_own {w w1 w2 : World} {x : Option Nat} (g : w.grownBy w1 none) (q : w1.grownBy w2 x) (hx : ∀ y, x = some y → w.heap.size ≤ y) : w.grownBy w2 none :=
  ⟨q.os.trans g.os, q.tape.trans g.tape, q.output.trans g.output, Nat.le_trans g.size q.size, fun i hi _ => (q.block i (by have := g.size; omega) (fun e => by have := hx i e.symm; omega)).trans (g.block i hi (by simp))⟩

set_option maxRecDepth 100000 in
theorem nan31 (x : Int) (w : World) : Calls Yba.prog 31 #[.int .u64 x] w fun e w' => e = .returned (.bool false) ∧ w = w' := by
  go_enter Yba.func31, Yba.ntmps31
  go_wp2_with fail
  refine bodyPost_ret (by kernel_rfl) rfl ⟨rfl, rfl⟩
set_option maxRecDepth 100000 in
theorem less21 (x y : Int) (w : World) : Calls Yba.prog 21 #[.int .u64 x, .int .u64 y] w fun e w' => e = .returned (.bool (decide (x < y))) ∧ w = w' := by
  go_enter Yba.func21, Yba.ntmps21
  go_wp2_with fail
  refine (nan31 x _).mono ?_
  rintro e u ⟨rfl, rfl⟩
  go_wp2_with fail
  refine bodyPost_ret (by kernel_rfl) rfl ⟨rfl, rfl⟩

end Go.Proofs.Ybulkdsqs
