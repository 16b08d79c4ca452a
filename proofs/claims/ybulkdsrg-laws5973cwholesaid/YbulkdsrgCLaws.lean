/-
  LAWS that the walk of LawS5973CWhole wants: a whole block read and written as one value; the key and the datagram as lists of cells; the map by its keys.
-/
import Derived.Test.YbulkdsrgProg
import Derived.WalkKit
import Derived.WalkSpells
import Derived.LaidEqlPtr
import Derived.Below
import Derived.BigQuiet
import Derived.BigRegion
import Derived.Deep.QuietTactic
import Derived.Deep.LoopGhost
import Derived.Deep.OwnRows
import Derived.Deep.DeepCutAuto
import Derived.Deep.CutBlock
import Derived.Deep.MidRow
import Derived.Deep.RegionLaw
import Derived.Deep.RegionHeld3
import Derived.Maps.AppendAt
import Derived.DeepKeys4
import Derived.WalkSmall
namespace Go.Proofs.Ybulkdsrg
open Go.RowKit
set_option linter.unusedSimpArgs false
set_option linter.unusedVariables false

/-! ### A whole block as one value -/
section
variable {P : Program}

theorem range_of_blk {w : World} {b : Nat} {cs : List Value} {t : TypeId} (hb : w.heap[b]? = some (.cells cs.toArray t (0, 0))) : w.rangeAt b 0 cs := by
  intro j u h
  simp only [World.cell?, hb, Nat.zero_add]
  simpa using h

theorem blk_new (w : World) (cs : Array Value) (t : TypeId) (b : Nat) (e : b = w.heap.size) : (w.alloc (.cells cs t)).heap[b]? = some (.cells cs t (0, 0)) := by subst e; exact heap_alloc_new w _
theorem blk_alloc {w : World} {b : Nat} {o : Obj} (h : w.heap[b]? = some o) (o' : Obj) : (w.alloc o').heap[b]? = some o :=
  (Below.heap_alloc w o' b (Array.getElem?_eq_some_iff.1 h).1).trans h

theorem run_load_blk {w : World} {b : Nat} {cs : List Value} {t ty : TypeId} {d : TypeDesc} (hb : w.heap[b]? = some (.cells cs.toArray t (0, 0))) (hu : P.underlying ty = some d) (hd : d.isRow = true) (hi : (P.info? ty).map (·.size) = some cs.length) :
    (loadVar ty ⟨b, 0, none⟩).run P w = .ok (.agg cs.toArray) w := run_loadVar_mid w b 0 ty cs d (range_of_blk hb) hu hd hi

theorem wpList_load_blk {ops : Array Oper} {rest : List Oper} {op : Oper} {a : Act} {w : World} {Q : Exit → Act → World → Prop} (hgd : op.guard = none) (ty : TypeId) (x : Operand) (ho : op.op = .load ty x)
    (b : Nat) (hx : a.eval x = .pointer (some ⟨b, 0, none⟩)) (cs : List Value) (t : TypeId) (hb : w.heap[b]? = some (.cells cs.toArray t (0, 0))) (d : TypeDesc) (hu : P.underlying ty = some d) (hd : d.isRow = true) (hi : (P.info? ty).map (·.size) = some cs.length)
    (h : wpList P ops Q rest (a.put op.dst (.agg cs.toArray)) w) : wpList P ops Q (op :: rest) a w :=
  wpList_load_mid hgd ty x ho b 0 hx cs d (range_of_blk hb) hu hd hi h

theorem run_store_blk {w : World} {b : Nat} {cur : Array Value} {cs : List Value} {t ty : TypeId} (hb : w.heap[b]? = some (.cells cur t (0, 0))) (hs : cur.size = cs.length) (hi : (P.info? ty).map (·.size) = some cs.length) (h1 : ∀ v ∈ cs, v.oneCell' = true) :
    (storeVar ty ⟨b, 0, none⟩ (.agg cs.toArray)).run P w = .ok () (w.setRow b cs.toArray) := by
  have hst := run_storeCells_at P b 0 t cs 0 cur w hb (by omega) h1
  have e : cur.toList.drop cs.length = [] := List.drop_eq_nil_of_le (by simp; omega)
  cases hq : P.info? ty with
  | none => simp [hq] at hi
  | some i =>
    have hs' : i.size = cs.length := by simpa [hq] using hi
    simp [storeVar, sizeOf, typeInfo, hq, Value.cells, hs', hst, e]

theorem wpList_store_blk {ops : Array Oper} {rest : List Oper} {op : Oper} {a : Act} {w : World} {Q : Exit → Act → World → Prop} (hgd : op.guard = none) (ty : TypeId) (x y : Operand) (ho : op.op = .store ty x y)
    (b : Nat) (cs : List Value) (hx : a.eval x = .pointer (some ⟨b, 0, none⟩)) (hy : a.eval y = .agg cs.toArray) (cur : Array Value) (t : TypeId) (hb : w.heap[b]? = some (.cells cur t (0, 0))) (hs : cur.size = cs.length)
    (hi : (P.info? ty).map (·.size) = some cs.length) (h1 : ∀ v ∈ cs, v.oneCell' = true)
    (h : ∀ w', w'.heap[b]? = some (.cells cs.toArray t (0, 0)) → w.grownBy w' (some b) → wpList P ops Q rest (a.put op.dst undef) w') : wpList P ops Q (op :: rest) a w := by
  refine wpList_plain hgd fun K hK => ?_
  have hr := run_store_blk (P := P) hb hs hi h1
  unfold Oper.wp execOp
  simp only [ho, hx, hy, Instr.storeAt, Instr.sureAddr, Sem.run_bind, Sem.run_pure, Result.andThen_ok, hr]
  exact hK _ _ (h _ (setRow_heap _ _ _ _ _ _ hb) ⟨rfl, rfl, rfl, by simp [World.setRow], fun k _ hk => setRow_other _ _ _ _ (fun e => hk (by rw [e]))⟩)

end

theorem grown_trans {a b c : World} {row : Option Nat} (h : a.grownBy b row) (k : b.grownBy c row) : a.grownBy c row :=
  ⟨k.os.trans h.os, k.tape.trans h.tape, k.output.trans h.output, Nat.le_trans h.size k.size, fun i hi hne => (k.block i (Nat.lt_of_lt_of_le hi h.size) hne).trans (h.block i hi hne)⟩

/-! ### The cells -/
/-- The cells of a [16]byte. -/
def sc (s : Nat → Int) : List Value := [.int .u8 (s 0), .int .u8 (s 1), .int .u8 (s 2), .int .u8 (s 3), .int .u8 (s 4), .int .u8 (s 5), .int .u8 (s 6), .int .u8 (s 7), .int .u8 (s 8), .int .u8 (s 9), .int .u8 (s 10), .int .u8 (s 11), .int .u8 (s 12), .int .u8 (s 13), .int .u8 (s 14), .int .u8 (s 15)]

/-- What all keys of the law share. -/
structure Ky where
  s : Nat → Int
  d : Nat → Int
  pr : Int
  v : Bool

/-- The cells of a datagramKey. -/
def kc (k : Ky) (x : Int) : List Value := sc k.s ++ (sc k.d ++ [.int .u32 x, .int .u8 k.pr, .bool k.v])

theorem sc_len (s : Nat → Int) : (sc s).length = 16 := rfl
theorem kc_len (k : Ky) (x : Int) : (kc k x).length = 35 := rfl
theorem sc_one (s : Nat → Int) : ∀ v ∈ sc s, v.oneCell' = true := by intro v hv; simp [sc] at hv; rcases hv with rfl | rfl | rfl | rfl | rfl | rfl | rfl | rfl | rfl | rfl | rfl | rfl | rfl | rfl | rfl | rfl <;> rfl
theorem kc_one (k : Ky) (x : Int) : ∀ v ∈ kc k x, v.oneCell' = true := by
  intro v hv
  simp only [kc, List.mem_append, List.mem_cons, List.not_mem_nil, or_false] at hv
  rcases hv with h | h | rfl | rfl | rfl
  · exact sc_one _ v h
  · exact sc_one _ v h
  all_goals rfl
theorem kc_inj {k : Ky} {x y : Int} (h : Value.agg (kc k x).toArray = Value.agg (kc k y).toArray) : x = y := by
  have e : kc k x = kc k y := by simpa using h
  simp only [kc, List.append_cancel_left_eq, List.cons.injEq, Value.int.injEq, true_and] at e
  exact e.1

theorem build34 (k : Ky) (x : Int) (w : World) : (Instr.build 34 #[(0, .agg (sc k.s).toArray), (1, .agg (sc k.d).toArray), (2, .int .u32 x), (3, .int .u8 k.pr), (4, .bool k.v)]).run Yba.prog w = .ok (.agg (kc k x).toArray) w := by kernel_rfl

theorem wpList_build34 {ops : Array Oper} {rest : List Oper} {op : Oper} {a : Act} {w : World} {Q : Exit → Act → World → Prop} (hgd : op.guard = none) (x0 x1 x2 x3 x4 : Operand) (ho : op.op = .build 34 #[(0, x0), (1, x1), (2, x2), (3, x3), (4, x4)])
    (k : Ky) (x : Int) (e0 : a.eval x0 = .agg (sc k.s).toArray) (e1 : a.eval x1 = .agg (sc k.d).toArray) (e2 : a.eval x2 = .int .u32 x) (e3 : a.eval x3 = .int .u8 k.pr) (e4 : a.eval x4 = .bool k.v)
    (h : wpList Yba.prog ops Q rest (a.put op.dst (.agg (kc k x).toArray)) w) : wpList Yba.prog ops Q (op :: rest) a w := by
  refine wpList_plain hgd fun K hK => ?_
  unfold Oper.wp execOp
  simp only [ho, List.map_toArray, List.map_cons, List.map_nil, e0, e1, e2, e3, e4, Sem.run_bind, build34, Result.andThen_ok, Sem.run_pure]
  exact hK _ _ h

theorem size23 (s : Nat → Int) : (Yba.prog.info? 23).map (·.size) = some (sc s).length := by kernel_rfl
theorem size34 (k : Ky) (x : Int) : (Yba.prog.info? 34).map (·.size) = some (kc k x).length := by kernel_rfl

set_option maxHeartbeats 400000 in
theorem key_any (k : Ky) (x : Int) (w : World) :
    Calls Yba.prog 5 #[.agg (sc k.s).toArray, .agg (sc k.d).toArray, .int .u32 x, .int .u8 k.pr, .bool k.v] w fun e w' => e = .returned (.agg (kc k x).toArray) ∧ w.grownBy w' none := by
  go_enter Yba.func5, Yba.ntmps5
  go_upto_region 1 with fail
  go_wp2_with (first
    | (refine wpList_load_blk rfl 23 (.tmp 5) rfl _ rfl (sc k.s) 23 (blk_alloc (blk_alloc (blk_new _ _ _ _ (by simp)) _) _) _ Yba.underlying23 rfl (size23 _) ?_)
    | (refine wpList_load_blk rfl 23 (.tmp 6) rfl _ rfl (sc k.d) 23 (blk_alloc (blk_new _ _ _ _ (by simp)) _) _ Yba.underlying23 rfl (size23 _) ?_)
    | (refine wpList_build34 rfl _ _ _ _ _ rfl k x rfl rfl rfl rfl rfl ?_)
    | (refine wpList_store_blk rfl 34 (.tmp 10) (.tmp 16) rfl (w.heap.size + 1 + 1) (kc k x) rfl rfl _ _ (blk_new _ _ _ _ (by simp)) rfl (size34 _ _) (kc_one _ _) ?_; intro w1 hb1 hg1))
  refine bodyPost_ret (v := .agg (kc k x).toArray) ?_ rfl ⟨rfl, ?_⟩
  · have hld := run_load_blk (P := Yba.prog) hb1 Yba.underlying34 rfl (size34 k x)
    simp only [results, Yba.results5]
    simp [asAddr, Result.andThen, Act.put, hld]
  · refine grown_trans (b := w.alloc (.cells (sc k.s).toArray 23)) (World.grownBy_alloc _ _ none) (grown_trans (b := (w.alloc (.cells (sc k.s).toArray 23)).alloc (.cells (sc k.d).toArray 23)) (World.grownBy_alloc _ _ none) ?_)
    exact ⟨hg1.os, hg1.tape, hg1.output, Nat.le_trans (by simp) hg1.size, fun q hq _ => (hg1.block q (by simp at hq ⊢; omega) (by simp at hq ⊢; omega)).trans (Below.heap_alloc _ _ _ hq)⟩

end Go.Proofs.Ybulkdsrg
