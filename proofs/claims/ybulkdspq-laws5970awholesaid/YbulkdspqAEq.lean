/-
  LawS5970AWhole: two identifiers, two tidings compared.
-/
import Derived.Test.YbulkdspqAClone
import Derived.Maps.OwnSet
import Derived.DeepKeys4
namespace Go.Proofs.Ybulkdspq
open Go.RowKit
set_option linter.unusedSimpArgs false
set_option linter.unusedVariables false

theorem laid : laidOutB Yba.prog = true := by kernel_rfl
theorem row26 : (26 : TypeId) < Yba.prog.types.size := of_decide_eq_true (by kernel_rfl)
theorem law26 : WideMaps.KeyLaw Yba.prog 26 := deep_law_laid laid (m := 2) (by omega) row26 (by kernel_rfl) (by kernel_rfl)
theorem keyed26 : Maps.Keyed Yba.prog 26 := Maps.Keyed.of_law law26
theorem wf0 : (Lit.int .u8 0).wf = true := by decide

theorem key26 {b : Int} (hb : (Lit.int .u8 b).wf = true) : ∃ l, keyOf Yba.prog 26 (.agg (idc b).toArray) = some l := by
  obtain ⟨n, hn⟩ : ∃ n, Yba.prog.types.size + 1 = n + 2 := ⟨Yba.prog.types.size - 1, by have h : (26 : Nat) < Yba.prog.types.size := row26; omega⟩
  have ht : Yba.prog.keyType 26 = true := by kernel_rfl
  have hf : (Value.agg (idc b).toArray).formed Yba.prog 26 = true := by kernel_rfl
  have c26 : Yba.prog.cellsOf 26 = 20 := by kernel_rfl
  have c5 : Yba.prog.cellsOf 5 = 1 := by kernel_rfl
  have e1 : Yba.prog.keyLits (n + 1) 5 [.int .u8 b] = some [.int .u8 b] := by simp [Program.keyLits, Yba.underlying5, hb]
  have e0 : Yba.prog.keyLits (n + 1) 5 [.int .u8 0] = some [.int .u8 0] := by simp [Program.keyLits, Yba.underlying5, wf0]
  unfold keyOf
  simp only [Yba.underlying26, ht, hf, Bool.and_self, if_true, hn, Value.cells]
  unfold Program.keyLits
  have e : List.range 20 = [0, 1, 2, 3, 4, 5, 6, 7, 8, 9, 10, 11, 12, 13, 14, 15, 16, 17, 18, 19] := rfl
  simp [Yba.underlying26, c26, c5, idc_len, e]
  simp [idc, e0, e1]

theorem idc_inj {x y : Int} (h : Value.agg (idc x).toArray = Value.agg (idc y).toArray) : x = y := by
  have e : idc x = idc y := by simpa using h
  simp [idc] at e
  exact e

theorem eq26 {x y : Int} (hx : (Lit.int .u8 x).wf = true) (hy : (Lit.int .u8 y).wf = true) (w : World) : (Op.equal 26 (.agg (idc x).toArray) (.agg (idc y).toArray)).run Yba.prog w = .ok (decide (x = y)) w := by
  obtain ⟨l1, h1⟩ := key26 hx
  obtain ⟨l2, h2⟩ := key26 hy
  obtain ⟨r, hr, hi⟩ := run_equal_deep w (m := 2) (by omega) (by kernel_rfl) (by kernel_rfl) h1 h2
  suffices hh : r = decide (x = y) by rw [hr, hh]
  by_cases h : x = y
  · subst h
    rw [h1] at h2
    simpa using hi.2 (Option.some.inj h2)
  · cases r
    · simp [h]
    · exact absurd (idc_inj (keyed26.inj h1 (by rw [hi.1 rfl]; exact h2))) h

theorem in26 {x : Int} (hx : (Lit.int .u8 x).wf = true) (w : World) : (Op.equalIn 9999 26 (.agg (idc x).toArray) (.agg (idc x).toArray)).run Yba.prog w = .ok true w := by
  have h := run_equalIn_deep (P := Yba.prog) 9997 2 26 (by kernel_rfl)
  obtain ⟨l1, h1⟩ := key26 hx
  obtain ⟨xs, l, e, hl, _⟩ := keyOf_top (by kernel_rfl) h1
  cases e
  have hf : (Value.agg (idc x).toArray).formed Yba.prog 26 = true := by kernel_rfl
  obtain ⟨r, hr, hi⟩ := h w _ _ _ _ l l hf hf hl hl
  rw [hi.2 rfl] at hr
  exact hr

theorem eq45 (t : Tid) (hb : (Lit.int .u8 t.b).wf = true) (w : World) : (Op.equal 45 (.agg (tc t).toArray) (.agg (tc t).toArray)).run Yba.prog w = .ok true w := by
  have h0 : (part 26 (tc t).toArray 0).run Yba.prog w = .ok (.agg (idc t.b).toArray) w := by kernel_rfl
  have h1 : (part 3 (tc t).toArray 20).run Yba.prog w = .ok (.int .i64 t.n) w := by kernel_rfl
  have h2 : (part 4 (tc t).toArray 21).run Yba.prog w = .ok (.bool t.r) w := by kernel_rfl
  have h3 : (part 3 (tc t).toArray 22).run Yba.prog w = .ok (.int .i64 t.f) w := by kernel_rfl
  have e1 : (Op.equalIn 9999 3 (.int .i64 t.n) (.int .i64 t.n)).run Yba.prog w = .ok true w := by simpa using run_equalIn_int w 9998 3 .i64 _ t.n t.n Yba.underlying3
  have e3 : (Op.equalIn 9999 3 (.int .i64 t.f) (.int .i64 t.f)).run Yba.prog w = .ok true w := by simpa using run_equalIn_int w 9998 3 .i64 _ t.f t.f Yba.underlying3
  have e0 := in26 hb w
  have e2 : (Op.equalIn 9999 4 (.bool t.r) (.bool t.r)).run Yba.prog w = .ok true w := by cases t.r <;> kernel_rfl
  have hs := run_equalIn_struct (P := Yba.prog) w 9999 45 (tc t).toArray (tc t).toArray (by kernel_rfl) (by kernel_rfl)
  rw [Op.equal, Op.maxDepth, hs]
  simp only [Program.fieldsOf, Yba.underlying45]
  generalize (tc t).toArray = ds at *
  generalize Value.agg (idc t.b).toArray = v0 at *
  clear hs
  have s0 : ("ID" : String) ≠ "_" := by decide
  have s1 : ("Node" : String) ≠ "_" := by decide
  have s2 : ("Refused" : String) ≠ "_" := by decide
  have s3 : ("From" : String) ≠ "_" := by decide
  simp only [Op.eqFields, if_pos s0, if_pos s1, if_pos s2, if_pos s3]
  rw [Sem.run_bind, h0, Result.andThen_ok, Sem.run_bind, h0, Result.andThen_ok, Sem.run_bind, e0, Result.andThen_ok]
  simp only [Bool.not_true, Bool.false_eq_true, if_false]
  rw [Sem.run_bind, h1, Result.andThen_ok, Sem.run_bind, h1, Result.andThen_ok, Sem.run_bind, e1, Result.andThen_ok]
  simp only [Bool.not_true, Bool.false_eq_true, if_false]
  rw [Sem.run_bind, h2, Result.andThen_ok, Sem.run_bind, h2, Result.andThen_ok, Sem.run_bind, e2, Result.andThen_ok]
  simp only [Bool.not_true, Bool.false_eq_true, if_false]
  rw [Sem.run_bind, h3, Result.andThen_ok, Sem.run_bind, h3, Result.andThen_ok, Sem.run_bind, e3, Result.andThen_ok]
  simp only [Bool.not_true, Bool.false_eq_true, if_false, Sem.run_pure]

theorem exec_neq26 {a : Act} {o : Oper} {w : World} (x y : Operand) (ho : o.op = .binOp .neq 26 x y 26) {p q : Int} (hp : (Lit.int .u8 p).wf = true) (hq : (Lit.int .u8 q).wf = true) (hx : a.eval x = .agg (idc p).toArray) (hy : a.eval y = .agg (idc q).toArray) :
    (execOp a.eval o).run Yba.prog w = .ok (.value (.bool (!decide (p = q)))) w := by
  have hg : (eqGuard .neq 26 x y (.agg (idc p).toArray) (.agg (idc q).toArray)).run Yba.prog w = .ok () w := by
    have e : Yba.prog.eqGuardType Yba.prog.depth 26 = false := by kernel_rfl
    simp [eqGuard, e]
  unfold execOp
  simp only [ho, hx, hy, Sem.run_bind, hg, Result.andThen_ok]
  simp only [binOp]
  rw [Sem.run_bind, eq26 hp hq w, Result.andThen_ok, Sem.run_pure, Result.andThen_ok, Sem.run_pure]
theorem exec_neq45 {a : Act} {o : Oper} {w : World} (x y : Operand) (ho : o.op = .binOp .neq 45 x y 45) (t : Tid) (hb : (Lit.int .u8 t.b).wf = true) (hx : a.eval x = .agg (tc t).toArray) (hy : a.eval y = .agg (tc t).toArray) :
    (execOp a.eval o).run Yba.prog w = .ok (.value (.bool false)) w := by
  have hg : (eqGuard .neq 45 x y (.agg (tc t).toArray) (.agg (tc t).toArray)).run Yba.prog w = .ok () w := by
    have e : Yba.prog.eqGuardType Yba.prog.depth 45 = false := by kernel_rfl
    simp [eqGuard, e]
  unfold execOp
  simp only [ho, hx, hy, Sem.run_bind, hg, Result.andThen_ok]
  simp only [binOp]
  rw [Sem.run_bind, eq45 t hb w, Result.andThen_ok, Sem.run_pure, Result.andThen_ok, Sem.run_pure]
  rfl

end Go.Proofs.Ybulkdspq
