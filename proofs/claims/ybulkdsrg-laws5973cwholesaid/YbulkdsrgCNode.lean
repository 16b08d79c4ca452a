/-
  LawS5973CWhole: one cell of a block read and written; the datagram's cells; equality of keys and of datagrams; the state of the fragments' list.
-/
import Derived.Test.YbulkdsrgCMap
namespace Go.Proofs.Ybulkdsrg
open Go.RowKit
set_option linter.unusedSimpArgs false
set_option linter.unusedVariables false

section
variable {P : Program}

theorem run_load_cell {w : World} {b i : Nat} {cs : List Value} {t ty : TypeId} {d : TypeDesc} {v : Value} (hb : w.heap[b]? = some (.cells cs.toArray t (0, 0))) (hu : P.underlying ty = some d) (hd : d.isRow = false) (hv : cs[i]? = some v) :
    (loadVar ty ⟨b, i, none⟩).run P w = .ok v w := by
  have hc : w.cell? ⟨b, i, none⟩ = some v := by
    simp only [World.cell?, hb]
    simpa using hv
  have hagg : (isAgg ty).run P w = .ok false w := by
    unfold isAgg
    rw [Sem.run_bind, run_underlying hu w]
    cases d <;> simp_all
  simp [loadVar, hagg, hc]

theorem wpList_load_cell {ops : Array Oper} {rest : List Oper} {op : Oper} {a : Act} {w : World} {Q : Exit → Act → World → Prop} (hgd : op.guard = none) (ty : TypeId) (x : Operand) (ho : op.op = .load ty x)
    (b i : Nat) (hx : a.eval x = .pointer (some ⟨b, i, none⟩)) (cs : List Value) (t : TypeId) (hb : w.heap[b]? = some (.cells cs.toArray t (0, 0))) (d : TypeDesc) (hu : P.underlying ty = some d) (hd : d.isRow = false) (v : Value) (hv : cs[i]? = some v)
    (h : wpList P ops Q rest (a.put op.dst v) w) : wpList P ops Q (op :: rest) a w := by
  refine wpList_plain hgd fun K hK => ?_
  unfold Oper.wp execOp
  simp only [ho, hx, Instr.loadAt, Instr.sureAddr, Sem.run_bind, Sem.run_pure, Result.andThen_ok, run_load_cell hb hu hd hv]
  exact hK _ _ h

theorem run_store_cell {w : World} {b i : Nat} {cs : List Value} {t ty : TypeId} {v : Value} (hb : w.heap[b]? = some (.cells cs.toArray t (0, 0))) (hi : (P.info? ty).map (·.size) = some 1) (hl : i < cs.length) (h1 : v.oneCell' = true) :
    (storeVar ty ⟨b, i, none⟩ v).run P w = .ok () (w.setRow b (cs.set i v).toArray) := by
  have hst := run_storeCells_at P b i t [v] 0 cs.toArray w hb (by simp; omega) (by simpa using h1)
  have hc : v.cells = #[v] := by cases v <;> first | rfl | (simp [Value.oneCell'] at h1)
  cases hq : P.info? ty with
  | none => simp [hq] at hi
  | some j =>
    have hs' : j.size = 1 := by simpa [hq] using hi
    have e : cs.take i ++ v :: cs.drop (i + 1) = cs.set i v := (List.set_eq_take_append_cons_drop).symm ▸ by simp [hl]
    simp [storeVar, sizeOf, typeInfo, hq, hc, hs', hst, e]

theorem wpList_store_cell {ops : Array Oper} {rest : List Oper} {op : Oper} {a : Act} {w : World} {Q : Exit → Act → World → Prop} (hgd : op.guard = none) (ty : TypeId) (x y : Operand) (ho : op.op = .store ty x y)
    (b i : Nat) (v : Value) (hx : a.eval x = .pointer (some ⟨b, i, none⟩)) (hy : a.eval y = v) (cs : List Value) (t : TypeId) (hb : w.heap[b]? = some (.cells cs.toArray t (0, 0))) (hi : (P.info? ty).map (·.size) = some 1) (hl : i < cs.length) (h1 : v.oneCell' = true)
    (cs' : List Value) (hc : cs.set i v = cs')
    (h : ∀ w', w'.heap[b]? = some (.cells cs'.toArray t (0, 0)) → w.grownBy w' (some b) → wpList P ops Q rest (a.put op.dst undef) w') : wpList P ops Q (op :: rest) a w := by
  subst hc
  refine wpList_plain hgd fun K hK => ?_
  have hr := run_store_cell (P := P) hb hi hl h1
  unfold Oper.wp execOp
  simp only [ho, hx, hy, Instr.storeAt, Instr.sureAddr, Sem.run_bind, Sem.run_pure, Result.andThen_ok, hr]
  exact hK _ _ (h _ (setRow_heap _ _ _ _ _ _ hb) ⟨rfl, rfl, rfl, by simp [World.setRow], fun k _ hk => setRow_other _ _ _ _ (fun e => hk (by rw [e]))⟩)

theorem keep_blk {w w' : World} {row : Option Nat} {q : Nat} {o : Obj} (hg : w.grownBy w' row) (h : w.heap[q]? = some o) (hne : some q ≠ row) : w'.heap[q]? = some o :=
  (hg.block q (Array.getElem?_eq_some_iff.1 h).1 hne).trans h

end

/-! ### The datagram -/
def z48 : List Value := [.int .i64 0, .int .u64 0, .int .u64 0, .pointer none, .int .u64 0, .int .u64 0, .pointer none, .int .u8 0, .bool false, .int .u16 0, .int .u16 0, .int .u8 0, .int .u32 0, .int .u8 0, .int .u16 0, .int .u16 0, .int .u8 0, .int .u16 0, .int .u32 0, .int .u32 0, .int .u32 0, .bool false, .int .u8 0, .bool false, .int .i64 0, .int .i64 0, .int .i64 0, .int .i64 0, .int .u32 0, .int .u32 0, .int .u32 0, .int .u32 0, .int .u32 0, .int .u32 0, .int .u32 0, .int .u32 0, .int .u32 0, .int .u32 0, .int .u32 0, .int .u32 0, .int .u32 0, .int .u32 0, .int .u32 0, .int .u32 0, .int .u8 0, .int .u32 0, .bool false, .bool false]
/-- The cells of a datagram: its key, the time it came, its elder and its newer neighbour. -/
def dc (k : Ky) (x t : Int) (p q : Option Nat) : List Value := kc k x ++ (z48 ++ [.int .i64 t, vp p, vp q])
/-- The cells of the fragments' record. -/
def fc (m : Option Nat) (o n : Option Nat) : List Value := [.map m, vp o, vp n]

theorem vp_one (o : Option Nat) : (vp o).oneCell' = true := by cases o <;> rfl
theorem dc_len (k : Ky) (x t : Int) (p q : Option Nat) : (dc k x t p q).length = 86 := rfl
theorem dc_one (k : Ky) (x t : Int) (p q : Option Nat) : ∀ v ∈ dc k x t p q, v.oneCell' = true := by
  intro v hv
  simp only [dc, List.mem_append, List.mem_cons, List.not_mem_nil, or_false] at hv
  rcases hv with h | h | rfl | rfl | rfl
  · exact kc_one _ _ v h
  · exact (by decide : ∀ v ∈ z48, v.oneCell' = true) v h
  · rfl
  all_goals exact vp_one _
theorem dc84 (k : Ky) (x t : Int) (p q : Option Nat) : (dc k x t p q)[84]? = some (vp p) := rfl
theorem dc85 (k : Ky) (x t : Int) (p q : Option Nat) : (dc k x t p q)[85]? = some (vp q) := rfl
theorem dcs84 (k : Ky) (x t : Int) (p q r : Option Nat) : (dc k x t p q).set 84 (vp r) = dc k x t r q := rfl
theorem dcs85 (k : Ky) (x t : Int) (p q r : Option Nat) : (dc k x t p q).set 85 (vp r) = dc k x t p r := rfl
theorem size60 (k : Ky) (x t : Int) (p q : Option Nat) : (Yba.prog.info? 60).map (·.size) = some (dc k x t p q).length := by kernel_rfl
theorem size27 : (Yba.prog.info? 27).map (·.size) = some 1 := by kernel_rfl
theorem size26 : (Yba.prog.info? 26).map (·.size) = some 1 := by kernel_rfl

theorem build60 (k : Ky) (x t : Int) (p : Option Nat) (w : World) : (Instr.build 60 #[(0, .agg (kc k x).toArray), (9, .int .i64 t), (10, vp p)]).run Yba.prog w = .ok (.agg (dc k x t p none).toArray) w := by
  cases p <;> kernel_rfl

/-! ### Equality -/
theorem eq34 (k : Ky) (hk : k.Wf) {x y : Int} (hx : (Lit.int .u32 x).wf = true) (hy : (Lit.int .u32 y).wf = true) (w : World) : (Op.equal 34 (.agg (kc k x).toArray) (.agg (kc k y).toArray)).run Yba.prog w = .ok (decide (x = y)) w := by
  obtain ⟨r, hr, hi⟩ := run_equal_deep w (m := 3) (by omega) (by kernel_rfl) wide34 (kl_key hk hx) (kl_key hk hy)
  rw [hr]
  congr 1
  by_cases h : x = y
  · subst h; simpa using hi
  · have := kl_ne hk hx hy h
    cases r
    · simp [h]
    · exact absurd (hi.1 rfl) this

theorem in34 (k : Ky) (hk : k.Wf) {x : Int} (hx : (Lit.int .u32 x).wf = true) (w : World) : (Op.equalIn 9999 34 (.agg (kc k x).toArray) (.agg (kc k x).toArray)).run Yba.prog w = .ok true w := by
  have h := run_equalIn_deep (P := Yba.prog) 9996 3 34 (by kernel_rfl)
  obtain ⟨xs, l, e, hl, _⟩ := keyOf_top wide34 (kl_key hk hx)
  cases e
  have hf : (Value.agg (kc k x).toArray).formed Yba.prog 34 = true := by kernel_rfl
  obtain ⟨r, hr, hi⟩ := h w _ _ _ _ l l hf hf hl hl
  rw [hi.2 rfl] at hr
  exact hr

theorem in27 (d : Nat) (o : Option Nat) (w : World) : (Op.equalIn (d + 1) 27 (vp o) (vp o)).run Yba.prog w = .ok true w := by
  obtain ⟨j, hj⟩ : ∃ j, Yba.prog.info? 60 = some j := ⟨_, (by kernel_rfl : Yba.prog.info? 60 = some ((Yba.prog.info? 60).get (by kernel_rfl)))⟩
  cases o with
  | none => simp [Op.equalIn, vp, run_underlying Yba.underlying27]
  | some b => simp [Op.equalIn, vp, run_underlying Yba.underlying27, sizeOf, typeInfo, hj, run_sameAddr_same]

theorem eq60 (k : Ky) (hk : k.Wf) {x : Int} (hx : (Lit.int .u32 x).wf = true) (t : Int) (p q : Option Nat) (w : World) : (Op.equal 60 (.agg (dc k x t p q).toArray) (.agg (dc k x t p q).toArray)).run Yba.prog w = .ok true w := by
  have h0 : (part 34 (dc k x t p q).toArray 0).run Yba.prog w = .ok (.agg (kc k x).toArray) w := by kernel_rfl
  have h1 : (part 53 (dc k x t p q).toArray 35).run Yba.prog w = .ok (.agg (z48.take 23).toArray) w := by kernel_rfl
  have h2 : (part 4 (dc k x t p q).toArray 58).run Yba.prog w = .ok (.bool false) w := by kernel_rfl
  have h3 : (part 55 (dc k x t p q).toArray 59).run Yba.prog w = .ok (.agg ((z48.drop 24).take 4).toArray) w := by kernel_rfl
  have h4 : (part 58 (dc k x t p q).toArray 63).run Yba.prog w = .ok (.agg ((z48.drop 28).take 16).toArray) w := by kernel_rfl
  have h5 : (part 5 (dc k x t p q).toArray 79).run Yba.prog w = .ok (.int .u8 0) w := by kernel_rfl
  have h6 : (part 24 (dc k x t p q).toArray 80).run Yba.prog w = .ok (.int .u32 0) w := by kernel_rfl
  have h7 : (part 4 (dc k x t p q).toArray 81).run Yba.prog w = .ok (.bool false) w := by kernel_rfl
  have h8 : (part 4 (dc k x t p q).toArray 82).run Yba.prog w = .ok (.bool false) w := by kernel_rfl
  have h9 : (part 2 (dc k x t p q).toArray 83).run Yba.prog w = .ok (.int .i64 t) w := by kernel_rfl
  have h10 : (part 27 (dc k x t p q).toArray 84).run Yba.prog w = .ok (vp p) w := by kernel_rfl
  have h11 : (part 27 (dc k x t p q).toArray 85).run Yba.prog w = .ok (vp q) w := by kernel_rfl
  have e1 : (Op.equalIn 9999 53 (.agg (z48.take 23).toArray) (.agg (z48.take 23).toArray)).run Yba.prog w = .ok true w := by kernel_rfl
  have e2 : (Op.equalIn 9999 4 (.bool false) (.bool false)).run Yba.prog w = .ok true w := by kernel_rfl
  have e3 : (Op.equalIn 9999 55 (.agg ((z48.drop 24).take 4).toArray) (.agg ((z48.drop 24).take 4).toArray)).run Yba.prog w = .ok true w := by kernel_rfl
  have e4 : (Op.equalIn 9999 58 (.agg ((z48.drop 28).take 16).toArray) (.agg ((z48.drop 28).take 16).toArray)).run Yba.prog w = .ok true w := by kernel_rfl
  have e5 : (Op.equalIn 9999 5 (.int .u8 0) (.int .u8 0)).run Yba.prog w = .ok true w := by kernel_rfl
  have e6 : (Op.equalIn 9999 24 (.int .u32 0) (.int .u32 0)).run Yba.prog w = .ok true w := by kernel_rfl
  have e9 : (Op.equalIn 9999 2 (.int .i64 t) (.int .i64 t)).run Yba.prog w = .ok true w := by simpa using run_equalIn_int w 9998 2 .i64 _ t t Yba.underlying2
  have hs := run_equalIn_struct (P := Yba.prog) w 9999 60 (dc k x t p q).toArray (dc k x t p q).toArray (by kernel_rfl) (by kernel_rfl)
  rw [Op.equal, Op.maxDepth, hs]
  simp only [Program.fieldsOf, Yba.underlying60]
  generalize (dc k x t p q).toArray = ds at *
  generalize Value.agg (z48.take 23).toArray = v1 at *
  generalize Value.agg ((z48.drop 24).take 4).toArray = v3 at *
  generalize Value.agg ((z48.drop 28).take 16).toArray = v4 at *
  simp [Op.eqFields, h0, h1, h2, h3, h4, h5, h6, h7, h8, h9, h10, h11, e1, e2, e3, e4, e5, e6, e9, in34 k hk hx w, in27 9998 p w, in27 9998 q w]

end Go.Proofs.Ybulkdsrg
