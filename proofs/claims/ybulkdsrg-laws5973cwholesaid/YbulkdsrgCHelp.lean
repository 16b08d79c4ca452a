/-
  LawS5973CWhole: what the walk of the law itself wants: the map read, a call inside a drawn region, the rows of nodes and of values.
-/
import Derived.Test.YbulkdsrgCRem
import Derived.Laws.OwnMore
import Derived.Deep.Onto
namespace Go.Proofs.Ybulkdsrg
open Go.RowKit
set_option linter.unusedSimpArgs false
set_option linter.unusedVariables false

/-! ### The map read -/
open Classical in
/-- What the map has under the key with number x (nil where it has nothing). -/
noncomputable def gt (D : DataW Unit) (k : Ky) (x : Int) : Option Nat := if h : ∃ o, D.atKey (kl k x) (vd none) = vd o then h.choose else none
theorem gt_eq {D : DataW Unit} {k : Ky} {x : Int} {o : Option Nat} (h : D.atKey (kl k x) (vd none) = vd o) : gt D k x = o := by
  have hh : ∃ o, D.atKey (kl k x) (vd none) = vd o := ⟨o, h⟩
  unfold gt
  rw [dif_pos hh]
  exact vd_inj (hh.choose_spec.symm.trans h)

theorem zero27 (w : World) : (zeroValue 27).run Yba.prog w = .ok (vp none) w := by kernel_rfl

theorem St.look {w : World} {k : Ky} {lo hi f : Nat} {L : List Nd} {m : Option Nat} {D : DataW Unit} {n : Nat} (h : St w k lo hi f L m D n) (hk : k.Wf) {x : Int} (hx : (Lit.int .u32 x).wf = true) :
    (Instr.lookup 26 (.map m) (.agg (kc k x).toArray) true).run Yba.prog w = .ok (.tuple #[vp (gt D k x), .bool (Maps.has D (kl k x))]) w ∧ (Instr.lookup 26 (.map m) (.agg (kc k x).toArray) false).run Yba.prog w = .ok (vp (gt D k x)) w := by
  rcases h.map with ⟨rfl, _, rfl⟩ | ⟨mb, rfl, _, _, ho⟩
  · have h1 := Maps.look_nil (w := w) true keyed Yba.underlying26 (zero27 w) (kl_key hk hx)
    have h2 := Maps.look_nil (w := w) false keyed Yba.underlying26 (zero27 w) (kl_key hk hx)
    have e : gt (.map [] : DataW Unit) k x = none := gt_eq (by rfl)
    rw [e]
    exact ⟨h1, h2⟩
  · obtain ⟨v1, p1, h1, r1⟩ := ho.look_ok keyed Yba.underlying26 (zero27 w) (Re_vp none) (kl_key hk hx)
    obtain ⟨v2, p2, h2, r2⟩ := ho.lookup keyed Yba.underlying26 (zero27 w) (Re_vp none) (kl_key hk hx)
    obtain ⟨o1, rfl, e1⟩ := Re_inv r1
    obtain ⟨o2, rfl, e2⟩ := Re_inv r2
    rw [gt_eq e1] at *
    have : o1 = o2 := vd_inj (e1.symm.trans e2)
    subst this
    exact ⟨h1, h2⟩

theorem St.isMap {w : World} {k : Ky} {lo hi f : Nat} {L : List Nd} {m : Option Nat} {D : DataW Unit} {n : Nat} (h : St w k lo hi f L m D n) : Maps.IsMap D := by
  rcases h.map with ⟨rfl, _, rfl⟩ | ⟨mb, rfl, _, _, ho⟩
  · exact Maps.isMap_empty
  · exact ho.isMap
theorem St.tidy {w : World} {k : Ky} {lo hi f : Nat} {L : List Nd} {m : Option Nat} {D : DataW Unit} {n : Nat} (h : St w k lo hi f L m D n) : Maps.Tidy D := by
  rcases h.map with ⟨rfl, _, rfl⟩ | ⟨mb, rfl, _, _, ho⟩
  · exact Maps.tidy_empty
  · exact ho.tidy keyed
theorem isKey {k : Ky} (hk : k.Wf) {x : Int} (hx : (Lit.int .u32 x).wf = true) : WideAt.IsKeyLit (kl k x) := keyed.key (kl_key hk hx)
theorem St.len {w : World} {k : Ky} {lo hi f : Nat} {L : List Nd} {m : Option Nat} {D : DataW Unit} {n : Nat} (h : St w k lo hi f L m D n) (ty : TypeId) : (Builtin.len_ #[26] ty #[.map m]).run Yba.prog w = .ok (.int .i64 (Maps.size D)) w := by
  rcases h.map with ⟨rfl, _, rfl⟩ | ⟨mb, rfl, _, _, ho⟩
  · exact Maps.len_nil Yba.underlying26 ty
  · exact ho.len Yba.underlying26 ty
theorem St.size_le {w : World} {k : Ky} {lo hi f : Nat} {L : List Nd} {m : Option Nat} {D : DataW Unit} {n : Nat} (h : St w k lo hi f L m D n) : Maps.size D ≤ n := by
  rcases h.map with ⟨rfl, _, rfl⟩ | ⟨mb, rfl, _, _, ho⟩
  · exact Nat.zero_le _
  · exact ho.size_le

theorem gt_put_same {D : DataW Unit} (hD : Maps.IsMap D) {k : Ky} (hk : k.Wf) {x : Int} (hx : (Lit.int .u32 x).wf = true) (o : Option Nat) : gt (D.put (kl k x) (vd o)) k x = o := gt_eq (Maps.atKey_put_same hD (isKey hk hx) _ _)
theorem gt_put_other {D : DataW Unit} {k : Ky} (hk : k.Wf) {x y : Int} (hx : (Lit.int .u32 x).wf = true) (hy : (Lit.int .u32 y).wf = true) (h : y ≠ x) (d : DataW Unit) : gt (D.put (kl k x) d) k y = gt D k y := by
  unfold gt
  rw [Maps.atKey_put_other (kl_ne hk hy hx h)]

/-! ### Pointers compared -/
theorem eqVV (o : Option Nat) (w : World) : (binOp .eql 27 (vp o) (vp o)).run Yba.prog w = .ok (.bool true) w := by
  have h := in27 9999 o w
  cases o <;> simp only [vp] at h ⊢ <;> simp only [binOp] <;> simp [Op.equal, Op.maxDepth, h]
theorem neVV (o : Option Nat) (w : World) : (binOp .neq 27 (vp o) (vp o)).run Yba.prog w = .ok (.bool false) w := by
  have h := in27 9999 o w
  cases o <;> simp only [vp] at h ⊢ <;> simp only [binOp] <;> simp [Op.equal, Op.maxDepth, h]
theorem eqPP (b : Nat) (w : World) : (binOp .eql 27 (.pointer (some ⟨b, 0, none⟩)) (.pointer (some ⟨b, 0, none⟩))).run Yba.prog w = .ok (.bool true) w := eqVV (some b) w
theorem nePP (b : Nat) (w : World) : (binOp .neq 27 (.pointer (some ⟨b, 0, none⟩)) (.pointer (some ⟨b, 0, none⟩))).run Yba.prog w = .ok (.bool false) w := neVV (some b) w
theorem guardVV (op : BinOp) (x y : Operand) (o : Option Nat) (w : World) : (eqGuard op 27 x y (vp o) (vp o)).run Yba.prog w = .ok () w := by
  cases o <;> simp [eqGuard, vp]
theorem eq27 (o : Option Nat) (w : World) : (binOp .eql 27 (vp o) (.pointer none)).run Yba.prog w = .ok (.bool o.isNone) w := by
  simp only [binOp]
  have h : ∀ d : Nat, (Op.equalIn (d + 1) 27 (vp o) (.pointer none)).run Yba.prog w = .ok o.isNone w := fun d => by cases o <;> simp [Op.equalIn, vp, run_underlying Yba.underlying27]
  cases o <;> simp [Op.equal, Op.maxDepth, h 9999]

/-! ### Keys and datagrams compared -/
theorem exec_eql34 {a : Act} {o : Oper} {w : World} (x y : Operand) (ho : o.op = .binOp .eql 34 x y 34) {k : Ky} (hk : k.Wf) {p q : Int} (hp : (Lit.int .u32 p).wf = true) (hq : (Lit.int .u32 q).wf = true) (hx : a.eval x = .agg (kc k p).toArray) (hy : a.eval y = .agg (kc k q).toArray) :
    (execOp a.eval o).run Yba.prog w = .ok (.value (.bool (decide (p = q)))) w := by
  have hg : (eqGuard .eql 34 x y (.agg (kc k p).toArray) (.agg (kc k q).toArray)).run Yba.prog w = .ok () w := by
    have e : Yba.prog.eqGuardType Yba.prog.depth 34 = false := by kernel_rfl
    simp [eqGuard, e]
  unfold execOp
  simp only [ho, hx, hy, Sem.run_bind, hg, Result.andThen_ok]
  simp only [binOp]
  simp [eq34 k hk hp hq w, Result.andThen]
theorem exec_neq60 {a : Act} {o : Oper} {w : World} (x y : Operand) (ho : o.op = .binOp .neq 60 x y 60) {k : Ky} (hk : k.Wf) {z : Int} (hz : (Lit.int .u32 z).wf = true) (t : Int) (p q : Option Nat) (hx : a.eval x = .agg (dc k z t p q).toArray) (hy : a.eval y = .agg (dc k z t p q).toArray) :
    (execOp a.eval o).run Yba.prog w = .ok (.value (.bool false)) w := by
  have hg : (eqGuard .neq 60 x y (.agg (dc k z t p q).toArray) (.agg (dc k z t p q).toArray)).run Yba.prog w = .ok () w := by
    have e : Yba.prog.eqGuardType Yba.prog.depth 60 = false := by kernel_rfl
    simp [eqGuard, e]
  unfold execOp
  simp only [ho, hx, hy, Sem.run_bind, hg, Result.andThen_ok]
  simp only [binOp]
  simp [eq60 k hk hz t p q w, Result.andThen]
theorem wpList_exec {P : Program} {ops : Array Oper} {rest : List Oper} {op : Oper} {a : Act} {w w' : World} {Q : Exit → Act → World → Prop} (hgd : op.guard = none) (v : Value) (hr : (execOp a.eval op).run P w = .ok (.value v) w')
    (h : wpList P ops Q rest (a.put op.dst v) w') : wpList P ops Q (op :: rest) a w := by
  refine wpList_plain hgd fun K hK => ?_
  unfold Oper.wp
  simp only [hr, Oper.upon]
  exact hK _ _ h
theorem exec_build60 {a : Act} {op : Oper} {w : World} (x0 x1 x2 : Operand) (ho : op.op = .build 60 #[(0, x0), (9, x1), (10, x2)]) (k : Ky) (x t : Int) (p : Option Nat)
    (e0 : a.eval x0 = .agg (kc k x).toArray) (e1 : a.eval x1 = .int .i64 t) (e2 : a.eval x2 = vp p) : (execOp a.eval op).run Yba.prog w = .ok (.value (.agg (dc k x t p none).toArray)) w := by
  unfold execOp
  simp only [ho, List.map_toArray, List.map_cons, List.map_nil, e0, e1, e2, Sem.run_bind, build60, Result.andThen_ok, Sem.run_pure]

/-! ### A call inside a drawn region -/
section
variable {P : Program} {ops : Array Oper} {S : World → Prop} {a : Act} {md : Region.Mode} {Q : Exit → Act → World → Prop}
theorem any_call (i : Nat) (d : Option Tmp) (fn : FuncId) (args : Array Value) {fuel : Nat} {o : Oper} {listed : Array Bool} {w : World} (hi : ops[i]? = some o) (hd : o.dst = d) (hr : Region.ready md ops listed = [i]) (hw : Region.wanted o (yielded ops a.tmps) = true)
    (hrun : (execOp a.eval o).run P w = .ok (.enter fn args) w) (hc : Calls P fn args w fun e w' => ∃ v, e = .returned v ∧ S w' ∧ wpAnyH P md ops Q S fuel (listed.setIfInBounds i true) (a.put d v) w') : wpAnyH P md ops Q S (fuel + 1) listed a w := by
  subst hd
  exact wpAnyH_all hr (by simp) (fun j hj => by
    have e : j = i := by simpa using hj
    subst e
    unfold wpOp
    simp only [hi, hw, if_true, Oper.wp, hrun, Oper.upon]
    refine .inl (Calls.mono hc fun e w' he => ?_)
    obtain ⟨v, rfl, h1, h2⟩ := he
    exact ⟨h1, h2⟩)
end

/-! ### The rows of nodes and of values -/
/-- The cells of the node i. -/
def dAt (k : Ky) (L : List Nd) (i : Nat) : List Value := match L[i]? with | some nd => dc k nd.x nd.t (pv L i) (nx L i) | none => []
def dRow (k : Ky) (L : List Nd) : Nat → List Value
  | 0 => []
  | j + 1 => dRow k L j ++ dAt k L j
def nRow (L : List Nd) : Nat → List Value
  | 0 => []
  | j + 1 => nRow L j ++ [vp ((L[j]?).map (·.b))]
theorem dAt_some {k : Ky} {L : List Nd} {i : Nat} {nd : Nd} (h : L[i]? = some nd) : dAt k L i = dc k nd.x nd.t (pv L i) (nx L i) := by simp [dAt, h]
theorem dRow_len (k : Ky) (L : List Nd) : ∀ j, j ≤ L.length → (dRow k L j).length = j * 86
  | 0, _ => rfl
  | j + 1, h => by
    obtain ⟨nd, e⟩ : ∃ nd, L[j]? = some nd := ⟨_, List.getElem?_eq_getElem (by omega)⟩
    rw [dRow, List.length_append, dRow_len k L j (by omega), dAt_some e, dc_len]
    omega
theorem nRow_len (L : List Nd) : ∀ j, (nRow L j).length = j
  | 0 => rfl
  | j + 1 => by simp [nRow, nRow_len L j]
theorem nRow_get (L : List Nd) : ∀ j i, i < j → (nRow L j)[i]? = some (vp ((L[i]?).map (·.b)))
  | 0, i, h => by omega
  | j + 1, i, h => by
    rw [nRow]
    by_cases hij : i < j
    · rw [List.getElem?_append_left (by rw [nRow_len]; exact hij)]; exact nRow_get L j i hij
    · have : i = j := by omega
      subst this
      rw [List.getElem?_append_right (by rw [nRow_len]; exact Nat.le_refl _)]
      simp [nRow_len]
theorem dRow_get (k : Ky) (L : List Nd) : ∀ j i c u, j ≤ L.length → i < j → (dAt k L i)[c]? = some u → (dRow k L j)[i * 86 + c]? = some u
  | 0, i, c, u, _, h, _ => by omega
  | j + 1, i, c, u, hj, h, hu => by
    rw [dRow]
    by_cases hij : i < j
    · have h1 := dRow_get k L j i c u (by omega) hij hu
      rw [List.getElem?_append_left (List.getElem?_eq_some_iff.1 h1).1]
      exact h1
    · have e : i = j := by omega
      subst e
      rw [List.getElem?_append_right (by rw [dRow_len k L i (by omega)]; omega), dRow_len k L i (by omega)]
      rw [show i * 86 + c - i * 86 = c by omega]
      exact hu

theorem own_kept {w w' : World} {base : Nat} {e : TypeId} {size : Nat} {v : Value} {n : Nat} {xs : List Value} {row : Option Nat} (h : w.ownsRow base e size v n xs) (hg : w.grownBy w' row) (hne : ∀ q, v.ownBlock = some q → row ≠ some q) : w'.ownsRow base e size v n xs := by
  refine ⟨h.1, h.2.imp id fun ⟨g, cap, cur, h1, h2, h3, h4⟩ => ⟨g, cap, cur, h1, h2, ?_, h4⟩⟩
  exact keep_blk hg h3 (fun e' => hne g (by rw [h1]; rfl) e'.symm)

/-- Rows of two element types lie in two blocks. -/
theorem own_apart {w : World} {b1 b2 : Nat} {e1 e2 : TypeId} {s1 s2 : Nat} {v1 v2 : Value} {n1 n2 : Nat} {x1 x2 : List Value} (h1 : w.ownsRow b1 e1 s1 v1 n1 x1) (h2 : w.ownsRow b2 e2 s2 v2 n2 x2) (hne : e1 ≠ e2) {q : Nat} (hq : v1.ownBlock = some q) : v2.ownBlock ≠ some q := by
  intro hq2
  rcases h1.2 with ⟨rfl, _⟩ | ⟨g, cap, cur, rfl, _, hg, _⟩
  · simp [Value.ownBlock] at hq
  rcases h2.2 with ⟨rfl, _⟩ | ⟨g2, cap2, cur2, rfl, _, hg2, _⟩
  · simp [Value.ownBlock] at hq2
  simp only [Value.ownBlock, Option.some.injEq] at hq hq2
  rw [hq] at hg
  rw [hq2, hg] at hg2
  simp only [Option.some.injEq, Obj.cells.injEq] at hg2
  exact hne hg2.2.1
/-- The row lies at or behind its base. -/
theorem own_base {w : World} {b1 : Nat} {e1 : TypeId} {s1 : Nat} {v1 : Value} {n1 : Nat} {x1 : List Value} (h1 : w.ownsRow b1 e1 s1 v1 n1 x1) {q : Nat} (hq : v1.ownBlock = some q) : b1 ≤ q ∧ q < w.heap.size := by
  rcases h1.2 with ⟨rfl, _⟩ | ⟨g, cap, cur, rfl, hb, hg, _⟩
  · simp [Value.ownBlock] at hq
  simp only [Value.ownBlock, Option.some.injEq] at hq
  subst hq
  exact ⟨hb, (Array.getElem?_eq_some_iff.1 hg).1⟩

theorem bs37 (o : Option Nat) (w : World) : (Instr.buildSlice 37 1 #[(0, vp o)]).run Yba.prog w = .ok (.slice (some ⟨w.heap.size, 0, none⟩) 1 1) (w.alloc (.cells #[vp o] 27)) := by
  cases o <;> kernel_rfl
theorem exec_bs37 {a : Act} {o : Oper} {w : World} (x : Operand) (ho : o.op = .buildSlice 37 1 #[(0, x)]) (q : Option Nat) (hx : a.eval x = vp q) :
    (execOp a.eval o).run Yba.prog w = .ok (.value (.slice (some ⟨w.heap.size, 0, none⟩) 1 1)) (w.alloc (.cells #[vp q] 27)) := by
  unfold execOp
  simp only [ho, List.map_toArray, List.map_cons, List.map_nil, hx, Sem.run_bind, bs37, Result.andThen_ok, Sem.run_pure]
theorem bs38 (k : Ky) (x t : Int) (p q : Option Nat) (w : World) : (Instr.buildSlice 38 1 #[(0, .agg (dc k x t p q).toArray)]).run Yba.prog w = .ok (.slice (some ⟨w.heap.size, 0, none⟩) 1 1) (w.alloc (.cells (dc k x t p q).toArray 60)) := by kernel_rfl
theorem exec_bs38 {a : Act} {o : Oper} {w : World} (x : Operand) (ho : o.op = .buildSlice 38 1 #[(0, x)]) (k : Ky) (z t : Int) (p q : Option Nat) (hx : a.eval x = .agg (dc k z t p q).toArray) :
    (execOp a.eval o).run Yba.prog w = .ok (.value (.slice (some ⟨w.heap.size, 0, none⟩) 1 1)) (w.alloc (.cells (dc k z t p q).toArray 60)) := by
  unfold execOp
  simp only [ho, List.map_toArray, List.map_cons, List.map_nil, hx, Sem.run_bind, bs38, Result.andThen_ok, Sem.run_pure]

end Go.Proofs.Ybulkdsrg
