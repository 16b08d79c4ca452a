/-
  LawS5973CWhole: the two appends of the law's walk.
-/
import Derived.Test.YbulkdsrgCHelp
import Derived.Maps.AppendAt
namespace Go.Proofs.Ybulkdsrg
open Go.RowKit
set_option linter.unusedSimpArgs false
set_option linter.unusedVariables false

theorem info27 : (Yba.prog.info? 27).map (fun i => (i.zero, i.size, i.bytes)) = some (some (.pointer none), 1, 8) := by kernel_rfl
theorem info60 : (Yba.prog.info? 60).map (fun i => (i.zero, i.size, i.bytes)) = some (some (.agg (dc ⟨fun _ => 0, fun _ => 0, 0, false⟩ 0 0 none none).toArray), 86, 280) := by kernel_rfl

section
variable {ops : Array Oper} {rest : List Oper} {op : Oper} {a : Act} {w : World} {Q : Exit → Act → World → Prop}
theorem wpList_app27 (hgd : op.guard = none) (s x : Operand) (ho : op.op = .call { callee := .builtin .append, args := #[s, x], argTypes := #[37, 37] }) (base : Nat) (v : Value) (n : Nat) (xs : List Value) (hs : a.eval s = v) (hown : w.ownsRow base 27 1 v n xs)
    (ad : Nat) (o : Option Nat) (hx : a.eval x = .slice (some ⟨ad, 0, none⟩) 1 1) (hb : w.heap[ad]? = some (.cells #[vp o] 27 (0, 0))) (hn : n ≤ 65536) (hbase : base ≤ w.heap.size)
    (h : ∀ v' w', w'.ownsRow base 27 1 v' (n + 1) (xs ++ [vp o]) → w.grownBy w' v.ownBlock → (v'.ownBlock = v.ownBlock ∨ v'.ownBlock = some w.heap.size) → wpList Yba.prog ops Q rest (a.put op.dst v') w') : wpList Yba.prog ops Q (op :: rest) a w := by
  obtain ⟨i, hi, hz, hsz, hby⟩ := info_parts info27
  have hr : w.rangeAt ad 0 [vp o] := range_of_blk (t := 27) (by simpa using hb)
  refine wpList_append_own_at w hgd s x 37 ho base 27 i _ 1 8 Yba.underlying37 hi hz hsz hby rfl (by omega) v n xs hs hown ⟨ad, 0, none⟩ 1 1 [vp o] hx rfl (fun j u hu => ?_) (fun u hu => ?_) (by simp [maxLen]; omega) (by omega) hbase (fun v' w' h1 h2 _ h4 => h v' w' h1 h2 h4)
  · rw [Addr.add_mid]; exact hr j u hu
  · simp at hu; subst hu; exact vp_one o
theorem wpList_app60 (hgd : op.guard = none) (s x : Operand) (ho : op.op = .call { callee := .builtin .append, args := #[s, x], argTypes := #[38, 38] }) (base : Nat) (v : Value) (n : Nat) (xs : List Value) (hs : a.eval s = v) (hown : w.ownsRow base 60 86 v n xs)
    (ad : Nat) (k : Ky) (z t : Int) (p q : Option Nat) (hx : a.eval x = .slice (some ⟨ad, 0, none⟩) 1 1) (hb : w.heap[ad]? = some (.cells (dc k z t p q).toArray 60 (0, 0))) (hn : n ≤ 65536) (hbase : base ≤ w.heap.size)
    (h : ∀ v' w', w'.ownsRow base 60 86 v' (n + 1) (xs ++ dc k z t p q) → w.grownBy w' v.ownBlock → (v'.ownBlock = v.ownBlock ∨ v'.ownBlock = some w.heap.size) → wpList Yba.prog ops Q rest (a.put op.dst v') w') : wpList Yba.prog ops Q (op :: rest) a w := by
  obtain ⟨i, hi, hz, hsz, hby⟩ := info_parts info60
  have hr : w.rangeAt ad 0 (dc k z t p q) := range_of_blk hb
  refine wpList_append_own_at w hgd s x 38 ho base 60 i _ 86 280 Yba.underlying38 hi hz hsz hby rfl (by omega) v n xs hs hown ⟨ad, 0, none⟩ 1 1 (dc k z t p q) hx rfl (fun j u hu => ?_) (fun u hu => dc_one _ _ _ _ _ u hu) (by simp [maxLen]; omega) (by omega) hbase (fun v' w' h1 h2 _ h4 => h v' w' h1 h2 h4)
  rw [Addr.add_mid]; exact hr j u hu
end

/-- The state of the loop that lists the nodes. -/
structure I2 (w3 wz : World) (k : Ky) (L : List Nd) (v19 v20 : Value) (j : Nat) : Prop where
  ns : wz.ownsRow w3.heap.size 27 1 v19 j (nRow L j)
  ds : wz.ownsRow w3.heap.size 60 86 v20 j (dRow k L j)
  bel : Below w3.heap.size w3 wz

theorem I2.start (w3 : World) (k : Ky) (L : List Nd) : I2 w3 w3 k L (.slice none 0 0) (.slice none 0 0) 0 :=
  ⟨⟨rfl, .inl ⟨rfl, rfl⟩⟩, ⟨rfl, .inl ⟨rfl, rfl⟩⟩, Below.refl _ _⟩

/-- One round: a node's pointer and its value are appended. -/
theorem I2.step {w3 wz wA wB : World} {k : Ky} {L : List Nd} {v19 v20 v19' v20' : Value} {j : Nat} {nd : Nd} {o1 o2 : Obj} (h : I2 w3 wz k L v19 v20 j) (hnd : L[j]? = some nd)
    (h1 : wA.ownsRow w3.heap.size 27 1 v19' (j + 1) (nRow L j ++ [vp (some nd.b)])) (g1 : (wz.alloc o1).grownBy wA v19.ownBlock)
    (h2 : wB.ownsRow w3.heap.size 60 86 v20' (j + 1) (dRow k L j ++ dc k nd.x nd.t (pv L j) (nx L j))) (g2 : (wA.alloc o2).grownBy wB v20.ownBlock) : I2 w3 wB k L v19' v20' (j + 1) := by
  have hs := h.bel.size
  have hsA := g1.size
  simp at hsA
  have d1 : (wA.alloc o2).ownsRow w3.heap.size 27 1 v19' (j + 1) (nRow L j ++ [vp (some nd.b)]) := own_kept h1 (World.grownBy_alloc _ _ none) (by simp)
  have d0 : (wz.alloc o1).ownsRow w3.heap.size 60 86 v20 j (dRow k L j) := own_kept h.ds (World.grownBy_alloc _ _ none) (by simp)
  have n0 : (wz.alloc o1).ownsRow w3.heap.size 27 1 v19 j (nRow L j) := own_kept h.ns (World.grownBy_alloc _ _ none) (by simp)
  have d2 : wA.ownsRow w3.heap.size 60 86 v20 j (dRow k L j) := own_kept d0 g1 (fun q hq => own_apart d0 n0 (by decide) hq)
  have d3 : (wA.alloc o2).ownsRow w3.heap.size 60 86 v20 j (dRow k L j) := own_kept d2 (World.grownBy_alloc _ _ none) (by simp)
  refine ⟨?_, ?_, ?_⟩
  · have := own_kept d1 g2 (fun q hq => own_apart d1 d3 (by decide) hq)
    simpa [nRow, hnd] using this
  · rw [dRow, dAt_some hnd]; exact h2
  · refine Below.grown (Below.grown (Below.grown (Below.grown h.bel (World.grownBy_alloc _ o1 none) hs (by simp)) g1 (by simp; omega) (fun q hq => (own_base n0 hq).1)) (World.grownBy_alloc _ o2 none) (by omega) (by simp)) g2 (by simp; omega) (fun q hq => (own_base d3 hq).1)

theorem I2.mid {w3 wz wA : World} {k : Ky} {L : List Nd} {v19 v20 : Value} {j : Nat} {o1 : Obj} (h : I2 w3 wz k L v19 v20 j) (g1 : (wz.alloc o1).grownBy wA v19.ownBlock) : Below w3.heap.size w3 wA ∧ wA.ownsRow w3.heap.size 60 86 v20 j (dRow k L j) ∧ w3.heap.size ≤ wA.heap.size := by
  have hs := h.bel.size
  have hsA := g1.size
  simp at hsA
  have d0 : (wz.alloc o1).ownsRow w3.heap.size 60 86 v20 j (dRow k L j) := own_kept h.ds (World.grownBy_alloc _ _ none) (by simp)
  have n0 : (wz.alloc o1).ownsRow w3.heap.size 27 1 v19 j (nRow L j) := own_kept h.ns (World.grownBy_alloc _ _ none) (by simp)
  exact ⟨Below.grown (Below.grown h.bel (World.grownBy_alloc _ o1 none) hs (by simp)) g1 (by simp; omega) (fun q hq => (own_base n0 hq).1), own_kept d0 g1 (fun q hq => own_apart d0 n0 (by decide) hq), by omega⟩

theorem exec_len26 {a : Act} {o : Oper} {w : World} (x : Operand) (hop : o.op = Op.call { callee := Callee.builtin Builtin.len, args := #[x], argTypes := #[26] }) {k : Ky} {lo hi f : Nat} {L : List Nd} {m : Option Nat} {D : DataW Unit} {n : Nat} (h : St w k lo hi f L m D n)
    (hx : a.eval x = .map m) : (execOp a.eval o).run Yba.prog w = .ok (.value (.int .i64 (Maps.size D))) w := by
  simp [execOp, hop, resolve, invoke, builtin, hx, h.len o.type, Result.andThen]

theorem wpList_len26 {ops : Array Oper} {rest : List Oper} {op : Oper} {a : Act} {w : World} {Q : Exit → Act → World → Prop} (hgd : op.guard = none) (x : Operand) (hop : op.op = Op.call { callee := Callee.builtin Builtin.len, args := #[x], argTypes := #[26] }) (m : Option Nat) (hx : a.eval x = .map m)
    {k : Ky} {lo hi f : Nat} {L : List Nd} {D : DataW Unit} {n : Nat} (h : St w k lo hi f L m D n) (hh : wpList Yba.prog ops Q rest (a.put op.dst (.int .i64 (Maps.size D))) w) : wpList Yba.prog ops Q (op :: rest) a w :=
  wpList_exec hgd _ (exec_len26 x hop h hx) hh
theorem wpList_eql34 {ops : Array Oper} {rest : List Oper} {op : Oper} {a : Act} {w : World} {Q : Exit → Act → World → Prop} (hgd : op.guard = none) (x y : Operand) (ho : op.op = .binOp .eql 34 x y 34) {k : Ky} (hk : k.Wf) {p q : Int} (hp : (Lit.int .u32 p).wf = true) (hq : (Lit.int .u32 q).wf = true)
    (hx : a.eval x = .agg (kc k p).toArray) (hy : a.eval y = .agg (kc k q).toArray) (hh : wpList Yba.prog ops Q rest (a.put op.dst (.bool (decide (p = q)))) w) : wpList Yba.prog ops Q (op :: rest) a w :=
  wpList_exec hgd _ (exec_eql34 x y ho hk hp hq hx hy) hh
theorem wpList_build60 {ops : Array Oper} {rest : List Oper} {op : Oper} {a : Act} {w : World} {Q : Exit → Act → World → Prop} (hgd : op.guard = none) (x0 x1 x2 : Operand) (ho : op.op = .build 60 #[(0, x0), (9, x1), (10, x2)]) (k : Ky) (x t : Int) (p : Option Nat)
    (e0 : a.eval x0 = .agg (kc k x).toArray) (e1 : a.eval x1 = .int .i64 t) (e2 : a.eval x2 = vp p) (hh : wpList Yba.prog ops Q rest (a.put op.dst (.agg (dc k x t p none).toArray)) w) : wpList Yba.prog ops Q (op :: rest) a w :=
  wpList_exec hgd _ (exec_build60 x0 x1 x2 ho k x t p e0 e1 e2) hh
theorem wpList_bs37 {ops : Array Oper} {rest : List Oper} {op : Oper} {a : Act} {w : World} {Q : Exit → Act → World → Prop} (hgd : op.guard = none) (x : Operand) (ho : op.op = .buildSlice 37 1 #[(0, x)]) (q : Option Nat) (hx : a.eval x = vp q)
    (hh : wpList Yba.prog ops Q rest (a.put op.dst (.slice (some ⟨w.heap.size, 0, none⟩) 1 1)) (w.alloc (.cells #[vp q] 27))) : wpList Yba.prog ops Q (op :: rest) a w := wpList_exec hgd _ (exec_bs37 x ho q hx) hh
theorem wpList_bs38 {ops : Array Oper} {rest : List Oper} {op : Oper} {a : Act} {w : World} {Q : Exit → Act → World → Prop} (hgd : op.guard = none) (x : Operand) (ho : op.op = .buildSlice 38 1 #[(0, x)]) (k : Ky) (z t : Int) (p q : Option Nat) (hx : a.eval x = .agg (dc k z t p q).toArray)
    (hh : wpList Yba.prog ops Q rest (a.put op.dst (.slice (some ⟨w.heap.size, 0, none⟩) 1 1)) (w.alloc (.cells (dc k z t p q).toArray 60))) : wpList Yba.prog ops Q (op :: rest) a w := wpList_exec hgd _ (exec_bs38 x ho k z t p q hx) hh

theorem exec_look {a : Act} {o : Oper} {w : World} (x y : Operand) (ho : o.op = .lookup 26 x y true) {k : Ky} (hk : k.Wf) {z : Int} (hz : (Lit.int .u32 z).wf = true) {lo hi f : Nat} {L : List Nd} {m : Option Nat} {D : DataW Unit} {n : Nat} (h : St w k lo hi f L m D n)
    (hx : a.eval x = .map m) (hy : a.eval y = .agg (kc k z).toArray) : (execOp a.eval o).run Yba.prog w = .ok (.value (.tuple #[vp (gt D k z), .bool (Maps.has D (kl k z))])) w := by
  unfold execOp
  simp only [ho, hx, hy, Sem.run_bind, (h.look hk hz).1, Result.andThen_ok, Sem.run_pure]
theorem exec_look1 {a : Act} {o : Oper} {w : World} (x y : Operand) (ho : o.op = .lookup 26 x y false) {k : Ky} (hk : k.Wf) {z : Int} (hz : (Lit.int .u32 z).wf = true) {lo hi f : Nat} {L : List Nd} {m : Option Nat} {D : DataW Unit} {n : Nat} (h : St w k lo hi f L m D n)
    (hx : a.eval x = .map m) (hy : a.eval y = .agg (kc k z).toArray) : (execOp a.eval o).run Yba.prog w = .ok (.value (vp (gt D k z))) w := by
  unfold execOp
  simp only [ho, hx, hy, Sem.run_bind, (h.look hk hz).2, Result.andThen_ok, Sem.run_pure]

/-- The operation that comes next is this one. -/
theorem wpList_is {P : Program} {ops : Array Oper} {rest : List Oper} {op : Oper} {a : Act} {w : World} {Q : Exit → Act → World → Prop} (o : Op) (ho : op.op = o) (h : wpList P ops Q (op :: rest) a w) : wpList P ops Q (op :: rest) a w := h

/-- The state by what its blocks hold. -/
theorem St.at {w w' : World} {k : Ky} {lo hi f : Nat} {L : List Nd} {m : Option Nat} {D : DataW Unit} {n B : Nat} (h : St w k lo hi f L m D n) (hw : ∀ q, q < B → w'.heap[q]? = w.heap[q]?) (hB : hi ≤ B) (hs : hi ≤ w.heap.size) : St w' k lo hi f L m D n :=
  h.out (fun q _ hq => hw q (by omega)) (Nat.le_refl _) hs

/-- The values' row read. -/
theorem row60 {w : World} {base g n cap : Nat} {k : Ky} {L : List Nd} (h : w.ownsRow base 60 86 (.slice (some ⟨g, 0, none⟩) n cap) n (dRow k L n)) (hn : n ≤ L.length) {i : Nat} (hi : i < n) : w.rangeAt g (i * 86) (dAt k L i) := by
  intro c u hu
  have h1 := dRow_get k L n i c u hn hi hu
  have hl := (List.getElem?_eq_some_iff.1 h1).1
  rw [dRow_len k L n hn] at hl
  rw [h.cellAt _ hl]
  exact h1
theorem row27 {w : World} {base g n cap : Nat} {L : List Nd} (h : w.ownsRow base 27 1 (.slice (some ⟨g, 0, none⟩) n cap) n (nRow L n)) {i : Nat} (hi : i < n) : w.cell? ⟨g, i, none⟩ = some (vp ((L[i]?).map (·.b))) := by
  rw [h.cellAt _ (by omega)]
  exact nRow_get L n i hi

/-! ### The eight keys of the script -/
noncomputable def bef (D : DataW Unit) (k : Ky) (i : Nat) : List Value := (List.range 8).map (fun (t : Nat) => if t < i then vp (gt D k (t : Int)) else .pointer none)
noncomputable def bok (D : DataW Unit) (k : Ky) (i : Nat) : List Value := (List.range 8).map (fun (t : Nat) => if t < i then .bool (Maps.has D (kl k (t : Int))) else .bool false)
theorem bef_len (D : DataW Unit) (k : Ky) (i : Nat) : (bef D k i).length = 8 := by simp [bef]
theorem bok_len (D : DataW Unit) (k : Ky) (i : Nat) : (bok D k i).length = 8 := by simp [bok]
theorem bef_set (D : DataW Unit) (k : Ky) {i : Nat} (hi : i < 8) : (bef D k i).set i (vp (gt D k (i : Int))) = bef D k (i + 1) := by
  apply List.ext_getElem?
  intro c
  by_cases hc : c < 8
  · rw [List.getElem?_set]
    simp [bef, hc, hi]
    split
    · rename_i e; subst e; simp
    · rename_i e
      by_cases h1 : c < i
      · simp [h1, Nat.lt_succ_of_lt h1]
      · simp [h1, show ¬ c < i + 1 by omega]
  · rw [List.getElem?_eq_none (by rw [List.length_set, bef_len]; omega), List.getElem?_eq_none (by rw [bef_len]; omega)]
theorem bok_set (D : DataW Unit) (k : Ky) {i : Nat} (hi : i < 8) : (bok D k i).set i (.bool (Maps.has D (kl k (i : Int)))) = bok D k (i + 1) := by
  apply List.ext_getElem?
  intro c
  by_cases hc : c < 8
  · rw [List.getElem?_set]
    simp [bok, hc, hi]
    split
    · rename_i e; subst e; simp
    · rename_i e
      by_cases h1 : c < i
      · simp [h1, Nat.lt_succ_of_lt h1]
      · simp [h1, show ¬ c < i + 1 by omega]
  · rw [List.getElem?_eq_none (by rw [List.length_set, bok_len]; omega), List.getElem?_eq_none (by rw [bok_len]; omega)]
theorem bef_get (D : DataW Unit) (k : Ky) {i : Nat} (hi : i < 8) : (bef D k 8)[i]? = some (vp (gt D k (i : Int))) := by simp [bef, hi]
theorem bok_get (D : DataW Unit) (k : Ky) {i : Nat} (hi : i < 8) : (bok D k 8)[i]? = some (.bool (Maps.has D (kl k (i : Int)))) := by simp [bok, hi]

/-- The state of the loop that reads the eight keys. -/
structure I3 (w5 wy : World) (k : Ky) (D : DataW Unit) (i : Nat) : Prop where
  b1 : wy.heap[w5.heap.size]? = some (.cells (bef D k i).toArray 62 (0, 0))
  b2 : wy.heap[w5.heap.size + 1]? = some (.cells (bok D k i).toArray 63 (0, 0))
  bel : Below w5.heap.size w5 wy
  sz : w5.heap.size + 2 ≤ wy.heap.size
theorem I3.start (w5 : World) (k : Ky) (D : DataW Unit) : I3 w5 ((w5.alloc (Obj.cells #[Value.pointer none, Value.pointer none, Value.pointer none, Value.pointer none, Value.pointer none, Value.pointer none, Value.pointer none, Value.pointer none] 62)).alloc
      (Obj.cells #[Value.bool false, Value.bool false, Value.bool false, Value.bool false, Value.bool false, Value.bool false, Value.bool false, Value.bool false] 63)) k D 0 := by
  have e1 : (bef D k 0).toArray = #[Value.pointer none, Value.pointer none, Value.pointer none, Value.pointer none, Value.pointer none, Value.pointer none, Value.pointer none, Value.pointer none] := rfl
  have e2 : (bok D k 0).toArray = #[Value.bool false, Value.bool false, Value.bool false, Value.bool false, Value.bool false, Value.bool false, Value.bool false, Value.bool false] := rfl
  exact ⟨by rw [e1]; exact blk_alloc (blk_new _ _ _ _ rfl) _, by rw [e2]; exact blk_new _ _ _ _ (by simp), ((Below.refl _ _).alloc (Nat.le_refl _) _).alloc (by simp) _, by simp⟩
theorem wrap8 {i : Nat} (h : i < 8) : IntKind.u32.wrap (i : Int) = (i : Int) := by
  simp [IntKind.wrap, IntKind.signed, IntKind.bits]
  omega
theorem wf8 {i : Nat} (h : i < 8) : (Lit.int .u32 (i : Int)).wf = true := by
  simp [Lit.wf, IntKind.min, IntKind.max, IntKind.signed, IntKind.bits]
  omega

theorem own_move {w w' : World} {base : Nat} {e : TypeId} {size : Nat} {v : Value} {n : Nat} {xs : List Value} (h : w.ownsRow base e size v n xs) (hw : ∀ q, base ≤ q → q < w.heap.size → w'.heap[q]? = w.heap[q]?) : w'.ownsRow base e size v n xs :=
  ⟨h.1, h.2.imp id fun ⟨g, cap, cur, h1, h2, h3, h4⟩ => ⟨g, cap, cur, h1, h2, (hw g h2 (Array.getElem?_eq_some_iff.1 h3).1).trans h3, h4⟩⟩
theorem vp_some (b : Nat) : vp (some b) = .pointer (some ⟨b, 0, none⟩) := rfl
theorem alloc60 (w : World) : (Instr.alloc 60 true (.tuple #[])).run Yba.prog w = .ok (.pointer (some ⟨w.heap.size, 0, none⟩)) (w.alloc (.cells (dc ⟨fun _ => 0, fun _ => 0, 0, false⟩ 0 0 none none).toArray 60)) := by kernel_rfl
theorem wpList_alloc60 {ops : Array Oper} {rest : List Oper} {op : Oper} {a : Act} {w : World} {Q : Exit → Act → World → Prop} (hgd : op.guard = none) (ho : op.op = .alloc 60)
    (h : wpList Yba.prog ops Q rest (a.put op.dst (.pointer (some ⟨w.heap.size, 0, none⟩))) (w.alloc (.cells (dc ⟨fun _ => 0, fun _ => 0, 0, false⟩ 0 0 none none).toArray 60))) : wpList Yba.prog ops Q (op :: rest) a w := by
  refine wpList_plain hgd fun K hK => ?_
  unfold Oper.wp execOp
  simp only [ho, Sem.run_bind, alloc60, Result.andThen_ok, Sem.run_pure]
  exact hK _ _ h
theorem exec_nePP {a : Act} {o : Oper} {w : World} (x y : Operand) (ho : o.op = .binOp .neq 27 x y 27) (b : Nat) (hx : a.eval x = .pointer (some ⟨b, 0, none⟩)) (hy : a.eval y = .pointer (some ⟨b, 0, none⟩)) : (execOp a.eval o).run Yba.prog w = .ok (.value (.bool false)) w := by
  have hg : (eqGuard .neq 27 x y (.pointer (some ⟨b, 0, none⟩)) (.pointer (some ⟨b, 0, none⟩))).run Yba.prog w = .ok () w := guardVV .neq x y (some b) w
  unfold execOp
  simp only [ho, hx, hy, Sem.run_bind, hg, nePP, Result.andThen_ok, Sem.run_pure]
theorem wpList_conv8 {ops : Array Oper} {rest : List Oper} {op : Oper} {a : Act} {w : World} {Q : Exit → Act → World → Prop} (hgd : op.guard = none) (x : Operand) (ho : op.op = .convert 3 24 x) {i : Nat} (hi : i < 8) (hx : a.eval x = .int .i64 (i : Int))
    (h : wpList Yba.prog ops Q rest (a.put op.dst (.int .u32 (i : Int))) w) : wpList Yba.prog ops Q (op :: rest) a w := by
  refine wpList_plain hgd fun K hK => ?_
  have hr : (convert 3 24 (.int .i64 (i : Int))).run Yba.prog w = .ok (.int .u32 (IntKind.u32.wrap (i : Int))) w := by kernel_rfl
  rw [wrap8 hi] at hr
  unfold Oper.wp execOp
  simp only [ho, hx, Sem.run_bind, hr, Result.andThen_ok, Sem.run_pure]
  exact hK _ _ h
theorem own_form {w : World} {base : Nat} {e : TypeId} {size : Nat} {v : Value} {n : Nat} {xs : List Value} (h : w.ownsRow base e size v n xs) : ∃ a c, v = .slice a n c ∧ (0 < n → ∃ g, a = some ⟨g, 0, none⟩) := by
  rcases h.2 with ⟨rfl, rfl⟩ | ⟨g, cap, cur, rfl, _⟩
  · exact ⟨none, 0, rfl, fun h => by omega⟩
  · exact ⟨_, _, rfl, fun _ => ⟨g, rfl⟩⟩
theorem pv_last (L : List Nd) (nd : Nd) : pv (L ++ [nd]) L.length = lt L := pv_snoc L nd (Nat.le_refl _)
theorem nx_last (L : List Nd) (nd : Nd) : nx (L ++ [nd]) L.length = none := by simp [nx]
theorem get_last (L : List Nd) (nd : Nd) : (L ++ [nd])[L.length]? = some nd := by simp

end Go.Proofs.Ybulkdsrg
