/-
  LawS5970CWhole: appends and stores in rows; what the law has laid in memory.
-/
import Derived.Test.YbulkdspqFmtCAlert
import Derived.Test.YbulkdspqFmtCNew
import Derived.Test.YbulkdspqFmtCSl
namespace Go.Proofs.YbulkdspqFmt
open Go.RowKit
set_option linter.unusedSimpArgs false
set_option linter.unusedVariables false

theorem exec_app {a : Act} {o : Oper} {w : World} {t e : TypeId} {z : Value} {size bytes : Nat} (ht : Ybaf.prog.underlying t = some (.slice e)) (hinfo : (Ybaf.prog.info? e).map (fun i => (i.zero, i.size, i.bytes)) = some (some z, size, bytes)) (hzs : z.cells.size = size) (hsz : 0 < size) (hby : bytes ≤ 48)
    (s x : Operand) (ho : o.op = .call { callee := .builtin .append, args := #[s, x], argTypes := #[t, t] }) (v : Value) (n : Nat) (xs : List Value) (hs : a.eval s = v) (hown : w.ownsRow 0 e size v n xs)
    (ad m c : Nat) (news : List Value) (hx : a.eval x = .slice (some ⟨ad, 0, none⟩) m c) (hl : news.length = m * size) (hnews : ∀ j u, news[j]? = some u → w.cell? ((⟨ad, 0, none⟩ : Addr).add j) = some u) (h1 : ∀ u ∈ news, u.oneCell' = true) (hn : n + m ≤ 1000000) :
    ∃ v' w', (execOp a.eval o).run Ybaf.prog w = .ok (.value v') w' ∧ w'.ownsRow 0 e size v' (n + m) (xs ++ news) ∧ w.grownBy w' v.ownBlock ∧ (v'.ownBlock = v.ownBlock ∨ v'.ownBlock = some w.heap.size) := by
  obtain ⟨i, hi, hz, hsize, hb⟩ := info_parts hinfo
  have hbytes : (n + m) * bytes ≤ 140737488355328 := Nat.le_trans (Nat.mul_le_mul hn hby) (by decide)
  obtain ⟨v', w', hr, h2, h3, h4, h5⟩ := run_append_own_at (P := Ybaf.prog) w 0 t o.type e i z size bytes ht hi hz hsize hb hzs hsz v n xs hown ⟨ad, 0, none⟩ m c news hl hnews h1 (by simp [maxLen]; omega) hbytes (Nat.zero_le _)
  refine ⟨v', w', ?_, h2, h3, h5⟩
  unfold execOp
  simp only [ho, resolve, invoke, builtin, Sem.run_bind, Sem.run_pure, Result.andThen_ok, List.map_toArray, List.map_cons, List.map_nil, hs, hx, hr]
theorem run_append_nil2 {P : Program} (w : World) (t ty e : TypeId) (i : TypeInfo) (ht : P.underlying t = some (.slice e)) (hi : P.info? e = some i) (a : Option Addr) (n c : Nat) (hc : n ≤ c) (ha : a = none → n = 0 ∧ c = 0) :
    (Builtin.append_ #[t, t] ty #[.slice a n c, .slice none 0 0]).run P w = .ok (.slice a n c) w := by
  cases a with
  | none => obtain ⟨rfl, rfl⟩ := ha rfl; simp [Builtin.append_, run_underlying ht, sizeOf, typeInfo, hi, Builtin.lenOf, Builtin.firstCells, loadCells, loadCellsFrom, hc, storeCells, Result.andThen]
  | some g => simp [Builtin.append_, run_underlying ht, sizeOf, typeInfo, hi, Builtin.lenOf, Builtin.firstCells, loadCells, loadCellsFrom, hc, storeCells, Result.andThen]
/-- A row appended onto a row. -/
theorem exec_appR {a : Act} {o : Oper} {w : World} {t e : TypeId} {z : Value} {size bytes : Nat} (ht : Ybaf.prog.underlying t = some (.slice e)) (hinfo : (Ybaf.prog.info? e).map (fun i => (i.zero, i.size, i.bytes)) = some (some z, size, bytes)) (hzs : z.cells.size = size) (hsz : 0 < size) (hby : bytes ≤ 48)
    (s x : Operand) (ho : o.op = .call { callee := .builtin .append, args := #[s, x], argTypes := #[t, t] }) (v : Value) (n : Nat) (xs : List Value) (hs : a.eval s = v) (hown : w.ownsRow 0 e size v n xs)
    (vx : Value) (m : Nat) (news : List Value) (hx : a.eval x = vx) (hox : w.ownsRow 0 e size vx m news) (h1 : ∀ u ∈ news, u.oneCell' = true) (hn : n + m ≤ 1000000) :
    ∃ v' w', (execOp a.eval o).run Ybaf.prog w = .ok (.value v') w' ∧ w'.ownsRow 0 e size v' (n + m) (xs ++ news) ∧ w.grownBy w' v.ownBlock ∧ (v'.ownBlock = v.ownBlock ∨ v'.ownBlock = some w.heap.size) := by
  rcases hox.2 with ⟨rfl, rfl⟩ | ⟨g, cap, cur, rfl, _, hg, _⟩
  · have e0 : news = [] := List.eq_nil_of_length_eq_zero (by rw [hox.1]; simp)
    subst e0
    obtain ⟨i, hi, _, _, _⟩ := info_parts hinfo
    refine ⟨v, w, ?_, by simpa using hown, World.grownBy.refl _ _, .inl rfl⟩
    obtain ⟨a', c', rfl, hc, ha⟩ : ∃ a' c', v = .slice a' n c' ∧ n ≤ c' ∧ (a' = none → n = 0 ∧ c' = 0) := by
      rcases hown.2 with ⟨rfl, rfl⟩ | ⟨g, cap, cur, rfl, _, _, hc, _⟩
      · exact ⟨none, 0, rfl, Nat.le_refl _, fun _ => ⟨rfl, rfl⟩⟩
      · exact ⟨_, _, rfl, hc, fun h => by simp at h⟩
    have hr := run_append_nil2 (P := Ybaf.prog) w t o.type e i ht hi a' n c' hc ha
    unfold execOp
    simp only [ho, resolve, invoke, builtin, Sem.run_bind, Sem.run_pure, Result.andThen_ok, List.map_toArray, List.map_cons, List.map_nil, hs, hx, hr]
  · exact exec_app ht hinfo hzs hsz hby s x ho v n xs hs hown g m cap news hx hox.1 (hox.cells rfl) h1 hn
theorem wpList_appR {ops : Array Oper} {rest : List Oper} {Q : Exit → Act → World → Prop} {a : Act} {o : Oper} {w : World} {t e : TypeId} {z : Value} {size bytes : Nat} (hgd : o.guard = none) (ht : Ybaf.prog.underlying t = some (.slice e)) (hinfo : (Ybaf.prog.info? e).map (fun i => (i.zero, i.size, i.bytes)) = some (some z, size, bytes)) (hzs : z.cells.size = size) (hsz : 0 < size) (hby : bytes ≤ 48)
    (s x : Operand) (ho : o.op = .call { callee := .builtin .append, args := #[s, x], argTypes := #[t, t] }) (v : Value) (n : Nat) (xs : List Value) (hs : a.eval s = v) (hown : w.ownsRow 0 e size v n xs)
    (vx : Value) (m : Nat) (news : List Value) (hx : a.eval x = vx) (hox : w.ownsRow 0 e size vx m news) (h1 : ∀ u ∈ news, u.oneCell' = true) (hn : n + m ≤ 1000000)
    (h : ∀ v' w', w'.ownsRow 0 e size v' (n + m) (xs ++ news) → w.grownBy w' v.ownBlock → (v'.ownBlock = v.ownBlock ∨ v'.ownBlock = some w.heap.size) → wpList Ybaf.prog ops Q rest (a.put o.dst v') w') : wpList Ybaf.prog ops Q (o :: rest) a w := by
  obtain ⟨v', w', hr, h2, h3, h5⟩ := exec_appR ht hinfo hzs hsz hby s x ho v n xs hs hown vx m news hx hox h1 hn
  exact wpList_exec hgd v' hr (h v' w' h2 h3 h5)
/-- A row of its own, of one element. -/
theorem bs27 (x : Int) (w : World) : (Instr.buildSlice 27 1 #[(0, .agg (ic x).toArray)]).run Ybaf.prog w = .ok (.slice (some ⟨w.heap.size, 0, none⟩) 1 1) (w.alloc (.cells (ic x).toArray 25)) := by kernel_rfl
theorem exec_bs27 {a : Act} {o : Oper} {w : World} (x : Operand) (ho : o.op = .buildSlice 27 1 #[(0, x)]) (b : Int) (hx : a.eval x = .agg (ic b).toArray) : (execOp a.eval o).run Ybaf.prog w = .ok (.value (.slice (some ⟨w.heap.size, 0, none⟩) 1 1)) (w.alloc (.cells (ic b).toArray 25)) := by
  unfold execOp
  simp only [ho, List.map_toArray, List.map_cons, List.map_nil, hx, Sem.run_bind, bs27, Result.andThen_ok, Sem.run_pure]
theorem own_bs27 (x : Int) (w : World) : (w.alloc (.cells (ic x).toArray 25)).ownsRow 0 25 20 (.slice (some ⟨w.heap.size, 0, none⟩) 1 1) 1 (ic x) :=
  ⟨rfl, .inr ⟨w.heap.size, 1, _, rfl, Nat.zero_le _, heap_alloc_new w _, Nat.le_refl _, by unfold maxLen; omega, rfl, rfl⟩⟩
theorem bs30 (z : Int) (w : World) : (Instr.buildSlice 30 1 #[(0, .int .u64 z)]).run Ybaf.prog w = .ok (.slice (some ⟨w.heap.size, 0, none⟩) 1 1) (w.alloc (.cells [Value.int .u64 z].toArray 32)) := by kernel_rfl
theorem exec_bs30 {a : Act} {o : Oper} {w : World} (x : Operand) (ho : o.op = .buildSlice 30 1 #[(0, x)]) (z : Int) (hx : a.eval x = .int .u64 z) : (execOp a.eval o).run Ybaf.prog w = .ok (.value (.slice (some ⟨w.heap.size, 0, none⟩) 1 1)) (w.alloc (.cells [Value.int .u64 z].toArray 32)) := by
  unfold execOp
  simp only [ho, List.map_toArray, List.map_cons, List.map_nil, hx, Sem.run_bind, bs30, Result.andThen_ok, Sem.run_pure]
theorem own_bs30 (z : Int) (w : World) : (w.alloc (.cells [Value.int .u64 z].toArray 32)).ownsRow 0 32 1 (.slice (some ⟨w.heap.size, 0, none⟩) 1 1) 1 [.int .u64 z] :=
  ⟨rfl, .inr ⟨w.heap.size, 1, _, rfl, Nat.zero_le _, heap_alloc_new w _, Nat.le_refl _, by unfold maxLen; omega, rfl, rfl⟩⟩
theorem own_weak {w : World} {base : Nat} {e : TypeId} {size : Nat} {v : Value} {n : Nat} {xs : List Value} (h : w.ownsRow base e size v n xs) : w.ownsRow 0 e size v n xs :=
  ⟨h.1, h.2.imp id fun ⟨g, cap, cur, h1, _, h3⟩ => ⟨g, cap, cur, h1, Nat.zero_le _, h3⟩⟩
theorem own_nil (w : World) (e : TypeId) (sz : Nat) : w.ownsRow 0 e sz (.slice none 0 0) 0 [] := ⟨by simp, .inl ⟨rfl, rfl⟩⟩
theorem grow_own {w w1 w2 : World} {x : Option Nat} (g : w.grownBy w1 none) (q : w1.grownBy w2 x) (hx : ∀ y, x = some y → w.heap.size ≤ y) : w.grownBy w2 none :=
  ⟨q.os.trans g.os, q.tape.trans g.tape, q.output.trans g.output, Nat.le_trans g.size q.size, fun i hi _ => (q.block i (by have := g.size; omega) (fun e => by have := hx i e.symm; omega)).trans (g.block i hi (by simp))⟩
theorem take_mid (L cs : List Value) (o k n : Nat) (h : o + k ≤ n) (hn : n ≤ L.length) (hk : cs.length = k) : (L.take o ++ cs ++ L.drop (o + k)).take n = (L.take n).take o ++ (cs ++ (L.take n).drop (o + k)) := by
  have e1 : L.drop (o + k) = (L.take n).drop (o + k) ++ L.drop n := by
    have := List.drop_append_of_le_length (l₁ := L.take n) (l₂ := L.drop n) (i := o + k) (by rw [List.length_take]; omega)
    rw [← this, List.take_append_drop]
  have e2 : L.take o = (L.take n).take o := by rw [List.take_take, Nat.min_eq_left (by omega)]
  rw [e1, e2]
  have e3 : (L.take n).take o ++ cs ++ ((L.take n).drop (o + k) ++ L.drop n) = ((L.take n).take o ++ (cs ++ (L.take n).drop (o + k))) ++ L.drop n := by simp [List.append_assoc]
  rw [e3]
  refine List.take_left' ?_
  simp only [List.length_append, List.length_take, List.length_drop, hk]
  omega
/-- An identifier stored in a row. -/
theorem run_store_own' {P : Program} (hz : (P.info? 25).map (·.size) = some 20) {w : World} {g n c i : Nat} {ids : List Int} (h : w.ownsRow 0 25 20 (.slice (some ⟨g, 0, none⟩) n c) n (ids.flatMap ic)) (hi : i < ids.length) (y : Int) :
    ∃ w', (storeVar 25 ⟨g, i * 20, none⟩ (.agg (ic y).toArray)).run P w = .ok () w' ∧ w'.ownsRow 0 25 20 (.slice (some ⟨g, 0, none⟩) n c) n ((ids.set i y).flatMap ic) ∧ w.grownBy w' (some g) := by
  have hl := h.1
  rw [flat_len ic_len] at hl
  have hln : ids.length = n := by omega
  rcases h.2 with ⟨e, _⟩ | ⟨g', cap, cur, e, _, hg, hc, hm, hsz, ht⟩
  · simp at e
  simp only [Value.slice.injEq, Option.some.injEq, Addr.mk.injEq, and_true, true_and] at e
  obtain ⟨rfl, rfl⟩ := e
  have hcur : n * 20 ≤ cur.size := by rw [hsz]; exact Nat.mul_le_mul_right 20 hc
  have hle : i * 20 + 20 ≤ n * 20 := by rw [← Nat.succ_mul]; exact Nat.mul_le_mul_right 20 (by omega)
  have hst := run_storeCells_at P g (i * 20) 25 (ic y) 0 cur w hg (by rw [ic_len]; omega) (ic_one y)
  rw [ic_len, Nat.add_zero] at hst
  refine ⟨w.setRow g (cur.toList.take (i * 20) ++ ic y ++ cur.toList.drop (i * 20 + 20)).toArray, ?_, ⟨by rw [flat_len ic_len, List.length_set, hln], .inr ⟨g, c, _, rfl, Nat.zero_le _, setRow_heap _ _ _ _ _ _ hg, hc, hm, ?_, ?_⟩⟩, ⟨rfl, rfl, rfl, by simp [World.setRow], fun k _ hk => setRow_other _ _ _ _ (fun e => hk (by rw [e]))⟩⟩
  · cases hq : P.info? 25 with
    | none => simp [hq] at hz
    | some j =>
      have hs' : j.size = 20 := by simpa [hq] using hz
      have hv : (Value.agg (ic y).toArray).cells = (ic y).toArray := rfl
      have hl2 := ic_len y
      simp [storeVar, sizeOf, typeInfo, hq, hv, hs', hst, hl2]
  · simp only [List.size_toArray, List.length_append, List.length_take, List.length_drop, ic_len, Array.length_toList]
    omega
  · have e1 := flat_set ic_len ids i y hi
    rw [← e1, ← ht]
    exact take_mid cur.toList (ic y) (i * 20) 20 (n * 20) hle (by simpa using hcur) (ic_len y)
theorem run_store_own {w : World} {g n c i : Nat} {ids : List Int} (h : w.ownsRow 0 25 20 (.slice (some ⟨g, 0, none⟩) n c) n (ids.flatMap ic)) (hi : i < ids.length) (y : Int) :
    ∃ w', (storeVar 25 ⟨g, i * 20, none⟩ (.agg (ic y).toArray)).run Ybaf.prog w = .ok () w' ∧ w'.ownsRow 0 25 20 (.slice (some ⟨g, 0, none⟩) n c) n ((ids.set i y).flatMap ic) ∧ w.grownBy w' (some g) := run_store_own' (size25 (cf y)) h hi y
theorem wpList_store_own {ops : Array Oper} {rest : List Oper} {op : Oper} {a : Act} {w : World} {Q : Exit → Act → World → Prop} (hgd : op.guard = none) (x y : Operand) (ho : op.op = .store 25 x y) (g n c i : Nat) (z : Int) (hx : a.eval x = .pointer (some ⟨g, i * 20, none⟩)) (hy : a.eval y = .agg (ic z).toArray) {ids : List Int} (hw : w.ownsRow 0 25 20 (.slice (some ⟨g, 0, none⟩) n c) n (ids.flatMap ic)) (hi : i < ids.length)
    (h : ∀ w', w'.ownsRow 0 25 20 (.slice (some ⟨g, 0, none⟩) n c) n ((ids.set i z).flatMap ic) → w.grownBy w' (some g) → wpList Ybaf.prog ops Q rest (a.put op.dst undef) w') : wpList Ybaf.prog ops Q (op :: rest) a w := by
  obtain ⟨w', hr, h2, h3⟩ := run_store_own hw hi z
  refine wpList_plain hgd fun K hK => ?_
  unfold Oper.wp execOp
  simp only [ho, hx, hy, Instr.storeAt, Instr.sureAddr, Sem.run_bind, Sem.run_pure, Result.andThen_ok, hr]
  exact hK _ _ (h _ h2 h3)
/-- What the law has laid. -/
structure MS (w u : World) (s h : Int) (b17 p b33 : Nat) (vi0 vt0 vr0 vi vt vr : Value) (ids refs : List Int) : Prop where
  g : w.grownBy u none
  x17 : u.heap[b17]? = some (.cells (ic s).toArray 25 (0, 0))
  t : TS u p s h vi vt vr ids refs
  x33 : u.heap[b33]? = some (.cells (uN (nm (cf s))).toArray 41 (0, 0))
  oi : u.ownsRow 0 25 20 vi0 ids.length (ids.flatMap ic)
  ot : u.ownsRow 0 32 1 vt0 ids.length (ids.flatMap (tpc s))
  orr : u.ownsRow 0 25 20 vr0 refs.length (refs.flatMap ic)
theorem MS.kept {w u u' : World} {s h : Int} {b17 p b33 : Nat} {vi0 vt0 vr0 vi vt vr : Value} {ids refs : List Int} (m : MS w u s h b17 p b33 vi0 vt0 vr0 vi vt vr ids refs) (q : u.grownBy u' none) : MS w u' s h b17 p b33 vi0 vt0 vr0 vi vt vr ids refs :=
  ⟨grown_trans m.g q, keep_blk q m.x17 (by simp), m.t.kept q, keep_blk q m.x33 (by simp), own_kept m.oi q (by simp), own_kept m.ot q (by simp), own_kept m.orr q (by simp)⟩
/-- The code of the law from a region on. -/
def fromR (n : Nat) : Code → Option Code
  | .seq a b => if headIs n a then some (.seq a b) else fromR n b
  | .scope c => fromR n c
  | .block _ c => fromR n c
  | c => if headIs n c then some c else none
noncomputable def tailAt (n : Nat) : Code := (Ybaf.f3.body.bind (fromR n)).getD .skip
theorem tail94_head : headIs 94 (tailAt 94) = true := by kernel_rfl
theorem tail73_head : headIs 73 (tailAt 73) = true := by kernel_rfl
theorem tail19_head : headIs 19 (tailAt 19) = true := by kernel_rfl
end Go.Proofs.YbulkdspqFmt
