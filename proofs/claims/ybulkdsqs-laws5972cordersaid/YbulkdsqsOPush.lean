/-
  LawS5972COrder: (*waitHeap).Push and container/heap.Push.
-/
import Derived.Test.YbulkdsqsORow
import Derived.Test.YbulkdsqsOHeld
namespace Go.Proofs.Ybulkdsqs
open Go.RowKit Go.Sort
set_option linter.unusedSimpArgs false
set_option linter.unusedVariables false

theorem info25 : (Yba.prog.info? 25).map (fun i => (i.zero, i.size, i.bytes)) = some (some (.pointer none), 1, 8) := by kernel_rfl
theorem assert25 (b : Nat) (w : World) : (Instr.typeAssert (.iface 25 (pc b)) 20 25 false).run Yba.prog w = .ok (pc b) w := by kernel_rfl

/-- The variable h and its row. -/
structure Hv (w : World) (hb base : Nat) (v : Value) (A : Array Nat) : Prop where
  var : w.heap[hb]? = some (.cells [v].toArray 34 (0, 0))
  own : w.ownsRow base 25 1 v A.size (A.toList.map pc)
theorem Hv.apart {w : World} {hb base : Nat} {v : Value} {A : Array Nat} (h : Hv w hb base v A) : v.ownBlock ≠ some hb := by
  intro e
  rcases h.own.2 with ⟨rfl, _⟩ | ⟨g, cap, cur, rfl, _, hg, _⟩
  · cases e
  · cases e
    have := h.var
    rw [hg] at this
    simp at this

theorem exec_append34 {a : Act} {o : Oper} {w w' : World} (s x : Operand) (ho : o.op = .call { callee := .builtin .append, args := #[s, x], argTypes := #[34, 34] }) {v v' y : Value} (hs : a.eval s = v) (hx : a.eval x = y) (hr : (Builtin.append_ #[34, 34] o.type #[v, y]).run Yba.prog w = .ok v' w') :
    (execOp a.eval o).run Yba.prog w = .ok (.value v') w' := by
  unfold execOp
  simp only [ho, resolve, invoke, builtin, Sem.run_bind, Sem.run_pure, Result.andThen_ok, List.map_toArray, List.map_cons, List.map_nil, hs, hx, hr]

theorem op_store1 {P : Program} {ops : Array Oper} {Q : Exit → Act → World → Prop} {a : Act} {i : Nat} {o : Oper} {w : World} {K : Act → World → Prop} (hi : ops[i]? = some o) (hd : o.dst = none) (hw : Region.wanted o (yielded ops a.tmps) = true) (ty : TypeId) (x y : Operand) (ho : o.op = .store ty x y) (b j : Nat) (v : Value) (hx : a.eval x = .pointer (some ⟨b, j, none⟩)) (hy : a.eval y = v) (cs : List Value) (t : TypeId) (hb : w.heap[b]? = some (.cells cs.toArray t (0, 0)))
    (hsz : (P.info? ty).map (·.size) = some 1) (hl : j < cs.length) (h1 : v.oneCell' = true) (cs' : List Value) (hc : cs.set j v = cs')
    (h : ∀ w', w'.heap[b]? = some (.cells cs'.toArray t (0, 0)) → w.grownBy w' (some b) → K (a.put none undef) w') : wpOp P ops Q i K a w := by
  obtain ⟨w', h1, h2, h3⟩ := run_store1 (P := P) (a := a) (o := o) (w := w) ty x y ho b j v hx hy cs t hb hsz hl h1 cs' hc
  exact op_skip hi hd hw h1 (h w' h2 h3)

def Pushed (w : World) (hb base : Nat) (v : Value) (A : Array Nat) (b : Nat) (w' : World) : Prop :=
  ∃ v', Hv w' hb base v' (A.push b) ∧ (v'.ownBlock = v.ownBlock ∨ ∃ q, v'.ownBlock = some q ∧ w.heap.size ≤ q) ∧ Chg (fun q => q = hb ∨ v.ownBlock = some q) w w'

set_option maxHeartbeats 1600000 in
set_option maxRecDepth 1000000 in
theorem push54 (w : World) (hb base b : Nat) (v : Value) (A : Array Nat) (h : Hv w hb base v A) (hn : A.size < 65536) (hbase : base ≤ w.heap.size) :
    Calls Yba.prog 54 #[.pointer (some ⟨hb, 0, none⟩), .iface 25 (pc b)] w fun e w' => e = .returned (.tuple #[]) ∧ Pushed w hb base v A b w' := by
  have hap := h.apart
  have hlt : hb < w.heap.size := (Array.getElem?_eq_some_iff.1 h.var).1
  go_enter Yba.func54, Yba.ntmps54
  go_upto_region 0 with fail
  refine wp_region_T (fun w' => w'.heap[hb]? = some (.cells [v].toArray 34 (0, 0))) [9] (by kernel_rfl) ?_
  conv => arg 3; whnf
  have hS : { w with drawn := w.drawn + 1 }.heap[hb]? = some (.cells [v].toArray 34 (0, 0)) := h.var
  refine T_take 0 (some 4) (.pointer (some ⟨hb, 0, none⟩)) [9] rfl rfl (by kernel_rfl) (by kernel_rfl) (by kernel_rfl) (by kernel_rfl) (fun _ _ _ h => h) (.inl ⟨by kernel_rfl, fun _ _ => by kernel_rfl⟩) hS ?_
  simp only [Act.put, List.setIfInBounds_toArray, List.set_cons_zero, List.set_cons_succ]
  refine T_take 1 (some 5) (.pointer (some ⟨hb, 0, none⟩)) [9] rfl rfl (by kernel_rfl) (by kernel_rfl) (by kernel_rfl) (by kernel_rfl) (fun _ _ _ h => h) (.inl ⟨by kernel_rfl, fun _ _ => by kernel_rfl⟩) hS ?_
  simp only [Act.put, List.setIfInBounds_toArray, List.set_cons_zero, List.set_cons_succ]
  refine T_take 2 (some 6) (.pointer (some ⟨hb, 0, none⟩)) [9] rfl rfl (by kernel_rfl) (by kernel_rfl) (by kernel_rfl) (by kernel_rfl) (fun _ _ _ h => h) (.inl ⟨by kernel_rfl, fun _ _ => by kernel_rfl⟩) hS ?_
  simp only [Act.put, List.setIfInBounds_toArray, List.set_cons_zero, List.set_cons_succ]
  refine T_take 3 (some 7) v [9] rfl rfl (by kernel_rfl) (by kernel_rfl) (by kernel_rfl) (by kernel_rfl) (fun _ _ _ h => h) (yld_cell (by kernel_rfl) 34 (.tmp 6) rfl hb 0 (by kernel_rfl) [v] 34 (fun _ h => h) _ Yba.underlying34 rfl v rfl) hS ?_
  simp only [Act.put, List.setIfInBounds_toArray, List.set_cons_zero, List.set_cons_succ]
  refine T_take 4 (some 8) (.iface 25 (pc b)) [9] rfl rfl (by kernel_rfl) (by kernel_rfl) (by kernel_rfl) (by kernel_rfl) (fun _ _ _ h => h) (.inl ⟨by kernel_rfl, fun _ _ => by kernel_rfl⟩) hS ?_
  simp only [Act.put, List.setIfInBounds_toArray, List.set_cons_zero, List.set_cons_succ]
  refine T_take 5 (some 9) (pc b) [9] rfl rfl (by kernel_rfl) (by kernel_rfl) (by kernel_rfl) (by kernel_rfl) (fun _ _ _ h => h) (.inl ⟨by kernel_rfl, fun _ _ => by kernel_rfl⟩) hS ?_
  simp only [Act.put, List.setIfInBounds_toArray, List.set_cons_zero, List.set_cons_succ]
  generalize hu : ({ w with drawn := w.drawn + 1 } : World) = u
  have gu : w.grownBy u none := by rw [← hu]; exact grown_drew w
  rw [hu] at hS
  clear hu
  refine T_all [6] (by kernel_rfl) (by simp) (fun k hk => ?_)
  obtain rfl : k = 6 := by simpa using hk
  refine op_value (w' := u.alloc (.cells [pc b].toArray 25)) (some 10) (.slice (some ⟨u.heap.size, 0, none⟩) 1 1) rfl rfl (by kernel_rfl) (by kernel_rfl) ?_
  simp only [Act.put, List.setIfInBounds_toArray, List.set_cons_zero, List.set_cons_succ]
  have gA : u.grownBy (u.alloc (.cells [pc b].toArray 25)) none := World.grownBy_alloc _ _ none
  have hS1 := keep_blk gA hS (by simp)
  refine ⟨fun _ => hS1, ?_⟩
  have ho1 : (u.alloc (.cells [pc b].toArray 25)).ownsRow base 25 1 v A.size (A.toList.map pc) := own_kept (own_kept h.own gu (by simp)) gA (by simp)
  have hnew : (u.alloc (.cells [pc b].toArray 25)).heap[u.heap.size]? = some (.cells [pc b].toArray 25 (0, 0)) := blk_new _ _ _ _ rfl
  obtain ⟨i0, hi, hz, hsz, hby⟩ := info_parts info25
  have hr0 := range_of_blk hnew
  have hus := gu.size
  obtain ⟨v', w', hrun, h2, h3, h4, h5⟩ := run_append_own_at (P := Yba.prog) (u.alloc (.cells [pc b].toArray 25)) base 34 34 25 i0 _ 1 8 Yba.underlying34 hi hz hsz hby rfl (by omega) v A.size _ ho1 ⟨u.heap.size, 0, none⟩ 1 1 [pc b] rfl (fun j x hx => by rw [Addr.add_mid]; exact hr0 j x hx) (by intro x hx; simp at hx; subst hx; rfl) (by simp [maxLen]; omega) (by omega) (by simp; omega)
  generalize hx : u.alloc (.cells [pc b].toArray 25) = u1 at *
  have hS2 : w'.heap[hb]? = some (.cells [v].toArray 34 (0, 0)) := keep_blk h3 hS1 (fun e => hap e.symm)
  refine T_all [7] (by kernel_rfl) (by simp) (fun k hk => ?_)
  obtain rfl : k = 7 := by simpa using hk
  refine op_value (w' := w') (some 11) v' rfl rfl (by kernel_rfl) (exec_append34 (.tmp 7) (.tmp 10) rfl (by kernel_rfl) (by kernel_rfl) hrun) ?_
  simp only [Act.put, List.setIfInBounds_toArray, List.set_cons_zero, List.set_cons_succ]
  refine ⟨fun _ => hS2, ?_⟩
  refine T_take 8 (some 12) (.pointer (some ⟨hb, 0, none⟩)) [9] rfl rfl (by kernel_rfl) (by kernel_rfl) (by kernel_rfl) (by kernel_rfl) (fun _ _ _ h => h) (.inl ⟨by kernel_rfl, fun _ _ => by kernel_rfl⟩) hS2 ?_
  simp only [Act.put, List.setIfInBounds_toArray, List.set_cons_zero, List.set_cons_succ]
  refine T_all [9] (by kernel_rfl) (by simp) (fun k hk => ?_)
  obtain rfl : k = 9 := by simpa using hk
  refine op_store1 rfl rfl (by kernel_rfl) 34 (.tmp 12) (.tmp 11) rfl hb 0 v' (by kernel_rfl) (by kernel_rfl) [v] 34 hS2 (by kernel_rfl) (by simp) (by obtain ⟨a, c, e, _⟩ := own_form h2; rw [e]; rfl) [v'] rfl (fun w2 hb2 hg2 => ?_)
  simp only [Act.put]
  refine ⟨fun h => absurd (by simp) h, ?_⟩
  refine T_done (by kernel_rfl) ?_
  have gU1 : u1.grownBy w' v.ownBlock := h3
  have hu1 : u.heap.size ≤ u1.heap.size := gA.size
  have hvA : v'.ownBlock ≠ some hb := by
    rcases h5 with e | e
    · rw [e]; exact hap
    · rw [e]; intro e'; cases e'; omega
  go_end0
  refine ⟨rfl, v', ⟨hb2, ?_⟩, ?_, ?_⟩
  · have := own_kept h2 hg2 (fun q hq e => hvA (by rw [hq, e]))
    simpa using this
  · rcases h5 with e | e
    · exact .inl e
    · exact .inr ⟨_, e, by omega⟩
  · have c1 : Chg (fun q => q = hb ∨ v.ownBlock = some q) w u1 := (Chg.of gu (by simp)).trans (S' := fun _ => False) (Chg.of gA (by simp)) (by simp)
    have c2 := c1.trans (S' := fun q => v.ownBlock = some q) (Chg.of gU1 (fun q e => .inl e)) (fun q e => .inl (.inr e))
    exact c2.trans (S' := fun q => q = hb) (Chg.of hg2 (fun q e => .inl (by cases e; rfl))) (fun q e => .inl (.inl e))
end Go.Proofs.Ybulkdsqs
