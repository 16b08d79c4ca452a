/-
  LawS5973CWhole: the walk of (*fragments).open.
-/
import Derived.Test.YbulkdsrgCSt
import Derived.Laws.Cover3
namespace Go.Proofs.Ybulkdsrg
open Go.RowKit
set_option linter.unusedSimpArgs false
set_option linter.unusedVariables false

theorem fc0 (m o n : Option Nat) : (fc m o n)[0]? = some (.map m) := rfl
theorem fc1 (m o n : Option Nat) : (fc m o n)[1]? = some (vp o) := rfl
theorem fc2 (m o n : Option Nat) : (fc m o n)[2]? = some (vp n) := rfl
theorem fcs0 (m o n : Option Nat) (b : Option Nat) : (fc m o n).set 0 (.map b) = fc b o n := rfl
theorem fcs1 (m o n : Option Nat) (b : Option Nat) : (fc m o n).set 1 (vp b) = fc m b n := rfl
theorem fcs2 (m o n : Option Nat) (b : Option Nat) : (fc m o n).set 2 (vp b) = fc m o b := rfl
theorem fcl (m o n : Option Nat) : (fc m o n).length = 3 := rfl
theorem neq27 (o : Option Nat) (w : World) : (binOp .neq 27 (vp o) (.pointer none)).run Yba.prog w = .ok (.bool o.isSome) w := by
  simp only [binOp]
  have h : ∀ d : Nat, (Op.equalIn (d + 1) 27 (vp o) (.pointer none)).run Yba.prog w = .ok o.isNone w := fun d => by cases o <;> simp [Op.equalIn, vp, run_underlying Yba.underlying27]
  cases o <;> simp [Op.equal, Op.maxDepth, h 9999]
theorem eql26 (m : Option Nat) (w : World) : (binOp .eql 26 (.map m) (.map none)).run Yba.prog w = .ok (.bool m.isNone) w := by
  simp only [binOp]
  simp [run_equal_map_nil w 26 _ _ m Yba.underlying26]

section
variable {P : Program}
theorem wpList_makeMap {ops : Array Oper} {rest : List Oper} {op : Oper} {a : Act} {w : World} {Q : Exit → Act → World → Prop} (hgd : op.guard = none) (ty : TypeId) (ho : op.op = .makeMap ty none)
    (h : wpList P ops Q rest (a.put op.dst (.map (some w.heap.size))) (w.alloc (.map #[] 0))) : wpList P ops Q (op :: rest) a w := by
  refine wpList_plain hgd fun K hK => ?_
  have hr := run_makeMap (P := P) ty w
  unfold Oper.wp execOp
  simp only [ho, Option.map_none, Sem.run_bind, hr, Result.andThen_ok, Sem.run_pure]
  exact hK _ _ h

variable {ops : Array Oper} {S : World → Prop} {op : Oper} {a : Act}
theorem yld_cell (hw : Region.wanted op (yielded ops a.tmps) = true) (ty : TypeId) (x : Operand) (ho : op.op = .load ty x)
    (b i : Nat) (hx : a.eval x = .pointer (some ⟨b, i, none⟩)) (cs : List Value) (t : TypeId) (hb : ∀ w, S w → w.heap[b]? = some (.cells cs.toArray t (0, 0))) (d : TypeDesc) (hu : P.underlying ty = some d) (hd : d.isRow = false) (v : Value) (hv : cs[i]? = some v) : YieldsIf P ops S op v a :=
  .inl ⟨hw, fun w hS => by
    unfold execOp
    simp only [ho, hx, Instr.loadAt, Instr.sureAddr, Sem.run_bind, Sem.run_pure, Result.andThen_ok, run_load_cell (hb w hS) hu hd hv]⟩
theorem yld_blk (hw : Region.wanted op (yielded ops a.tmps) = true) (ty : TypeId) (x : Operand) (ho : op.op = .load ty x)
    (b : Nat) (hx : a.eval x = .pointer (some ⟨b, 0, none⟩)) (cs : List Value) (t : TypeId) (hb : ∀ w, S w → w.heap[b]? = some (.cells cs.toArray t (0, 0))) (d : TypeDesc) (hu : P.underlying ty = some d) (hd : d.isRow = true) (hi : (P.info? ty).map (·.size) = some cs.length) : YieldsIf P ops S op (.agg cs.toArray) a :=
  yieldsIf_load_mid hw ty x ho b 0 hx cs d (fun w hS => range_of_blk (hb w hS)) hu hd hi

variable {md : Region.Mode} {Q : Exit → Act → World → Prop}
/-- An operation may be taken first. -/
theorem any_take (i : Nat) (d : Option Tmp) (v : Value) {oi : Oper} {fuel : Nat} {listed : Array Bool} {w : World} (hi : ops[i]? = some oi) (hd : oi.dst = d)
    (hs : Region.noSelect ops = true) (hf : Region.free md ops listed i = true) (hr : (Region.ready md ops listed).contains i = true)
    (hQ : ∀ c a w, Q (.panic c) (a.put oi.dst v) w → Q (.panic c) a w) (hy : YieldsIf P ops S oi v a) (hS : S w)
    (h : wpAnyH P md ops Q S fuel (listed.setIfInBounds i true) (a.put d v) w) : wpAnyH P md ops Q S (fuel + 1) listed a w := by
  subst hd
  exact wpAnyH_take hi hs hf hr hQ hy hS h
/-- One operation alone may come up: it yields a value. -/
theorem any_one (i : Nat) (d : Option Tmp) (v : Value) (w' : World) {fuel : Nat} {o : Oper} {listed : Array Bool} {w : World} (hi : ops[i]? = some o) (hd : o.dst = d) (hr : Region.ready md ops listed = [i]) (hw : Region.wanted o (yielded ops a.tmps) = true)
    (hrun : (execOp a.eval o).run P w = .ok (.value v) w') (hS' : S w') (h : wpAnyH P md ops Q S fuel (listed.setIfInBounds i true) (a.put d v) w') : wpAnyH P md ops Q S (fuel + 1) listed a w := by
  subst hd
  exact wpAnyH_all hr (by simp) (fun j hj => by
    have e : j = i := by simpa using hj
    subst e
    unfold wpOp
    simp only [hi, hw, if_true, Oper.wp, hrun, Oper.upon]
    exact .inl ⟨hS', h⟩)
/-- One operation alone may come up: it yields nothing. -/
theorem any_skip (i : Nat) (w' : World) {fuel : Nat} {o : Oper} {listed : Array Bool} {w : World} (hi : ops[i]? = some o) (hr : Region.ready md ops listed = [i]) (hw : Region.wanted o (yielded ops a.tmps) = true)
    (hrun : (execOp a.eval o).run P w = .ok .skip w') (hS' : S w') (h : wpAnyH P md ops Q S fuel (listed.setIfInBounds i true) (a.put o.dst undef) w') : wpAnyH P md ops Q S (fuel + 1) listed a w :=
  wpAnyH_all hr (by simp) (fun j hj => by
    have e : j = i := by simpa using hj
    subst e
    unfold wpOp
    simp only [hi, hw, if_true, Oper.wp, hrun, Oper.upon]
    exact .inl ⟨hS', h⟩)
end

theorem yld_build60 {ops : Array Oper} {S : World → Prop} {op : Oper} {a : Act} (hw : Region.wanted op (yielded ops a.tmps) = true) (x0 x1 x2 : Operand) (ho : op.op = .build 60 #[(0, x0), (9, x1), (10, x2)]) (k : Ky) (x t : Int) (p : Option Nat)
    (e0 : a.eval x0 = .agg (kc k x).toArray) (e1 : a.eval x1 = .int .i64 t) (e2 : a.eval x2 = vp p) : YieldsIf Yba.prog ops S op (.agg (dc k x t p none).toArray) a :=
  .inl ⟨hw, fun w hS => by
    unfold execOp
    simp only [ho, List.map_toArray, List.map_cons, List.map_nil, e0, e1, e2, Sem.run_bind, build60, Result.andThen_ok, Sem.run_pure]⟩

/-- The map is made where there is none. -/
theorem St.made {w : World} {k : Ky} {lo hi f : Nat} {L : List Nd} {D : DataW Unit} {n : Nat} (h : St w k lo hi f L none D n) {w' : World} (hw : w.heap.size < w'.heap.size) (hhi : hi ≤ w.heap.size) (hf : w'.heap[f]? = some (.cells (fc (some w.heap.size) (hd L) (lt L)).toArray 29 (0, 0)))
    (hm : w'.heap[w.heap.size]? = some (.map #[] 0)) : St w' k lo w'.heap.size f L (some w.heap.size) D n := by
  have hlo := h.fr
  rcases h.map with ⟨_, rfl, rfl⟩ | ⟨mb, e, _⟩
  · refine ⟨hf, ⟨hlo.1, by omega⟩, fun i nd e => by simp at e, fun i nd e => by simp at e, fun i j a c e => by simp at e, .inr ⟨_, rfl, by omega, hw, ?_⟩⟩
    exact ⟨#[], 0, hm, ⟨by simp, MapKept.stamped_empty 0, by simp⟩, by simp, rfl⟩
  · cases e

set_option maxHeartbeats 400000 in
theorem open_any {k : Ky} (hk : k.Wf) {x : Int} (t : Int) (hx : (Lit.int .u32 x).wf = true) {w : World} {lo hi f : Nat} {L : List Nd} {m : Option Nat} {D : DataW Unit} {n : Nat} (h : St w k lo hi f L m D n) (hhi : hi ≤ w.heap.size) (hn : n < maxLen) :
    Calls Yba.prog 4 #[.pointer (some ⟨f, 0, none⟩), .agg (kc k x).toArray, .int .i64 t] w fun e w' => ∃ b mb, e = .returned (vp (some b)) ∧ w.heap.size ≤ b ∧ (∀ q, m = some q → mb = q) ∧
      St w' k lo w'.heap.size f (L ++ [⟨b, x, t⟩]) (some mb) (D.put (kl k x) (vd (some b))) (n + 1) ∧ Out lo hi w w' := by
  go_enter Yba.func4, Yba.ntmps4
  have hfs := h.fs
  have hfr := h.fr
  have heq := eql26 m
  go_upto_if 12 with (refine wpList_load_cell rfl 26 (.tmp 10) rfl f 0 rfl _ _ (blk_alloc hfs _) _ Yba.underlying26 rfl _ (fc0 _ _ _) ?_)
  go_cut [] (fun wx => ∃ mb, ((∀ q, m = some q → mb = q) ∧ (m = none → w.heap.size ≤ mb)) ∧ St wx k lo wx.heap.size f L (some mb) D n ∧ wx.heap[w.heap.size]? = some (.cells (kc k x).toArray 34 (0, 0)) ∧ Out lo hi w wx)
  case first =>
    have hbox : (w.alloc (Obj.cells (kc k x).toArray 34)).heap[w.heap.size]? = some (.cells (kc k x).toArray 34 (0, 0)) := heap_alloc_new w _
    cases m with
    | none =>
      go_wp2_with (first | (refine wpList_makeMap rfl 26 rfl ?_) | (refine wpList_store_cell rfl 26 (.tmp 16) (.tmp 14) rfl f 0 (.map (some (w.heap.size + 1))) rfl rfl _ _ (blk_alloc (blk_alloc hfs _) _) size26 (by rw [fcl]; omega) rfl _ (fcs0 _ _ _ _) ?_; intro w1 hb1 hg1))
      go_meet
      case rel =>
        have hfw : f ≠ w.heap.size := by omega
        have h1 : St (w.alloc (Obj.cells (kc k x).toArray 34)) k lo hi f L none D n := h.out (fun q _ hq => Below.heap_alloc _ _ _ (by omega)) (Nat.le_refl _) hhi
        have hs1 : (w.alloc (Obj.cells (kc k x).toArray 34)).heap.size = w.heap.size + 1 := by simp
        have hs2 : ((w.alloc (Obj.cells (kc k x).toArray 34)).alloc (.map #[] 0)).heap.size = w.heap.size + 2 := by simp
        have hs3 := hg1.size
        have hm1 : w1.heap[w.heap.size + 1]? = some (.map #[] 0) := keep_blk hg1 (by have := heap_alloc_new (w.alloc (Obj.cells (kc k x).toArray 34)) (.map #[] 0); rwa [hs1] at this) (by simp; omega)
        refine ⟨w.heap.size + 1, ⟨by simp, by simp⟩, ?_, keep_blk hg1 (blk_alloc hbox _) (by simpa using fun e => hfw e.symm), ?_⟩
        · have := h1.made (w' := w1) (by omega) (by omega) (by rw [hs1]; exact hb1) (by rw [hs1]; exact hm1)
          rwa [hs1] at this
        · exact (((Out.refl lo hi w).step (World.grownBy_alloc _ _ none) (by simp)).step (World.grownBy_alloc _ _ none) (by simp)).step hg1 (fun q e => by cases e; omega)
    | some mb =>
      go_wp2_with fail
      go_meet
      case rel =>
        exact ⟨mb, ⟨by simp, by simp⟩, h.out (fun q _ hq => Below.heap_alloc _ _ _ (by omega)) (by simp; omega) hhi, hbox, (Out.refl lo hi w).step (World.grownBy_alloc _ _ none) (by simp)⟩
  case rest =>
    obtain ⟨mb, ⟨hmb, hmbn⟩, hst, hbx, hout⟩ := hcut
    go_upto_region 3 with fail
    have hS : (fun w' : World => w'.heap[f]? = some (.cells (fc (some mb) (hd L) (lt L)).toArray 29 (0, 0)) ∧ w'.heap[w.heap.size]? = some (.cells (kc k x).toArray 34 (0, 0))) { wc with drawn := wc.drawn + 1 } := ⟨hst.fs, hbx⟩
    refine wp_region_held (S := fun w' : World => w'.heap[f]? = some (.cells (fc (some mb) (hd L) (lt L)).toArray 29 (0, 0)) ∧ w'.heap[w.heap.size]? = some (.cells (kc k x).toArray 34 (0, 0))) (by kernel_rfl) ?_
    refine any_take 0 (some 17) (.agg (kc k x).toArray) rfl rfl (by kernel_rfl) (by kernel_rfl) (by kernel_rfl) (fun _ _ _ h => h) (yld_blk (by kernel_rfl) 34 (.tmp 4) rfl w.heap.size rfl (kc k x) 34 (fun _ h => h.2) _ Yba.underlying34 rfl (size34 k x)) (by assumption) ?_
    simp only [Act.put, List.setIfInBounds_toArray, List.set_cons_zero, List.set_cons_succ]
    refine any_take 1 (some 18) (.int .i64 t) rfl rfl (by kernel_rfl) (by kernel_rfl) (by kernel_rfl) (fun _ _ _ h => h) (.inl ⟨by kernel_rfl, fun _ _ => by kernel_rfl⟩) (by assumption) ?_
    simp only [Act.put, List.setIfInBounds_toArray, List.set_cons_zero, List.set_cons_succ]
    refine any_take 2 (some 19) (.pointer (some ⟨f, 0, none⟩)) rfl rfl (by kernel_rfl) (by kernel_rfl) (by kernel_rfl) (fun _ _ _ h => h) (.inl ⟨by kernel_rfl, fun _ _ => by kernel_rfl⟩) (by assumption) ?_
    simp only [Act.put, List.setIfInBounds_toArray, List.set_cons_zero, List.set_cons_succ]
    refine any_take 3 (some 20) (.pointer (some ⟨f, 0, none⟩)) rfl rfl (by kernel_rfl) (by kernel_rfl) (by kernel_rfl) (fun _ _ _ h => h) (.inl ⟨by kernel_rfl, fun _ _ => by kernel_rfl⟩) (by assumption) ?_
    simp only [Act.put, List.setIfInBounds_toArray, List.set_cons_zero, List.set_cons_succ]
    refine any_take 4 (some 21) (.pointer (some ⟨f, 2, none⟩)) rfl rfl (by kernel_rfl) (by kernel_rfl) (by kernel_rfl) (fun _ _ _ h => h) (.inl ⟨by kernel_rfl, fun _ _ => by kernel_rfl⟩) (by assumption) ?_
    simp only [Act.put, List.setIfInBounds_toArray, List.set_cons_zero, List.set_cons_succ]
    refine any_take 5 (some 22) (vp (lt L)) rfl rfl (by kernel_rfl) (by kernel_rfl) (by kernel_rfl) (fun _ _ _ h => h) (yld_cell (by kernel_rfl) 27 (.tmp 21) rfl f 2 rfl _ 29 (fun _ h => h.1) _ Yba.underlying27 rfl _ (fc2 _ _ _)) (by assumption) ?_
    simp only [Act.put, List.setIfInBounds_toArray, List.set_cons_zero, List.set_cons_succ]
    refine any_take 6 (some 23) (.agg (dc k x t (lt L) none).toArray) rfl rfl (by kernel_rfl) (by kernel_rfl) (by kernel_rfl) (fun _ _ _ h => h) (yld_build60 (by kernel_rfl) _ _ _ rfl k x t (lt L) rfl rfl rfl) (by assumption) ?_
    simp only [Act.put, List.setIfInBounds_toArray, List.set_cons_zero, List.set_cons_succ]
    refine any_one 7 (some 24) (.pointer (some ⟨wc.heap.size, 0, none⟩)) ({ wc with drawn := wc.drawn + 1 }.alloc (.cells (dc k x t (lt L) none).toArray 60)) rfl rfl (by kernel_rfl) (by kernel_rfl) (by kernel_rfl) ⟨blk_alloc hS.1 _, blk_alloc hS.2 _⟩ ?_
    simp only [Act.put, List.setIfInBounds_toArray, List.set_cons_zero, List.set_cons_succ]
    have hg2 : wc.grownBy ({ wc with drawn := wc.drawn + 1 }.alloc (.cells (dc k x t (lt L) none).toArray 60)) none := by
      have q := World.grownBy_alloc { wc with drawn := wc.drawn + 1 } (.cells (dc k x t (lt L) none).toArray 60) none
      exact ⟨q.os, q.tape, q.output, q.size, q.block⟩
    have hn2 : ({ wc with drawn := wc.drawn + 1 }.alloc (.cells (dc k x t (lt L) none).toArray 60)).heap[wc.heap.size]? = some (.cells (dc k x t (lt L) none).toArray 60 (0, 0)) := heap_alloc_new { wc with drawn := wc.drawn + 1 } _
    have hsz2 : ({ wc with drawn := wc.drawn + 1 }.alloc (.cells (dc k x t (lt L) none).toArray 60)).heap.size = wc.heap.size + 1 := by simp
    have hS2 : ({ wc with drawn := wc.drawn + 1 }.alloc (.cells (dc k x t (lt L) none).toArray 60)).heap[f]? = some (.cells (fc (some mb) (hd L) (lt L)).toArray 29 (0, 0)) ∧ ({ wc with drawn := wc.drawn + 1 }.alloc (.cells (dc k x t (lt L) none).toArray 60)).heap[w.heap.size]? = some (.cells (kc k x).toArray 34 (0, 0)) := ⟨blk_alloc hS.1 _, blk_alloc hS.2 _⟩
    clear hS
    generalize ({ wc with drawn := wc.drawn + 1 }.alloc (.cells (dc k x t (lt L) none).toArray 60)) = w2 at hg2 hn2 hsz2 hS2 ⊢
    refine any_one 8 (some 7) (.pointer (some ⟨wc.heap.size, 0, none⟩)) w2 rfl rfl (by kernel_rfl) (by kernel_rfl) (by kernel_rfl) hS2 ?_
    simp only [Act.put, List.setIfInBounds_toArray, List.set_cons_zero, List.set_cons_succ]
    refine wpAnyH_done (by kernel_rfl) ?_ _
    go_upto_region 4 with fail
    have hown2 : { w2 with drawn := w2.drawn + 1 }.ownsMap Yba.prog 34 Re mb n D := by
      rcases hst.map with ⟨e, _⟩ | ⟨mb', e, _, _, ho⟩
      · cases e
      · cases e
        exact (ho.kept hg2 (by simp)).drew
    obtain ⟨w4, hrun4, hown4, hg4⟩ := hown2.update keyed Yba.underlying26 hn (kl_key hk hx) (Re_vp (some wc.heap.size))
    have hne4 : f ≠ mb := own_ne hown2 hS2.1
    have hown2' : w2.ownsMap Yba.prog 34 Re mb n D := hown2
    have hS4 : w4.heap[f]? = some (.cells (fc (some mb) (hd L) (lt L)).toArray 29 (0, 0)) ∧ w4.heap[w.heap.size]? = some (.cells (kc k x).toArray 34 (0, 0)) := ⟨keep_blk hg4 (w := { w2 with drawn := w2.drawn + 1 }) hS2.1 (by simpa using hne4), keep_blk hg4 (w := { w2 with drawn := w2.drawn + 1 }) hS2.2 (by simpa using own_ne hown2 hS2.2)⟩
    refine wp_region_held (S := fun w' : World => w'.heap[f]? = some (.cells (fc (some mb) (hd L) (lt L)).toArray 29 (0, 0)) ∧ w'.heap[w.heap.size]? = some (.cells (kc k x).toArray 34 (0, 0))) (by kernel_rfl) ?_
    have hS3 : (fun w' : World => w'.heap[f]? = some (.cells (fc (some mb) (hd L) (lt L)).toArray 29 (0, 0)) ∧ w'.heap[w.heap.size]? = some (.cells (kc k x).toArray 34 (0, 0))) { w2 with drawn := w2.drawn + 1 } := hS2
    refine any_take 0 (some 25) (.pointer (some ⟨f, 0, none⟩)) rfl rfl (by kernel_rfl) (by kernel_rfl) (by kernel_rfl) (fun _ _ _ h => h) (.inl ⟨by kernel_rfl, fun _ _ => by kernel_rfl⟩) (by assumption) ?_
    simp only [Act.put, List.setIfInBounds_toArray, List.set_cons_zero, List.set_cons_succ]
    refine any_take 1 (some 26) (.pointer (some ⟨f, 0, none⟩)) rfl rfl (by kernel_rfl) (by kernel_rfl) (by kernel_rfl) (fun _ _ _ h => h) (.inl ⟨by kernel_rfl, fun _ _ => by kernel_rfl⟩) (by assumption) ?_
    simp only [Act.put, List.setIfInBounds_toArray, List.set_cons_zero, List.set_cons_succ]
    refine any_take 2 (some 27) (.pointer (some ⟨f, 0, none⟩)) rfl rfl (by kernel_rfl) (by kernel_rfl) (by kernel_rfl) (fun _ _ _ h => h) (.inl ⟨by kernel_rfl, fun _ _ => by kernel_rfl⟩) (by assumption) ?_
    simp only [Act.put, List.setIfInBounds_toArray, List.set_cons_zero, List.set_cons_succ]
    refine any_take 3 (some 28) (.map (some mb)) rfl rfl (by kernel_rfl) (by kernel_rfl) (by kernel_rfl) (fun _ _ _ h => h) (yld_cell (by kernel_rfl) 26 (.tmp 27) rfl f 0 rfl _ 29 (fun _ h => h.1) _ Yba.underlying26 rfl _ (fc0 _ _ _)) (by assumption) ?_
    simp only [Act.put, List.setIfInBounds_toArray, List.set_cons_zero, List.set_cons_succ]
    refine any_take 4 (some 29) (.agg (kc k x).toArray) rfl rfl (by kernel_rfl) (by kernel_rfl) (by kernel_rfl) (fun _ _ _ h => h) (yld_blk (by kernel_rfl) 34 (.tmp 4) rfl w.heap.size rfl (kc k x) 34 (fun _ h => h.2) _ Yba.underlying34 rfl (size34 k x)) (by assumption) ?_
    simp only [Act.put, List.setIfInBounds_toArray, List.set_cons_zero, List.set_cons_succ]
    refine any_take 5 (some 30) (vp (some wc.heap.size)) rfl rfl (by kernel_rfl) (by kernel_rfl) (by kernel_rfl) (fun _ _ _ h => h) (.inl ⟨by kernel_rfl, fun _ _ => by kernel_rfl⟩) (by assumption) ?_
    simp only [Act.put, List.setIfInBounds_toArray, List.set_cons_zero, List.set_cons_succ]
    refine any_skip 6 w4 rfl (by kernel_rfl) (by kernel_rfl) ?_ hS4 ?_
    · show (execOp _ { dst := none, op := Op.mapUpdate 26 (.tmp 28) (.tmp 29) (.tmp 30), type := 0, pos := _, after := _, guard := none }).run Yba.prog _ = _
      unfold execOp
      simp only [Sem.run_bind]
      show Result.andThen ((Instr.mapUpdate 26 (.map (some mb)) (.agg (kc k x).toArray) (vp (some wc.heap.size))).run Yba.prog { w2 with drawn := w2.drawn + 1 }) _ = _
      rw [hrun4]
      rfl
    refine wpAnyH_done (by kernel_rfl) ?_ _
    simp only [Act.put]
    clear hS3 hrun4
    have hg24 : w2.grownBy w4 (some mb) := ⟨hg4.os, hg4.tape, hg4.output, hg4.size, hg4.block⟩
    clear hg4
    have hn4 : w4.heap[wc.heap.size]? = some (.cells (dc k x t (lt L) none).toArray 60 (0, 0)) := keep_blk hg24 hn2 (by simpa using own_ne hown2 hn2)
    have hwsz : w.heap.size ≤ wc.heap.size := hout.size
    have hsz4 := hg24.size
    have hmbr : lo ≤ mb ∧ mb < wc.heap.size := by
      rcases hst.map with ⟨e, _⟩ | ⟨mb', e, h1, h2, _⟩
      · cases e
      · cases e; exact ⟨h1, h2⟩
    have hmbr' : mb < hi ∨ w.heap.size ≤ mb := by
      cases hm : m with
      | none => exact .inr (hmbn hm)
      | some q =>
        have := hmb q hm
        rcases h.map with ⟨e, _⟩ | ⟨q', e, _, h2, _⟩
        · rw [hm] at e; cases e
        · rw [hm] at e; cases e; omega
    have hout4 : Out lo hi w w4 := (hout.step hg2 (by simp)).step hg24 (fun q e => by cases e; omega)
    by_cases hL : L = []
    · subst hL
      go_wp2_with (first
        | (refine wpList_load_cell rfl 27 (.tmp 33) rfl f 2 rfl _ _ hS4.1 _ Yba.underlying27 rfl (.pointer none) (fc2 _ _ _) ?_)
        | (refine wpList_store_cell rfl 27 (.tmp 46) (.tmp 44) rfl f 1 (vp (some wc.heap.size)) rfl rfl _ _ hS4.1 size27 (by rw [fcl]; omega) rfl _ (fcs1 _ _ _ _) ?_; intro w5 hb5 hg5)
        | (refine wpList_store_cell rfl 27 (.tmp 50) (.tmp 48) rfl f 2 (vp (some wc.heap.size)) rfl rfl _ _ hb5 size27 (by rw [fcl]; omega) rfl _ (fcs2 _ _ _ _) ?_; intro w6 hb6 hg6))
      have hs5 := hg5.size
      have hs6 := hg6.size
      refine bodyPost_ret (v := vp (some wc.heap.size)) (by kernel_rfl) rfl ⟨wc.heap.size, mb, rfl, hwsz, hmb, ?_, (hout4.step hg5 (fun q e => by cases e; omega)).step hg6 (fun q e => by cases e; omega)⟩
      refine hst.opened hx (Nat.le_refl _) (by omega) (by simpa using hb6) (keep_blk hg6 (keep_blk hg5 hn4 (by simp; omega)) (by simp; omega)) (fun nd e => by simp at e) (fun i nd e => by simp at e) ⟨hmbr.1, by omega⟩ ((hown4.kept hg5 (by simpa using Ne.symm hne4)).kept hg6 (by simpa using Ne.symm hne4))
    · obtain ⟨nd, hnd, hlt⟩ := lt_some hL
      have hnd4 : w4.heap[nd.b]? = some (.cells (dc k nd.x nd.t (pv L (L.length - 1)) none).toArray 60 (0, 0)) := by
        have hl := hst.node _ nd hnd
        have : 0 < L.length := List.length_pos_iff.2 hL
        have e : nx L (L.length - 1) = none := by simp [nx, show L.length - 1 + 1 = L.length by omega]
        rw [e] at hl
        exact keep_blk hg24 (keep_blk hg2 hl (by simp)) (fun e' => own_ne hown2' (keep_blk hg2 hl (by simp)) (Option.some.inj e'))
      have hndr := h.nr _ nd hnd
      have hfnd : f ≠ nd.b := h.fs_node hnd
      go_wp2_with (first
        | (refine wpList_load_cell rfl 27 (.tmp 33) rfl f 2 rfl _ _ hS4.1 _ Yba.underlying27 rfl (.pointer (some ⟨nd.b, 0, none⟩)) (by rw [fc2, hlt]; rfl) ?_)
        | (refine wpList_load_cell rfl 27 (.tmp 38) rfl f 2 rfl _ _ hS4.1 _ Yba.underlying27 rfl (.pointer (some ⟨nd.b, 0, none⟩)) (by rw [fc2, hlt]; rfl) ?_)
        | (refine wpList_store_cell rfl 27 (.tmp 42) (.tmp 40) rfl nd.b 85 (vp (some wc.heap.size)) rfl rfl _ _ hnd4 size27 (by rw [dc_len]; omega) rfl _ (dcs85 _ _ _ _ _ _) ?_; intro w5 hb5 hg5)
        | (refine wpList_store_cell rfl 27 (.tmp 50) (.tmp 48) rfl f 2 (vp (some wc.heap.size)) rfl rfl _ _ (keep_blk hg5 hS4.1 (by simpa using hfnd)) size27 (by rw [fcl]; omega) rfl _ (fcs2 _ _ _ _) ?_; intro w6 hb6 hg6))
      have hs5 := hg5.size
      have hs6 := hg6.size
      have hmf : some mb ≠ some f := by simpa using Ne.symm hne4
      have hmn : some mb ≠ some nd.b := fun e => own_ne hown4 hnd4 (Option.some.inj e).symm
      refine bodyPost_ret (v := vp (some wc.heap.size)) (by kernel_rfl) rfl ⟨wc.heap.size, mb, rfl, hwsz, hmb, ?_, (hout4.step hg5 (fun q e => by cases e; omega)).step hg6 (fun q e => by cases e; omega)⟩
      refine hst.opened hx (Nat.le_refl _) (by omega) (by simpa [hL] using hb6) (keep_blk hg6 (keep_blk hg5 hn4 (by simp; omega)) (by simp; omega)) (fun nd' e => ?_) (fun i a e hi' => ?_) ⟨hmbr.1, by omega⟩ ((hown4.kept hg5 hmn).kept hg6 hmf)
      · rw [hnd] at e
        cases e
        exact keep_blk hg6 hb5 (by simpa using Ne.symm hfnd)
      · have hr := hst.nr i a e
        have hq2 : w2.heap[a.b]? = wc.heap[a.b]? := hg2.block _ (by omega) (by simp)
        have hq4 : w4.heap[a.b]? = w2.heap[a.b]? := hg24.block _ (by omega) (fun e' => own_ne hown2' (keep_blk hg2 (hst.node i a e) (by simp)) (Option.some.inj e'))
        have hq5 : w5.heap[a.b]? = w4.heap[a.b]? := hg5.block _ (by omega) (fun e' => by have := hst.dif i _ a nd e hnd (Option.some.inj e'); omega)
        have hq6 : w6.heap[a.b]? = w5.heap[a.b]? := hg6.block _ (by omega) (fun e' => hst.fs_node e (Option.some.inj e').symm)
        rw [hq6, hq5, hq4, hq2]

end Go.Proofs.Ybulkdsrg
