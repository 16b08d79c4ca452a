/-
  LawS5972COrder: a drawn region whose last operations write what its first ones read.
-/
import Derived.Test.YbulkdsqsOSort0
namespace Go.Proofs.Ybulkdsqs
open Go.RowKit
set_option linter.unusedSimpArgs false
set_option linter.unusedVariables false

section
variable {P : Program} {ops : Array Oper} {Q : Exit → Act → World → Prop} {md : Region.Mode} {S : World → Prop} {D : List Nat}

/-- Whatever order is picked from here on, and S holds behind every operation but those of D. -/
def wpAnyT (P : Program) (md : Region.Mode) (ops : Array Oper) (Q : Exit → Act → World → Prop) (S : World → Prop) (D : List Nat) : Nat → Array Bool → Act → World → Prop
  | 0, listed, a, w => Region.ready md ops listed = [] ∧ Q .normal a w
  | fuel + 1, listed, a, w =>
    (Region.ready md ops listed = [] → Q .normal a w) ∧
    ∀ i ∈ Region.ready md ops listed, wpOp P ops Q i (fun a' w' => (i ∉ D → S w') ∧ wpAnyT P md ops Q S D fuel (listed.setIfInBounds i true) a' w') a w

theorem wpAny_of_T : ∀ (fuel : Nat) (listed : Array Bool) (a : Act) (w : World), wpAnyT P md ops Q S D fuel listed a w → wpAny P md ops Q fuel listed a w
  | 0, _, _, _, h => h
  | fuel + 1, _, _, _, h => ⟨h.1, fun i hi => wpOp_mono (fun a' w' h' => wpAny_of_T fuel _ a' w' h'.2) (h.2 i hi)⟩

theorem wp_region_T {id : Nat} {a : Act} {w : World} (S : World → Prop) (D : List Nat) (hm : P.follows .mixedOrders = true)
    (h : wpAnyT P .any ops Q S D ops.size (Array.replicate ops.size false) a { w with drawn := w.drawn + 1 }) : (Code.region id ops true).wp P Q a w :=
  wp_region_any hm (wpAny_of_T _ _ _ _ h)

/-- An operation that is not of D may be taken first where D waits for it (through E). -/
theorem wpAnyT_first {i : Nat} {oi : Oper} {v : Value} {U : World → Prop} (E : List Nat) (hi : ops[i]? = some oi) (hsel : ∀ (j : Nat) (o : Oper) cs b, ops[j]? = some o → o.op ≠ .select cs b)
    (hQ : ∀ c a w, Q (.panic c) (a.put oi.dst v) w → Q (.panic c) a w) (hUS : ∀ w, S w → U w) (hiU : ∀ w, U w → i ∉ D → S w) (hUall : (∀ w, U w) ∨ True) :
    ∀ (fuel : Nat) (listed : Array Bool) (a : Act) (w : World),
      (∀ j oj, ops[j]? = some oj → j ≠ i → listed.getD j true = false → (∀ e ∈ oj.after, Region.binds md e = true → e.on ≠ i) → oi.apart ops oj = true) →
      i ∈ Region.ready md ops listed → (∀ k ∈ E, listed.getD k true = false ∧ ∃ ok, ops[k]? = some ok ∧ ∃ e ∈ ok.after, Region.binds md e = true ∧ (e.on = i ∨ e.on ∈ E)) →
      ((∀ w, U w) ∨ ∀ j ∈ D, listed.getD j true = false → j ∈ E) → YieldsIf P ops U oi v a → U w →
      wpAnyT P md ops Q S D fuel (listed.setIfInBounds i true) (a.put oi.dst v) w → wpAnyT P md ops Q S D (fuel + 1) listed a w := by
  intro fuel
  induction fuel with
  | zero =>
    intro listed a w _ hr _ _ hy hS H
    refine ⟨fun h => (by rw [h] at hr; cases hr), fun j hj => ?_⟩
    by_cases hji : j = i
    · subst hji; exact hy.wpOp hi hS ⟨hiU w hS, H⟩
    · have := ready_mono hj hji
      rw [H.1] at this
      cases this
  | succ fuel ih =>
    intro listed a w hfree hr hE hD hy hS H
    refine ⟨fun h => (by rw [h] at hr; cases hr), fun j hj => ?_⟩
    by_cases hji : j = i
    · subst hji; exact hy.wpOp hi hS ⟨hiU w hS, H⟩
    · have h1 := H.2 j (ready_mono hj hji)
      obtain ⟨hjun, oj, hoj, hall⟩ := mem_ready.1 hj
      have hiun := (mem_ready.1 hr).1
      have hun : ∀ k, listed.getD k true = false → listed.getD k false = true → False := fun k h0 h1 => by
        rcases Nat.lt_or_ge k listed.size with h' | h'
        · simp [h'] at h0 h1; rw [h0] at h1; cases h1
        · simp [Array.getElem?_eq_none h'] at h1
      have hnot : ∀ e ∈ oj.after, Region.binds md e = true → e.on ≠ i := fun e he hb heq => by
        have h1 := hall e he hb
        rw [heq] at h1
        exact hun i hiun h1
      have hjE : j ∉ E := fun hjE => by
        obtain ⟨_, ok, hok, e, he, hb, hon⟩ := hE j hjE
        rw [hoj] at hok
        cases hok
        have h1 := hall e he hb
        rcases hon with h | h
        · rw [h] at h1; exact hun i hiun h1
        · exact hun _ (hE _ h).1 h1
      have h2 := wpOp_putIf hoj (hfree j oj hoj hji hjun hnot) (fun cs b => hsel i oi cs b hi) (fun cs b => hsel j oj cs b hoj) hQ hy h1
      have hUj : ∀ w', (j ∉ D → S w') → U w' := fun w' h => by
        rcases hD with hD | hD
        · exact hD w'
        · exact hUS w' (h (fun hjD => hjE (hD j hjD hjun)))
      have hset : ∀ k, (listed.setIfInBounds j true).getD k true = false → listed.getD k true = false := fun k hk => by
        by_cases hjk : j = k
        · subst hjk; exact hjun
        · rwa [getD_set_ne true hjk] at hk
      have hfree' : ∀ k ok, ops[k]? = some ok → k ≠ i → (listed.setIfInBounds j true).getD k true = false →
          (∀ e ∈ ok.after, Region.binds md e = true → e.on ≠ i) → oi.apart ops ok = true := fun k ok hk hki hun hno => hfree k ok hk hki (hset k hun) hno
      have hE' : ∀ k ∈ E, (listed.setIfInBounds j true).getD k true = false ∧ ∃ ok, ops[k]? = some ok ∧ ∃ e ∈ ok.after, Region.binds md e = true ∧ (e.on = i ∨ e.on ∈ E) := fun k hk => by
        refine ⟨?_, (hE k hk).2⟩
        have hne : j ≠ k := fun e => hjE (by rw [e]; exact hk)
        rw [getD_set_ne true hne]
        exact (hE k hk).1
      refine wpOp_mono (fun a' w' h3 => ⟨h3.2.1, ih (listed.setIfInBounds j true) a' w' hfree' (ready_mono hr (Ne.symm hji)) hE' (hD.imp id fun hD k hk hun => hD k hk (hset k hun)) h3.1 (hUj w' h3.2.1) ?_⟩) h2
      rw [Array.setIfInBounds_comm _ _ hji]
      exact h3.2.2

/-- D waits for i (through E): checked by running it. -/
def blocks (md : Region.Mode) (ops : Array Oper) (listed : Array Bool) (D E : List Nat) (i : Nat) : Bool :=
  (E.all fun k => !listed.getD k true && ((ops[k]?).map fun o => o.after.any fun e => Region.binds md e && (e.on == i || E.contains e.on)).getD false) && D.all fun j => listed.getD j true || E.contains j
theorem blocks_spec {listed : Array Bool} {E : List Nat} {i : Nat} (h : blocks md ops listed D E i = true) :
    (∀ k ∈ E, listed.getD k true = false ∧ ∃ ok, ops[k]? = some ok ∧ ∃ e ∈ ok.after, Region.binds md e = true ∧ (e.on = i ∨ e.on ∈ E)) ∧ ∀ j ∈ D, listed.getD j true = false → j ∈ E := by
  simp only [blocks, Bool.and_eq_true, List.all_eq_true] at h
  refine ⟨fun k hk => ?_, fun j hj hl => ?_⟩
  · obtain ⟨h1, h2⟩ := h.1 k hk
    refine ⟨by simpa using h1, ?_⟩
    cases ho : ops[k]? with
    | none => simp [ho] at h2
    | some ok =>
      simp only [ho, Option.map_some, Option.getD_some, Array.any_eq_true', Bool.and_eq_true, Bool.or_eq_true, beq_iff_eq, List.contains_iff_mem] at h2
      obtain ⟨e, he, hb, hc⟩ := h2
      exact ⟨ok, rfl, e, he, hb, hc⟩
  · have := h.2 j hj
    rw [hl] at this
    simpa using this

variable {a : Act}
/-- Taken first: it yields wherever S holds. -/
theorem T_take (i : Nat) (d : Option Tmp) (v : Value) (E : List Nat) {oi : Oper} {fuel : Nat} {listed : Array Bool} {w : World} (hi : ops[i]? = some oi) (hd : oi.dst = d)
    (hs : Region.noSelect ops = true) (hf : Region.free md ops listed i = true) (hr : (Region.ready md ops listed).contains i = true) (hb : blocks md ops listed D E i = true)
    (hQ : ∀ c a w, Q (.panic c) (a.put oi.dst v) w → Q (.panic c) a w) (hy : YieldsIf P ops S oi v a) (hS : S w)
    (h : wpAnyT P md ops Q S D fuel (listed.setIfInBounds i true) (a.put d v) w) : wpAnyT P md ops Q S D (fuel + 1) listed a w := by
  subst hd
  obtain ⟨h1, h2⟩ := blocks_spec hb
  exact wpAnyT_first (U := S) E hi (Region.noSelect_spec hs) hQ (fun _ h => h) (fun _ h _ => h) (.inr trivial) fuel listed a w (Region.free_spec hi hf) (by simpa using hr) h1 (.inr h2) hy hS h
/-- Taken first, one of D: it yields in whatever world. -/
theorem T_pure (i : Nat) (d : Option Tmp) (v : Value) {oi : Oper} {fuel : Nat} {listed : Array Bool} {w : World} (hi : ops[i]? = some oi) (hd : oi.dst = d) (hiD : i ∈ D)
    (hs : Region.noSelect ops = true) (hf : Region.free md ops listed i = true) (hr : (Region.ready md ops listed).contains i = true)
    (hQ : ∀ c a w, Q (.panic c) (a.put oi.dst v) w → Q (.panic c) a w) (hy : YieldsIf P ops (fun _ => True) oi v a)
    (h : wpAnyT P md ops Q S D fuel (listed.setIfInBounds i true) (a.put d v) w) : wpAnyT P md ops Q S D (fuel + 1) listed a w := by
  subst hd
  exact wpAnyT_first (U := fun _ => True) [] hi (Region.noSelect_spec hs) hQ (fun _ _ => trivial) (fun _ _ hn => absurd hiD hn) (.inr trivial) fuel listed a w (Region.free_spec hi hf) (by simpa using hr) (by simp) (.inl fun _ => trivial) hy trivial h
/-- Whichever comes up. -/
theorem T_all (rs : List Nat) {fuel : Nat} {listed : Array Bool} {w : World} (hr : Region.ready md ops listed = rs) (hne : rs ≠ [])
    (h : ∀ i ∈ rs, wpOp P ops Q i (fun a' w' => (i ∉ D → S w') ∧ wpAnyT P md ops Q S D fuel (listed.setIfInBounds i true) a' w') a w) : wpAnyT P md ops Q S D (fuel + 1) listed a w :=
  ⟨fun h0 => absurd (hr ▸ h0) hne, hr ▸ h⟩
theorem T_done {fuel : Nat} {listed : Array Bool} {w : World} (hr : Region.ready md ops listed = []) (h : Q .normal a w) : wpAnyT P md ops Q S D fuel listed a w := by
  cases fuel with
  | zero => exact ⟨hr, h⟩
  | succ n => exact ⟨fun _ => h, fun i hi => by rw [hr] at hi; cases hi⟩
/-- One operation yields a value. -/
theorem op_value {i : Nat} {o : Oper} {w w' : World} {K : Act → World → Prop} (d : Option Tmp) (v : Value) (hi : ops[i]? = some o) (hd : o.dst = d) (hw : Region.wanted o (yielded ops a.tmps) = true)
    (hrun : (execOp a.eval o).run P w = .ok (.value v) w') (h : K (a.put d v) w') : wpOp P ops Q i K a w := by
  subst hd
  unfold wpOp
  simp only [hi, hw, if_true, Oper.wp, hrun, Oper.upon]
  exact .inl h
theorem op_skip {i : Nat} {o : Oper} {w w' : World} {K : Act → World → Prop} (hi : ops[i]? = some o) (hd : o.dst = none) (hw : Region.wanted o (yielded ops a.tmps) = true)
    (hrun : (execOp a.eval o).run P w = .ok .skip w') (h : K (a.put none undef) w') : wpOp P ops Q i K a w := by
  unfold wpOp
  simp only [hi, hw, if_true, Oper.wp, hrun, Oper.upon]
  rw [hd]
  exact .inl h
theorem op_callT {i : Nat} {o : Oper} {w : World} {K : Act → World → Prop} (d : Option Tmp) (fn : FuncId) (args : Array Value) (hi : ops[i]? = some o) (hd : o.dst = d) (hw : Region.wanted o (yielded ops a.tmps) = true)
    (hrun : (execOp a.eval o).run P w = .ok (.enter fn args) w) (hc : Calls P fn args w fun e w' => ∃ v, e = .returned v ∧ K (a.put d v) w') : wpOp P ops Q i K a w := by
  subst hd
  unfold wpOp
  simp only [hi, hw, if_true, Oper.wp, hrun, Oper.upon]
  refine .inl (Calls.mono hc fun e w' he => ?_)
  obtain ⟨v, rfl, h1⟩ := he
  exact h1
/-- A store into one cell of a block. -/
theorem run_store1 {o : Oper} {w : World} (ty : TypeId) (x y : Operand) (ho : o.op = .store ty x y) (b j : Nat) (v : Value) (hx : a.eval x = .pointer (some ⟨b, j, none⟩)) (hy : a.eval y = v) (cs : List Value) (t : TypeId) (hb : w.heap[b]? = some (.cells cs.toArray t (0, 0)))
    (hsz : (P.info? ty).map (·.size) = some 1) (hl : j < cs.length) (h1 : v.oneCell' = true) (cs' : List Value) (hc : cs.set j v = cs') :
    ∃ w', (execOp a.eval o).run P w = .ok .skip w' ∧ w'.heap[b]? = some (.cells cs'.toArray t (0, 0)) ∧ w.grownBy w' (some b) := by
  subst hc
  refine ⟨_, ?_, setRow_heap _ _ _ _ _ _ hb, ⟨rfl, rfl, rfl, by simp [World.setRow], fun k _ hk => setRow_other _ _ _ _ (fun e => hk (by rw [e]))⟩⟩
  unfold execOp
  simp only [ho, hx, hy, Instr.storeAt, Instr.sureAddr, Sem.run_bind, Sem.run_pure, Result.andThen_ok, run_store_cell hb hsz hl h1]
end

end Go.Proofs.Ybulkdsqs
