/-
  LawS5973CWhole: the walk of (*fragments).remove.
-/
import Derived.Test.YbulkdsrgCOpen
namespace Go.Proofs.Ybulkdsrg
open Go.RowKit
set_option linter.unusedSimpArgs false
set_option linter.unusedVariables false

section
variable {P : Program} {ops : Array Oper} {S : World → Prop} {a : Act} {md : Region.Mode} {Q : Exit → Act → World → Prop}
theorem any_store (i : Nat) {fuel : Nat} {o : Oper} {listed : Array Bool} {w : World} (hi : ops[i]? = some o) (hd : o.dst = none) (hr : Region.ready md ops listed = [i]) (hw : Region.wanted o (yielded ops a.tmps) = true)
    (ty : TypeId) (x y : Operand) (ho : o.op = .store ty x y) (b j : Nat) (v : Value) (hx : a.eval x = .pointer (some ⟨b, j, none⟩)) (hy : a.eval y = v) (cs : List Value) (t : TypeId) (hb : w.heap[b]? = some (.cells cs.toArray t (0, 0)))
    (hsz : (P.info? ty).map (·.size) = some 1) (hl : j < cs.length) (h1 : v.oneCell' = true) (cs' : List Value) (hc : cs.set j v = cs')
    (h : ∀ w', w'.heap[b]? = some (.cells cs'.toArray t (0, 0)) → w.grownBy w' (some b) → S w' ∧ wpAnyH P md ops Q S fuel (listed.setIfInBounds i true) (a.put none undef) w') : wpAnyH P md ops Q S (fuel + 1) listed a w := by
  subst hc
  have hh := h _ (setRow_heap _ _ _ _ _ _ hb) ⟨rfl, rfl, rfl, by simp [World.setRow], fun k _ hk => setRow_other _ _ _ _ (fun e => hk (by rw [e]))⟩
  refine any_skip i _ hi hr hw ?_ hh.1 (by rw [hd]; exact hh.2)
  unfold execOp
  simp only [ho, hx, hy, Instr.storeAt, Instr.sureAddr, Sem.run_bind, Sem.run_pure, Result.andThen_ok, run_store_cell hb hsz hl h1]
end

theorem range_key {w : World} {b : Nat} {k : Ky} {x t : Int} {p q : Option Nat} {ty : TypeId} (hb : w.heap[b]? = some (.cells (dc k x t p q).toArray ty (0, 0))) : w.rangeAt b 0 (kc k x) := by
  intro j u h
  refine range_of_blk hb j u ?_
  have hl := (List.getElem?_eq_some_iff.1 h).1
  unfold dc
  rw [List.getElem?_append_left hl]
  exact h

theorem exec_delete {P : Program} {a : Act} {o : Oper} {w w' : World} (m x : Operand) (t k : TypeId) (vm vx v : Value) (hop : o.op = Op.call { callee := Callee.builtin Builtin.delete, args := #[m, x], argTypes := #[t, k] })
    (hm : a.eval m = vm) (hx : a.eval x = vx) (hrun : (Builtin.delete_ #[t, k] o.type #[vm, vx]).run P w = .ok v w') : (execOp a.eval o).run P w = .ok (.value v) w' := by
  simp [execOp, hop, resolve, invoke, builtin, hm, hx, hrun, Result.andThen]

theorem guard27 (op : BinOp) (x y : Operand) (o : Option Nat) (w : World) : (eqGuard op 27 x y (vp o) (.pointer none)).run Yba.prog w = .ok () w := by
  cases o <;> simp [eqGuard, vp]

/-- Hides a fact from the walk's own simp. -/
def Hid (p : Prop) : Prop := p

theorem eraseIdx_zero_hd (L : List Nd) : L.eraseIdx 0 = L.tail := by cases L <;> rfl

set_option maxHeartbeats 400000 in
theorem remove_any {k : Ky} (hk : k.Wf) {w : World} {lo hi f : Nat} {L : List Nd} {m : Option Nat} {D : DataW Unit} {n : Nat} (h : St w k lo hi f L m D n) (hhi : hi ≤ w.heap.size) {i : Nat} {nd : Nd} (hnd : L[i]? = some nd) :
    Calls Yba.prog 6 #[.pointer (some ⟨f, 0, none⟩), .pointer (some ⟨nd.b, 0, none⟩)] w fun e w' => (∃ v, e = .returned v) ∧ ∃ D', St w' k lo hi f (L.eraseIdx i) m D' n ∧ Out lo hi w w' := by
  have hfs := h.fs
  have hfr := h.fr
  have hnb := h.node i nd hnd
  have hnr := h.nr i nd hnd
  have hil : i < L.length := (List.getElem?_eq_some_iff.1 hnd).1
  have hfn := h.fs_node hnd
  obtain ⟨mb, hm, hmlo, hmhi, hown⟩ : ∃ mb, m = some mb ∧ lo ≤ mb ∧ mb < hi ∧ w.ownsMap Yba.prog 34 Re mb n D := by
    rcases h.map with ⟨_, e, _⟩ | r
    · subst e; simp at hnd
    · exact r
  subst hm
  go_enter Yba.func6, Yba.ntmps6
  go_upto_region 0 with fail
  obtain ⟨w1, hrun1, hown1, hturn1⟩ := hown.drew.drop keyed Yba.underlying26 (kl_key hk hnr.2.2) 0
  have hg1 : w.grownBy w1 (some mb) := ⟨hturn1.grown.os, hturn1.grown.tape, hturn1.grown.output, hturn1.grown.size, hturn1.grown.block⟩
  have hfm : f ≠ mb := own_ne hown hfs
  have hnm : nd.b ≠ mb := own_ne hown hnb
  have hS1 : w1.heap[f]? = some (.cells (fc (some mb) (hd L) (lt L)).toArray 29 (0, 0)) ∧ w1.heap[nd.b]? = some (.cells (dc k nd.x nd.t (pv L i) (nx L i)).toArray 60 (0, 0)) := ⟨keep_blk hg1 hfs (by simpa using hfm), keep_blk hg1 hnb (by simpa using hnm)⟩
  have hS : (fun w' : World => w'.heap[f]? = some (.cells (fc (some mb) (hd L) (lt L)).toArray 29 (0, 0)) ∧ w'.heap[nd.b]? = some (.cells (dc k nd.x nd.t (pv L i) (nx L i)).toArray 60 (0, 0))) { w with drawn := w.drawn + 1 } := ⟨hfs, hnb⟩
  refine wp_region_held (S := fun w' : World => w'.heap[f]? = some (.cells (fc (some mb) (hd L) (lt L)).toArray 29 (0, 0)) ∧ w'.heap[nd.b]? = some (.cells (dc k nd.x nd.t (pv L i) (nx L i)).toArray 60 (0, 0))) (by kernel_rfl) ?_
  refine any_take 0 (some 4) (.pointer (some ⟨f, 0, none⟩)) rfl rfl (by kernel_rfl) (by kernel_rfl) (by kernel_rfl) (fun _ _ _ h => h) (.inl ⟨by kernel_rfl, fun _ _ => by kernel_rfl⟩) (by assumption) ?_
  simp only [Act.put, List.setIfInBounds_toArray, List.set_cons_zero, List.set_cons_succ]
  refine any_take 1 (some 5) (.pointer (some ⟨f, 0, none⟩)) rfl rfl (by kernel_rfl) (by kernel_rfl) (by kernel_rfl) (fun _ _ _ h => h) (.inl ⟨by kernel_rfl, fun _ _ => by kernel_rfl⟩) (by assumption) ?_
  simp only [Act.put, List.setIfInBounds_toArray, List.set_cons_zero, List.set_cons_succ]
  refine any_take 2 (some 6) (.pointer (some ⟨f, 0, none⟩)) rfl rfl (by kernel_rfl) (by kernel_rfl) (by kernel_rfl) (fun _ _ _ h => h) (.inl ⟨by kernel_rfl, fun _ _ => by kernel_rfl⟩) (by assumption) ?_
  simp only [Act.put, List.setIfInBounds_toArray, List.set_cons_zero, List.set_cons_succ]
  refine any_take 3 (some 7) (.map (some mb)) rfl rfl (by kernel_rfl) (by kernel_rfl) (by kernel_rfl) (fun _ _ _ h => h) (yld_cell (by kernel_rfl) 26 (.tmp 6) rfl f 0 rfl _ 29 (fun _ h => h.1) _ Yba.underlying26 rfl _ (fc0 _ _ _)) (by assumption) ?_
  simp only [Act.put, List.setIfInBounds_toArray, List.set_cons_zero, List.set_cons_succ]
  refine any_take 4 (some 8) (.pointer (some ⟨nd.b, 0, none⟩)) rfl rfl (by kernel_rfl) (by kernel_rfl) (by kernel_rfl) (fun _ _ _ h => h) (.inl ⟨by kernel_rfl, fun _ _ => by kernel_rfl⟩) (by assumption) ?_
  simp only [Act.put, List.setIfInBounds_toArray, List.set_cons_zero, List.set_cons_succ]
  refine any_take 5 (some 9) (.pointer (some ⟨nd.b, 0, none⟩)) rfl rfl (by kernel_rfl) (by kernel_rfl) (by kernel_rfl) (fun _ _ _ h => h) (.inl ⟨by kernel_rfl, fun _ _ => by kernel_rfl⟩) (by assumption) ?_
  simp only [Act.put, List.setIfInBounds_toArray, List.set_cons_zero, List.set_cons_succ]
  refine any_take 6 (some 10) (.pointer (some ⟨nd.b, 0, none⟩)) rfl rfl (by kernel_rfl) (by kernel_rfl) (by kernel_rfl) (fun _ _ _ h => h) (.inl ⟨by kernel_rfl, fun _ _ => by kernel_rfl⟩) (by assumption) ?_
  simp only [Act.put, List.setIfInBounds_toArray, List.set_cons_zero, List.set_cons_succ]
  refine any_take 7 (some 11) (.agg (kc k nd.x).toArray) rfl rfl (by kernel_rfl) (by kernel_rfl) (by kernel_rfl) (fun _ _ _ h => h) (yieldsIf_load_mid (by kernel_rfl) 34 (.tmp 10) rfl nd.b 0 rfl (kc k nd.x) _ (fun _ h => range_key h.2) Yba.underlying34 rfl (size34 k nd.x)) (by assumption) ?_
  simp only [Act.put, List.setIfInBounds_toArray, List.set_cons_zero, List.set_cons_succ]
  refine any_one 8 none (.tuple #[]) w1 rfl rfl (by kernel_rfl) (by kernel_rfl) ?_ hS1 ?_
  · exact exec_delete (.tmp 7) (.tmp 11) 26 34 _ _ _ rfl rfl rfl hrun1
  refine wpAnyH_done (by kernel_rfl) ?_ _
  simp only [Act.put]
  clear hS hrun1 hturn1
  have hneq := neq27 (pv L i)
  have hgd := guard27 .neq (.tmp 15) (.const (.pointer none)) (pv L i)
  go_upto_if 16 with (refine wpList_load_cell rfl 27 (.tmp 14) rfl nd.b 84 rfl _ _ hS1.2 _ Yba.underlying27 rfl _ (dc84 _ _ _ _ _) ?_)
  go_cut [] (fun wx => wx.heap[f]? = some (.cells (fc (some mb) (if i = 0 then nx L 0 else hd L) (lt L)).toArray 29 (0, 0)) ∧ wx.heap[nd.b]? = some (.cells (dc k nd.x nd.t (pv L i) (nx L i)).toArray 60 (0, 0)) ∧
    (∀ a : Nd, i ≠ 0 → L[i - 1]? = some a → wx.heap[a.b]? = some (.cells (dc k a.x a.t (pv L (i - 1)) (nx L i)).toArray 60 (0, 0))) ∧ (∀ (j : Nat) (a : Nd), L[j]? = some a → j + 1 ≠ i → wx.heap[a.b]? = w.heap[a.b]?) ∧
    wx.ownsMap Yba.prog 34 Re mb n (D.del (kl k nd.x)) ∧ Out lo hi w wx)
  case first =>
    clear hneq hgd
    by_cases hi0 : i = 0
    · have hpv : pv L i = none := by simp [pv, hi0]
      have hb0 : (pv L i).isSome = false := by simp [hpv]
      simp only [hb0]
      have HI : Hid (i = 0) := hi0
      clear hi0 hpv hb0
      go_wp2_with (first
        | (refine wpList_load_cell rfl 27 (.tmp 30) rfl nd.b 85 rfl _ _ hS1.2 _ Yba.underlying27 rfl _ (dc85 _ _ _ _ _) ?_)
        | (refine wpList_store_cell rfl 27 (.tmp 33) (.tmp 31) rfl f 1 (vp (nx L i)) rfl rfl _ _ hS1.1 size27 (by rw [fcl]; omega) (vp_one _) _ (fcs1 _ _ _ _) ?_; intro w2 hb2 hg2))
      go_meet
      case rel =>
        have hi0 : i = 0 := HI
        refine ⟨by rw [if_pos hi0]; simpa [hi0] using hb2, keep_blk hg2 hS1.2 (by simpa using Ne.symm hfn), fun a h0 => absurd hi0 h0, fun j a hj hji => ?_, hown1.kept hg2 (by simpa using Ne.symm hfm), ((Out.refl lo hi w).step hg1 (fun q e => by cases e; omega)).step hg2 (fun q e => by cases e; omega)⟩
        have hr := h.nr j a hj
        have hs1 := hg1.size
        exact (hg2.block _ (by omega) (fun e => h.fs_node hj (Option.some.inj e).symm)).trans (hg1.block _ (by omega) (fun e => own_ne hown (h.node j a hj) (Option.some.inj e)))
    · obtain ⟨a, ha⟩ : ∃ a, L[i - 1]? = some a := ⟨_, List.getElem?_eq_getElem (by omega)⟩
      have hpv : pv L i = some a.b := by simp [pv, hi0, ha]
      have hb0 : (pv L i).isSome = true := by simp [hpv]
      have han : a.b ≠ nd.b := fun e => by have := h.dif _ _ a nd ha hnd e; omega
      have hab := h.node _ a ha
      have hnxa : nx L (i - 1) = some nd.b := by simp [nx, show i - 1 + 1 = i by omega, hnd]
      have har := h.nr _ a ha
      have hab1 : w1.heap[a.b]? = some (.cells (dc k a.x a.t (pv L (i - 1)) (nx L (i - 1))).toArray 60 (0, 0)) := keep_blk hg1 hab (fun e => own_ne hown hab (Option.some.inj e))
      simp only [hb0]
      go_upto_region 2 with fail
      refine wp_region_held (S := fun w' : World => w'.heap[nd.b]? = some (.cells (dc k nd.x nd.t (pv L i) (nx L i)).toArray 60 (0, 0))) (by kernel_rfl) ?_
      have hS : (fun w' : World => w'.heap[nd.b]? = some (.cells (dc k nd.x nd.t (pv L i) (nx L i)).toArray 60 (0, 0))) { w1 with drawn := w1.drawn + 1 } := hS1.2
      refine any_take 0 (some 17) (.pointer (some ⟨nd.b, 0, none⟩)) rfl rfl (by kernel_rfl) (by kernel_rfl) (by kernel_rfl) (fun _ _ _ h => h) (.inl ⟨by kernel_rfl, fun _ _ => by kernel_rfl⟩) (by assumption) ?_
      simp only [Act.put, List.setIfInBounds_toArray, List.set_cons_zero, List.set_cons_succ]
      refine any_take 1 (some 18) (.pointer (some ⟨nd.b, 0, none⟩)) rfl rfl (by kernel_rfl) (by kernel_rfl) (by kernel_rfl) (fun _ _ _ h => h) (.inl ⟨by kernel_rfl, fun _ _ => by kernel_rfl⟩) (by assumption) ?_
      simp only [Act.put, List.setIfInBounds_toArray, List.set_cons_zero, List.set_cons_succ]
      refine any_take 2 (some 19) (.pointer (some ⟨nd.b, 84, none⟩)) rfl rfl (by kernel_rfl) (by kernel_rfl) (by kernel_rfl) (fun _ _ _ h => h) (.inl ⟨by kernel_rfl, fun _ _ => by kernel_rfl⟩) (by assumption) ?_
      simp only [Act.put, List.setIfInBounds_toArray, List.set_cons_zero, List.set_cons_succ]
      refine any_take 3 (some 20) (.pointer (some ⟨a.b, 0, none⟩)) rfl rfl (by kernel_rfl) (by kernel_rfl) (by kernel_rfl) (fun _ _ _ h => h) (yld_cell (by kernel_rfl) 27 (.tmp 19) rfl nd.b 84 rfl _ 60 (fun _ h => h) _ Yba.underlying27 rfl _ (by rw [dc84, hpv]; rfl)) (by assumption) ?_
      simp only [Act.put, List.setIfInBounds_toArray, List.set_cons_zero, List.set_cons_succ]
      refine any_take 4 (some 21) (.pointer (some ⟨nd.b, 0, none⟩)) rfl rfl (by kernel_rfl) (by kernel_rfl) (by kernel_rfl) (fun _ _ _ h => h) (.inl ⟨by kernel_rfl, fun _ _ => by kernel_rfl⟩) (by assumption) ?_
      simp only [Act.put, List.setIfInBounds_toArray, List.set_cons_zero, List.set_cons_succ]
      refine any_take 5 (some 22) (.pointer (some ⟨nd.b, 0, none⟩)) rfl rfl (by kernel_rfl) (by kernel_rfl) (by kernel_rfl) (fun _ _ _ h => h) (.inl ⟨by kernel_rfl, fun _ _ => by kernel_rfl⟩) (by assumption) ?_
      simp only [Act.put, List.setIfInBounds_toArray, List.set_cons_zero, List.set_cons_succ]
      refine any_take 6 (some 23) (.pointer (some ⟨nd.b, 85, none⟩)) rfl rfl (by kernel_rfl) (by kernel_rfl) (by kernel_rfl) (fun _ _ _ h => h) (.inl ⟨by kernel_rfl, fun _ _ => by kernel_rfl⟩) (by assumption) ?_
      simp only [Act.put, List.setIfInBounds_toArray, List.set_cons_zero, List.set_cons_succ]
      refine any_take 7 (some 24) (vp (nx L i)) rfl rfl (by kernel_rfl) (by kernel_rfl) (by kernel_rfl) (fun _ _ _ h => h) (yld_cell (by kernel_rfl) 27 (.tmp 23) rfl nd.b 85 rfl _ 60 (fun _ h => h) _ Yba.underlying27 rfl _ (dc85 _ _ _ _ _)) (by assumption) ?_
      simp only [Act.put, List.setIfInBounds_toArray, List.set_cons_zero, List.set_cons_succ]
      refine any_take 8 (some 25) (.pointer (some ⟨a.b, 0, none⟩)) rfl rfl (by kernel_rfl) (by kernel_rfl) (by kernel_rfl) (fun _ _ _ h => h) (.inl ⟨by kernel_rfl, fun _ _ => by kernel_rfl⟩) (by assumption) ?_
      simp only [Act.put, List.setIfInBounds_toArray, List.set_cons_zero, List.set_cons_succ]
      refine any_take 9 (some 26) (.pointer (some ⟨a.b, 85, none⟩)) rfl rfl (by kernel_rfl) (by kernel_rfl) (by kernel_rfl) (fun _ _ _ h => h) (.inl ⟨by kernel_rfl, fun _ _ => by kernel_rfl⟩) (by assumption) ?_
      simp only [Act.put, List.setIfInBounds_toArray, List.set_cons_zero, List.set_cons_succ]
      refine any_store 10 rfl rfl (by kernel_rfl) (by kernel_rfl) 27 (.tmp 26) (.tmp 24) rfl a.b 85 (vp (nx L i)) rfl rfl _ 60 (w := { w1 with drawn := w1.drawn + 1 }) hab1 size27 (by rw [dc_len]; omega) (vp_one _) _ (dcs85 _ _ _ _ _ _) ?_
      intro w2 hb2 hg2'
      have hg2 : w1.grownBy w2 (some a.b) := ⟨hg2'.os, hg2'.tape, hg2'.output, hg2'.size, hg2'.block⟩
      clear hg2'
      refine ⟨keep_blk hg2 hS1.2 (by simpa using Ne.symm han), ?_⟩
      refine wpAnyH_done (by kernel_rfl) ?_ _
      simp only [Act.put]
      go_wp2_with fail
      go_meet
      case rel =>
        have hfa : f ≠ a.b := h.fs_node ha
        refine ⟨by rw [if_neg hi0]; exact keep_blk hg2 hS1.1 (by simpa using hfa), keep_blk hg2 hS1.2 (by simpa using Ne.symm han), fun a' _ ha' => ?_, fun j c hj hji => ?_, hown1.kept hg2 (fun e => own_ne hown hab (Option.some.inj e).symm), ((Out.refl lo hi w).step hg1 (fun q e => by cases e; omega)).step hg2 (fun q e => by cases e; omega)⟩
        · rw [ha] at ha'
          cases ha'
          exact hb2
        have hr := h.nr j c hj
        have hs1 := hg1.size
        exact (hg2.block _ (by omega) (fun e => by have := h.dif j _ c a hj ha (Option.some.inj e); omega)).trans (hg1.block _ (by omega) (fun e => own_ne hown (h.node j c hj) (Option.some.inj e)))
  case rest =>
    clear hS1 hown1 hg1 hneq hgd
    obtain ⟨hf2, hn2, hp2, hk2, hown2, hout2⟩ := hcut
    have hneq := neq27 (nx L i)
    have hgd := guard27 .neq (.tmp 37) (.const (.pointer none)) (nx L i)
    go_upto_if 38 with (refine wpList_load_cell rfl 27 (.tmp 36) rfl nd.b 85 rfl _ _ hn2 _ Yba.underlying27 rfl _ (dc85 _ _ _ _ _) ?_)
    go_cut [] (fun wx => wx.heap[f]? = some (.cells (fc (some mb) (if i = 0 then nx L 0 else hd L) (if i + 1 = L.length then pv L i else lt L)).toArray 29 (0, 0)) ∧ wx.heap[nd.b]? = some (.cells (dc k nd.x nd.t (pv L i) (nx L i)).toArray 60 (0, 0)) ∧
      (∀ a : Nd, i ≠ 0 → L[i - 1]? = some a → wx.heap[a.b]? = some (.cells (dc k a.x a.t (pv L (i - 1)) (nx L i)).toArray 60 (0, 0))) ∧
      (∀ a : Nd, L[i + 1]? = some a → wx.heap[a.b]? = some (.cells (dc k a.x a.t (pv L i) (nx L (i + 1))).toArray 60 (0, 0))) ∧ (∀ (j : Nat) (a : Nd), L[j]? = some a → j + 1 ≠ i → j ≠ i + 1 → wx.heap[a.b]? = w.heap[a.b]?) ∧
      wx.ownsMap Yba.prog 34 Re mb n (D.del (kl k nd.x)) ∧ Out lo hi w wx)
    case first =>
      clear hneq hgd
      have hsw := hout2.size
      by_cases hi1 : i + 1 = L.length
      · have hnx : nx L i = none := by simp [nx, hi1]
        have hb0 : (nx L i).isSome = false := by simp [hnx]
        simp only [hb0]
        have HI : Hid (i + 1 = L.length) := hi1
        clear hi1 hnx hb0
        go_wp2_with (first
          | (refine wpList_load_cell rfl 27 (.tmp 52) rfl nd.b 84 rfl _ _ hn2 _ Yba.underlying27 rfl _ (dc84 _ _ _ _ _) ?_)
          | (refine wpList_store_cell rfl 27 (.tmp 55) (.tmp 53) rfl f 2 (vp (pv L i)) rfl rfl _ _ hf2 size27 (by rw [fcl]; omega) (vp_one _) _ (fcs2 _ _ _ _) ?_; intro w3 hb3 hg3))
        go_meet
        case rel =>
          have hi1 : i + 1 = L.length := HI
          refine ⟨by rw [if_pos hi1]; exact hb3, keep_blk hg3 hn2 (by simpa using Ne.symm hfn), fun a h0 ha => keep_blk hg3 (hp2 a h0 ha) (by simpa using Ne.symm (h.fs_node ha)), fun a ha => ?_, fun j a hj hji hj2 => ?_, hown2.kept hg3 (by simpa using Ne.symm hfm), hout2.step hg3 (fun q e => by cases e; omega)⟩
          · rw [List.getElem?_eq_none (by omega)] at ha; cases ha
          · have hr := h.nr j a hj
            exact (hg3.block _ (by omega) (fun e => h.fs_node hj (Option.some.inj e).symm)).trans (hk2 j a hj hji)
      · obtain ⟨c, hc⟩ : ∃ c, L[i + 1]? = some c := ⟨_, List.getElem?_eq_getElem (by omega)⟩
        have hnx : nx L i = some c.b := by simp [nx, hc]
        have hb0 : (nx L i).isSome = true := by simp [hnx]
        have hcn : c.b ≠ nd.b := fun e => by have := h.dif _ _ c nd hc hnd e; omega
        have hcr := h.nr _ c hc
        have hpc : pv L (i + 1) = some nd.b := by simp [pv, hnd]
        have hcb : wc.heap[c.b]? = some (.cells (dc k c.x c.t (pv L (i + 1)) (nx L (i + 1))).toArray 60 (0, 0)) := by rw [hk2 _ c hc (by omega)]; exact h.node _ c hc
        simp only [hb0]
        go_upto_region 5 with fail
        refine wp_region_held (S := fun w' : World => w'.heap[nd.b]? = some (.cells (dc k nd.x nd.t (pv L i) (nx L i)).toArray 60 (0, 0))) (by kernel_rfl) ?_
        have hS : (fun w' : World => w'.heap[nd.b]? = some (.cells (dc k nd.x nd.t (pv L i) (nx L i)).toArray 60 (0, 0))) { wc with drawn := wc.drawn + 1 } := hn2
        refine any_take 0 (some 39) (.pointer (some ⟨nd.b, 0, none⟩)) rfl rfl (by kernel_rfl) (by kernel_rfl) (by kernel_rfl) (fun _ _ _ h => h) (.inl ⟨by kernel_rfl, fun _ _ => by kernel_rfl⟩) (by assumption) ?_
        simp only [Act.put, List.setIfInBounds_toArray, List.set_cons_zero, List.set_cons_succ]
        refine any_take 1 (some 40) (.pointer (some ⟨nd.b, 0, none⟩)) rfl rfl (by kernel_rfl) (by kernel_rfl) (by kernel_rfl) (fun _ _ _ h => h) (.inl ⟨by kernel_rfl, fun _ _ => by kernel_rfl⟩) (by assumption) ?_
        simp only [Act.put, List.setIfInBounds_toArray, List.set_cons_zero, List.set_cons_succ]
        refine any_take 2 (some 41) (.pointer (some ⟨nd.b, 85, none⟩)) rfl rfl (by kernel_rfl) (by kernel_rfl) (by kernel_rfl) (fun _ _ _ h => h) (.inl ⟨by kernel_rfl, fun _ _ => by kernel_rfl⟩) (by assumption) ?_
        simp only [Act.put, List.setIfInBounds_toArray, List.set_cons_zero, List.set_cons_succ]
        refine any_take 3 (some 42) (.pointer (some ⟨c.b, 0, none⟩)) rfl rfl (by kernel_rfl) (by kernel_rfl) (by kernel_rfl) (fun _ _ _ h => h) (yld_cell (by kernel_rfl) 27 (.tmp 41) rfl nd.b 85 rfl _ 60 (fun _ h => h) _ Yba.underlying27 rfl _ (by rw [dc85, hnx]; rfl)) (by assumption) ?_
        simp only [Act.put, List.setIfInBounds_toArray, List.set_cons_zero, List.set_cons_succ]
        refine any_take 4 (some 43) (.pointer (some ⟨nd.b, 0, none⟩)) rfl rfl (by kernel_rfl) (by kernel_rfl) (by kernel_rfl) (fun _ _ _ h => h) (.inl ⟨by kernel_rfl, fun _ _ => by kernel_rfl⟩) (by assumption) ?_
        simp only [Act.put, List.setIfInBounds_toArray, List.set_cons_zero, List.set_cons_succ]
        refine any_take 5 (some 44) (.pointer (some ⟨nd.b, 0, none⟩)) rfl rfl (by kernel_rfl) (by kernel_rfl) (by kernel_rfl) (fun _ _ _ h => h) (.inl ⟨by kernel_rfl, fun _ _ => by kernel_rfl⟩) (by assumption) ?_
        simp only [Act.put, List.setIfInBounds_toArray, List.set_cons_zero, List.set_cons_succ]
        refine any_take 6 (some 45) (.pointer (some ⟨nd.b, 84, none⟩)) rfl rfl (by kernel_rfl) (by kernel_rfl) (by kernel_rfl) (fun _ _ _ h => h) (.inl ⟨by kernel_rfl, fun _ _ => by kernel_rfl⟩) (by assumption) ?_
        simp only [Act.put, List.setIfInBounds_toArray, List.set_cons_zero, List.set_cons_succ]
        refine any_take 7 (some 46) (vp (pv L i)) rfl rfl (by kernel_rfl) (by kernel_rfl) (by kernel_rfl) (fun _ _ _ h => h) (yld_cell (by kernel_rfl) 27 (.tmp 45) rfl nd.b 84 rfl _ 60 (fun _ h => h) _ Yba.underlying27 rfl _ (dc84 _ _ _ _ _)) (by assumption) ?_
        simp only [Act.put, List.setIfInBounds_toArray, List.set_cons_zero, List.set_cons_succ]
        refine any_take 8 (some 47) (.pointer (some ⟨c.b, 0, none⟩)) rfl rfl (by kernel_rfl) (by kernel_rfl) (by kernel_rfl) (fun _ _ _ h => h) (.inl ⟨by kernel_rfl, fun _ _ => by kernel_rfl⟩) (by assumption) ?_
        simp only [Act.put, List.setIfInBounds_toArray, List.set_cons_zero, List.set_cons_succ]
        refine any_take 9 (some 48) (.pointer (some ⟨c.b, 84, none⟩)) rfl rfl (by kernel_rfl) (by kernel_rfl) (by kernel_rfl) (fun _ _ _ h => h) (.inl ⟨by kernel_rfl, fun _ _ => by kernel_rfl⟩) (by assumption) ?_
        simp only [Act.put, List.setIfInBounds_toArray, List.set_cons_zero, List.set_cons_succ]
        refine any_store 10 rfl rfl (by kernel_rfl) (by kernel_rfl) 27 (.tmp 48) (.tmp 46) rfl c.b 84 (vp (pv L i)) rfl rfl _ 60 (w := { wc with drawn := wc.drawn + 1 }) hcb size27 (by rw [dc_len]; omega) (vp_one _) _ (dcs84 _ _ _ _ _ _) ?_
        intro w3 hb3 hg3'
        have hg3 : wc.grownBy w3 (some c.b) := ⟨hg3'.os, hg3'.tape, hg3'.output, hg3'.size, hg3'.block⟩
        clear hg3'
        refine ⟨keep_blk hg3 hn2 (by simpa using Ne.symm hcn), ?_⟩
        refine wpAnyH_done (by kernel_rfl) ?_ _
        simp only [Act.put]
        go_wp2_with fail
        go_meet
        case rel =>
          refine ⟨by rw [if_neg hi1]; exact keep_blk hg3 hf2 (by simpa using h.fs_node hc), keep_blk hg3 hn2 (by simpa using Ne.symm hcn), fun a h0 ha => keep_blk hg3 (hp2 a h0 ha) (fun e => by have := h.dif _ _ a c ha hc (Option.some.inj e); omega), fun a ha => ?_, fun j a hj hji hj2 => ?_, hown2.kept hg3 (fun e => own_ne hown2 hcb (Option.some.inj e).symm), hout2.step hg3 (fun q e => by cases e; omega)⟩
          · rw [hc] at ha
            cases ha
            exact hb3
          · have hr := h.nr j a hj
            exact (hg3.block _ (by omega) (fun e => by have := h.dif j _ a c hj hc (Option.some.inj e); omega)).trans (hk2 j a hj hji)
    case rest =>
      clear hf2 hn2 hp2 hk2 hown2 hout2 hneq hgd
      obtain ⟨hf3, hn3, hp3, hx3, hk3, hown3, hout3⟩ := hcut
      go_wp2_with (first
        | (refine wpList_store_cell rfl 27 (.tmp 59) (.const (.pointer none)) rfl nd.b 84 (vp none) rfl rfl _ _ hn3 size27 (by rw [dc_len]; omega) rfl _ (dcs84 _ _ _ _ _ _) ?_; intro w4 hb4 hg4)
        | (refine wpList_store_cell rfl 27 (.tmp 61) (.const (.pointer none)) rfl nd.b 85 (vp none) rfl rfl _ _ hb4 size27 (by rw [dc_len]; omega) rfl _ (dcs85 _ _ _ _ _ _) ?_; intro w5 hb5 hg5))
      have hs3 := hout3.size
      have hs4 := hg4.size
      refine bodyPost_end (v := .tuple #[]) (by kernel_rfl) rfl ⟨⟨_, rfl⟩, ⟨D.del (kl k nd.x), ?_⟩, (hout3.step hg4 (fun q e => by cases e; omega)).step hg5 (fun q e => by cases e; omega)⟩
      have hq : ∀ q, q < wc.heap.size → q ≠ nd.b → w5.heap[q]? = wc.heap[q]? := fun q hq hne => (hg5.block q (by omega) (by simpa using hne)).trans (hg4.block q hq (by simpa using hne))
      have hne : ∀ (j : Nat) (a : Nd), L[j]? = some a → j ≠ i → a.b ≠ nd.b := fun j a hj hji e => hji (h.dif j i a nd hj hnd e)
      have hlw : ∀ (j : Nat) (a : Nd), L[j]? = some a → a.b < wc.heap.size := fun j a hj => by have := h.nr j a hj; omega
      refine h.removed hnd rfl ?_ (fun a h0 ha => ?_) (fun a ha => ?_) (fun j a hj hji hj1 hj2 => ?_) ((hown3.kept hg4 (by simpa using Ne.symm hnm)).kept hg5 (by simpa using Ne.symm hnm))
      · rw [hq f (by omega) hfn]; exact hf3
      · rw [hq _ (hlw _ _ ha) (hne _ _ ha (by omega))]; exact hp3 a h0 ha
      · rw [hq _ (hlw _ _ ha) (hne _ _ ha (by omega))]; exact hx3 a ha
      · rw [hq _ (hlw _ _ hj) (hne _ _ hj hji)]; exact hk3 j a hj hj1 hj2

end Go.Proofs.Ybulkdsrg
