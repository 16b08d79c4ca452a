/-
  LawS5970CWhole: the two halves of a round of Nearest (17).
-/
import Derived.Test.YbulkdspqFmtCNearA
namespace Go.Proofs.YbulkdspqFmt
open Go.RowKit
set_option linter.unusedSimpArgs false
set_option linter.unusedVariables false

/-- The code begins with this region. -/
def headIs (n : Nat) : Code → Bool
  | .region m _ _ => m == n
  | .seq a _ => headIs n a
  | .block _ c => headIs n c
  | .loop c => headIs n c
  | .scope c => headIs n c
  | _ => false
/-- The code from a region on, in the innermost sequence. -/
def inR (n : Nat) : Code → Option Code
  | .seq a b => if headIs n a then some (.seq a b) else match inR n a with
    | some c => some c
    | none => inR n b
  | .cond _ a b => match inR n a with
    | some c => some c
    | none => inR n b
  | .block _ c => inR n c
  | .loop c => inR n c
  | .scope c => inR n c
  | _ => none
def fstC : Code → Code
  | .seq a _ => a
  | c => c
def sndC : Code → Code
  | .seq _ b => b
  | c => c
noncomputable def pA : Code := fstC ((Ybaf.f17.body.bind (inR 14)).getD .skip)
noncomputable def pB : Code := sndC ((Ybaf.f17.body.bind (inR 14)).getD .skip)
theorem pA_head : headIs 14 pA = true := by kernel_rfl
theorem pB_head : headIs 17 pB = true := by kernel_rfl

section
variable {P : Program} {ops : Array Oper} {S : World → Prop} {a : Act} {md : Region.Mode} {Q : Exit → Act → World → Prop} {K : Act → World → Prop}
theorem op_val (i : Nat) (d : Option Tmp) (v : Value) (w' : World) {o : Oper} {w : World} (hi : ops[i]? = some o) (hd : o.dst = d) (hw : Region.wanted o (yielded ops a.tmps) = true) (hrun : (execOp a.eval o).run P w = .ok (.value v) w') (h : K (a.put d v) w') : wpOp P ops Q i K a w := by
  subst hd
  unfold wpOp
  simp only [hi, hw, if_true, Oper.wp, hrun, Oper.upon]
  exact .inl h
theorem op_call (i : Nat) (d : Option Tmp) (fn : FuncId) (args : Array Value) {o : Oper} {w : World} (hi : ops[i]? = some o) (hd : o.dst = d) (hw : Region.wanted o (yielded ops a.tmps) = true) (hrun : (execOp a.eval o).run P w = .ok (.enter fn args) w) (hc : Calls P fn args w fun e w' => ∃ v, e = .returned v ∧ K (a.put d v) w') : wpOp P ops Q i K a w := by
  subst hd
  unfold wpOp
  simp only [hi, hw, if_true, Oper.wp, hrun, Oper.upon]
  refine .inl (Calls.mono hc fun e w' he => ?_)
  obtain ⟨v, rfl, h2⟩ := he
  exact h2
theorem any_two (i j : Nat) {fuel : Nat} {listed : Array Bool} {w : World} (hr : Region.ready md ops listed = [i, j])
    (h1 : wpOp P ops Q i (fun a' w' => S w' ∧ wpAnyH P md ops Q S fuel (listed.setIfInBounds i true) a' w') a w) (h2 : wpOp P ops Q j (fun a' w' => S w' ∧ wpAnyH P md ops Q S fuel (listed.setIfInBounds j true) a' w') a w) : wpAnyH P md ops Q S (fuel + 1) listed a w :=
  wpAnyH_all hr (by simp) (fun k hk => by
    have e : k = i ∨ k = j := by simpa using hk
    rcases e with rfl | rfl
    · exact h1
    · exact h2)
end
theorem wpList_valG {P : Program} {ops : Array Oper} {rest : List Oper} {op : Oper} {a : Act} {w : World} {Q : Exit → Act → World → Prop} (hw : Region.wanted op (yielded ops a.tmps) = true) (v : Value) (hr : (execOp a.eval op).run P w = .ok (.value v) w)
    (h : wpList P ops Q rest (a.put op.dst v) w) : wpList P ops Q (op :: rest) a w := wpList_execG hw v hr h
theorem wpList_skipG {P : Program} {ops : Array Oper} {rest : List Oper} {op : Oper} {a : Act} {w : World} {Q : Exit → Act → World → Prop} (hw : Region.wanted op (yielded ops a.tmps) = false) (h : wpList P ops Q rest (a.put op.dst undef) w) : wpList P ops Q (op :: rest) a w := by
  refine wpList_step fun K hK => ?_
  rw [hw]
  exact hK _ _ h
theorem wpList_callG {P : Program} {ops : Array Oper} {rest : List Oper} {op : Oper} {a : Act} {w : World} {Q : Exit → Act → World → Prop} (hw : Region.wanted op (yielded ops a.tmps) = true) (fn : FuncId) (args : Array Value) (hrun : (execOp a.eval op).run P w = .ok (.enter fn args) w) (hc : Calls P fn args w fun e w' => ∃ v, e = .returned v ∧ wpList P ops Q rest (a.put op.dst v) w') : wpList P ops Q (op :: rest) a w := by
  refine wpList_step fun K hK => ?_
  rw [if_pos hw]
  unfold Oper.wp
  simp only [hrun, Oper.upon]
  refine Calls.mono hc fun e w' he => ?_
  obtain ⟨v, rfl, h2⟩ := he
  exact hK _ _ h2
theorem exec_alloc41 {a : Act} {o : Oper} {w : World} (ho : o.op = .alloc 41) : (execOp a.eval o).run Ybaf.prog w = .ok (.value (.pointer (some ⟨w.heap.size, 0, none⟩))) (w.alloc (.cells (uc 0 0 0).toArray 41)) := by
  unfold execOp
  simp only [ho, Sem.run_bind, alloc41, Result.andThen_ok, Sem.run_pure]
theorem NS.keptr {w0 w w' : World} {s c cc : Int} {f0 f1 : Bool} {d0 d1 : Int} {x : Nat} (h : NS w0 w s c cc f0 f1 d0 d1) (q : w.grownBy w' (some x)) (hx : w0.heap.size + 3 < x) : NS w0 w' s c cc f0 f1 d0 d1 :=
  ⟨⟨q.os.trans h.g.os, q.tape.trans h.g.tape, q.output.trans h.g.output, Nat.le_trans h.g.size q.size, fun i hi _ => (q.block i (by have := h.g.size; omega) (by simp; omega)).trans (h.g.block i hi (by simp))⟩, keep_blk q h.b2 (by simp; omega), keep_blk q h.b3 (by simp; omega), keep_blk q h.b5 (by simp; omega), keep_blk q h.b6 (by simp; omega), h.sc, h.scc, h.fd⟩
theorem NS.lt {w0 w : World} {s c cc : Int} {f0 f1 : Bool} {d0 d1 : Int} (h : NS w0 w s c cc f0 f1 d0 d1) : w0.heap.size + 3 < w.heap.size := (Array.getElem?_eq_some_iff.1 h.b6).1

/-- What the first half leaves. -/
def PA (w : World) (s c cc d1 y : Int) (yb : Nat) (f0 f1 : Bool) (ids : List Int) (fr : Value → Value → Value → Value → Value → Value → Value → Value → Value → Value → Value → Value → Value → Value → Value → Value → Value → Value → Value → Value → Value → Act) : Exit → Act → World → Prop := fun e a' wx =>
  e = .normal ∧ ∃ c2 f2 d2 t11 t13 t72 t73 t74 t75 t76 t77 t78 t79 t80 t81 t82 t83 t84 t85 t86 t87 t88 t89 t90, a' = fr t11 t13 t72 t73 t74 t75 t76 t77 t78 t79 t80 t81 t82 t83 t84 t85 t86 t87 t88 t89 t90 ∧ (f2, c2) = nx s ids (f0, c) y ∧ NS w wx s c2 cc f2 f1 d2 d1 ∧ wx.heap[yb]? = some (.cells (ic y).toArray 25 (0, 0))
/-- What the second half leaves. -/
def PB (w : World) (s c d0 : Int) (f0 : Bool) (fr : Value → Value → Value → Value → Value → Value → Value → Value → Value → Value → Value → Value → Value → Value → Value → Value → Value → Value → Value → Value → Value → Value → Value → Value → Value → Value → Act) : Exit → Act → World → Prop := fun e a' wx =>
  e = .normal ∧ ∃ cc2 f2 d2 t12 t14 t91 t92 t93 t94 t95 t96 t97 t98 t99 t100 t101 t102 t103 t104 t105 t106 t107 t108 t109 t110 t111 t112 t113 t114, a' = fr t12 t14 t91 t92 t93 t94 t95 t96 t97 t98 t99 t100 t101 t102 t103 t104 t105 t106 t107 t108 t109 t110 t111 t112 t113 t114 ∧ NS w wx s c cc2 f0 f2 d0 d2

section
variable {P : Program} {ops : Array Oper} {a : Act} {Q : Exit → Act → World → Prop} {K : Act → World → Prop}
theorem op_store41 (i : Nat) {o : Oper} {w : World} (hi : ops[i]? = some o) (hd : o.dst = none) (hw : Region.wanted o (yielded ops a.tmps) = true) (x y : Operand) (ho : o.op = .store 41 x y) (b : Nat) (cs : List Value) (hx : a.eval x = .pointer (some ⟨b, 0, none⟩)) (hy : a.eval y = .agg cs.toArray) (cur : Array Value) {t : TypeId} (hb : w.heap[b]? = some (.cells cur t (0, 0))) (hs : cur.size = cs.length) (hsz : (P.info? 41).map (·.size) = some cs.length) (h1 : ∀ v ∈ cs, v.oneCell' = true)
    (h : ∀ w', w'.heap[b]? = some (.cells cs.toArray t (0, 0)) → w.grownBy w' (some b) → K (a.put none undef) w') : wpOp P ops Q i K a w := by
  have hh := h _ (setRow_heap _ _ _ _ _ _ hb) ⟨rfl, rfl, rfl, by simp [World.setRow], fun k _ hk => setRow_other _ _ _ _ (fun e => hk (by rw [e]))⟩
  have hr := run_store_blk (P := P) hb hs hsz h1
  unfold wpOp
  simp only [hi, hw, if_true, Oper.wp]
  unfold execOp
  simp only [ho, hx, hy, Instr.storeAt, Instr.sureAddr, Sem.run_bind, Sem.run_pure, Result.andThen_ok, hr, Oper.upon]
  rw [hd]
  exact .inl hh
end

attribute [local irreducible] wpList in
set_option maxRecDepth 1000000 in
set_option maxHeartbeats 8000000 in
theorem partA (w u : World) (p yb : Nat) (s h c' cc' d0' d1' y : Int) (f0' f1' bw : Bool) (vi vt vr : Value) (ids refs : List Int) (hs0 : Sm s) (hsy : Sm y) (t : TS w p s h vi vt vr ids refs) (n7 : NS w u s c' cc' f0' f1' d0' d1') (y6 : u.heap[yb]? = some (.cells (ic y).toArray 25 (0, 0))) (hyb : w.heap.size + 3 < yb) (hbw : Aside (bw = cwB s ids y)) (s1 s4 s7 s8 s9 s12 s13 s14 s15 s16 s17 s18 s19 s20 s21 s22 s23 s24 s25 s26 s27 s28 s29 s30 s31 s32 s33 s34 s35 s36 s37 s38 s39 s40 s41 s42 s43 s44 s45 s46 s47 s48 s49 s50 s51 s52 s53 s54 s55 s56 s57 s58 s59 s60 s61 s62 s63 s64 s65 s66 s67 s68 s69 s70 s71 s72 s73 s74 s75 s76 s77 s78 s79 s80 s81 s82 s83 s84 s85 s86 s87 s88 s89 s90 s91 s92 s93 s94 s95 s96 s97 s98 s99 s100 s101 s102 s103 s104 s105 s106 s107 s108 s109 s110 s111 s112 s113 s114 s115 s116 s117 s118 : Value) : Code.wp Ybaf.prog pA (PA w s c' cc' d1' y yb f0' f1' ids (fun t11 t13 t72 t73 t74 t75 t76 t77 t78 t79 t80 t81 t82 t83 t84 t85 t86 t87 t88 t89 t90 => ⟨[.pointer (some ⟨p, 0, none⟩), s1, .pointer (some ⟨w.heap.size, 0, none⟩), .pointer (some ⟨w.heap.size + 1, 0, none⟩), s4, .pointer (some ⟨w.heap.size + 2, 0, none⟩), .pointer (some ⟨w.heap.size + 3, 0, none⟩), s7, s8, s9, .pointer (some ⟨yb, 0, none⟩), t11, s12, t13, s14, s15, s16, s17, s18, s19, s20, s21, s22, s23, s24, s25, s26, s27, s28, s29, s30, s31, s32, s33, s34, s35, s36, s37, s38, s39, s40, s41, s42, s43, s44, s45, s46, s47, s48, s49, s50, s51, s52, s53, s54, s55, s56, s57, s58, s59, s60, s61, s62, s63, s64, s65, s66, s67, s68, s69, s70, s71, t72, t73, t74, t75, t76, t77, t78, t79, t80, t81, t82, t83, t84, t85, t86, t87, t88, t89, t90, s91, s92, s93, s94, s95, s96, s97, s98, s99, s100, s101, s102, s103, s104, s105, s106, s107, s108, s109, s110, s111, s112, s113, s114, s115, s116, s117, s118].toArray, []⟩)) ⟨[.pointer (some ⟨p, 0, none⟩), s1, .pointer (some ⟨w.heap.size, 0, none⟩), .pointer (some ⟨w.heap.size + 1, 0, none⟩), s4, .pointer (some ⟨w.heap.size + 2, 0, none⟩), .pointer (some ⟨w.heap.size + 3, 0, none⟩), s7, s8, s9, .pointer (some ⟨yb, 0, none⟩), .bool bw, s12, s13, s14, s15, s16, s17, s18, s19, s20, s21, s22, s23, s24, s25, s26, s27, s28, s29, s30, s31, s32, s33, s34, s35, s36, s37, s38, s39, s40, s41, s42, s43, s44, s45, s46, s47, s48, s49, s50, s51, s52, s53, s54, s55, s56, s57, s58, s59, s60, s61, s62, s63, s64, s65, s66, s67, s68, s69, s70, s71, s72, s73, s74, s75, s76, s77, s78, s79, s80, s81, s82, s83, s84, s85, s86, s87, s88, s89, s90, s91, s92, s93, s94, s95, s96, s97, s98, s99, s100, s101, s102, s103, s104, s105, s106, s107, s108, s109, s110, s111, s112, s113, s114, s115, s116, s117, s118].toArray, []⟩ u := by
  conv => arg 2; whnf
  obtain ⟨QA, eQA⟩ : ∃ q, q = PA w s c' cc' d1' y yb f0' f1' ids (fun t11 t13 t72 t73 t74 t75 t76 t77 t78 t79 t80 t81 t82 t83 t84 t85 t86 t87 t88 t89 t90 => ⟨[.pointer (some ⟨p, 0, none⟩), s1, .pointer (some ⟨w.heap.size, 0, none⟩), .pointer (some ⟨w.heap.size + 1, 0, none⟩), s4, .pointer (some ⟨w.heap.size + 2, 0, none⟩), .pointer (some ⟨w.heap.size + 3, 0, none⟩), s7, s8, s9, .pointer (some ⟨yb, 0, none⟩), t11, s12, t13, s14, s15, s16, s17, s18, s19, s20, s21, s22, s23, s24, s25, s26, s27, s28, s29, s30, s31, s32, s33, s34, s35, s36, s37, s38, s39, s40, s41, s42, s43, s44, s45, s46, s47, s48, s49, s50, s51, s52, s53, s54, s55, s56, s57, s58, s59, s60, s61, s62, s63, s64, s65, s66, s67, s68, s69, s70, s71, t72, t73, t74, t75, t76, t77, t78, t79, t80, t81, t82, t83, t84, t85, t86, t87, t88, t89, t90, s91, s92, s93, s94, s95, s96, s97, s98, s99, s100, s101, s102, s103, s104, s105, s106, s107, s108, s109, s110, s111, s112, s113, s114, s115, s116, s117, s118].toArray, []⟩) := ⟨_, rfl⟩
  rw [← eQA]
  have HP : Aside (∀ c a a' w, QA (.panic c) a w → QA (.panic c) a' w) := by rw [eQA]; intro c a a' w h; exact absurd h.1 (by simp)
  have HQ : Hid _ := eQA
  clear eQA
  go_wp2_with fail
  refine (dist23 hs0 hsy (t.kept n7.g).blk (range_of_blk y6)).mono ?_
  rintro e u8 ⟨rfl, q8⟩
  have n8 := n7.kept q8
  have y8 := keep_blk q8 y6 (by simp)
  clear n7 y6 t
  cases bw with
  | true =>
    have hcw : cwB s ids y = true := hbw.out.symm
    clear hbw
    cases f0' with
    | false =>
      have B2 : Aside (nx s ids (false, c') y = (true, y)) := by simp [Aside, nx, hcw]
      clear hcw
      go_upto_region 16 with (first
        | (refine wpList_is (.alloc 41) rfl ?_; refine wpList_alloc41 rfl rfl ?_)
          | (refine wpList_is (.store 41 (.tmp 13) (.tmp 73)) rfl ?_; refine wpList_store_blk rfl 41 (.tmp 13) (.tmp 73) rfl u8.heap.size (uN (D s y)) rfl rfl _ _ (heap_alloc_new u8 _) rfl (size41n _) (un_one _) ?_; intro u9 z9 q9; have k9 : u8.grownBy u9 none := grown_new q9; have n9 := n8.kept k9; have y9 := keep_blk k9 y8 (by simp); clear q9 k9)
        | (refine wpList_is (.indexAddr 65 (.tmp 6) (.const (.int .i64 0))) rfl ?_; refine wpList_valG (by kernel_rfl) (.pointer (some ⟨w.heap.size + 3, 0, none⟩)) (by kernel_rfl) ?_; simp only [Act.put, List.setIfInBounds_toArray, List.set_cons_zero, List.set_cons_succ])
        | (refine wpList_is (.load 4 (.tmp 76)) rfl ?_; refine wpList_execG (by kernel_rfl) (.bool false) (exec_load_cell 4 (.tmp 76) rfl (w.heap.size + 3) 0 rfl _ _ n9.b6 _ Ybaf.underlying4 rfl _ rfl) ?_; simp only [Act.put, List.setIfInBounds_toArray, List.set_cons_zero, List.set_cons_succ])
        | (refine wpList_is (.unOp .not 4 (.tmp 77)) rfl ?_; refine wpList_valG (by kernel_rfl) (.bool true) (by kernel_rfl) ?_; simp only [Act.put, List.setIfInBounds_toArray, List.set_cons_zero, List.set_cons_succ])
        | (refine wpList_is (.move (.tmp 78)) rfl ?_; refine wpList_valG (by kernel_rfl) (.bool true) (by kernel_rfl) ?_; simp only [Act.put, List.setIfInBounds_toArray, List.set_cons_zero, List.set_cons_succ])
        | (refine wpList_is (.pick (.tmp 79) (.const (.bool true)) (.tmp 84)) rfl ?_; refine wpList_valG (by kernel_rfl) (.bool true) (by kernel_rfl) ?_; simp only [Act.put, List.setIfInBounds_toArray, List.set_cons_zero, List.set_cons_succ])
        | (refine wpList_is (.load 41 (.tmp 13)) rfl ?_; refine wpList_skipG (by kernel_rfl) ?_; simp only [Act.put, List.setIfInBounds_toArray, List.set_cons_zero, List.set_cons_succ])
        | (refine wpList_is (.indexAddr 64 (.tmp 5) (.const (.int .i64 0))) rfl ?_; refine wpList_skipG (by kernel_rfl) ?_; simp only [Act.put, List.setIfInBounds_toArray, List.set_cons_zero, List.set_cons_succ])
        | (refine wpList_is (.load 41 (.tmp 81)) rfl ?_; refine wpList_skipG (by kernel_rfl) ?_; simp only [Act.put, List.setIfInBounds_toArray, List.set_cons_zero, List.set_cons_succ])
        | (refine wpList_is (.call { callee := .value (.func 24), args := #[.tmp 80, .tmp 82], argTypes := #[41, 41] }) rfl ?_; refine wpList_skipG (by kernel_rfl) ?_; simp only [Act.put, List.setIfInBounds_toArray, List.set_cons_zero, List.set_cons_succ])
        | (refine wpList_is (.binOp .lss 3 (.tmp 83) (.const (.int .i64 0)) 3) rfl ?_; refine wpList_skipG (by kernel_rfl) ?_; simp only [Act.put, List.setIfInBounds_toArray, List.set_cons_zero, List.set_cons_succ]))
      obtain ⟨db, edb⟩ : ∃ b, b = u8.heap.size := ⟨_, rfl⟩
      have hdb : w.heap.size + 3 < db := by
        have := (Array.getElem?_eq_some_iff.1 n8.b6).1
        omega
      rw [← edb] at z9 ⊢
      clear edb
      refine wp_region_held (S := fun w' : World => w'.heap[yb]? = some (.cells (ic y).toArray 25 (0, 0)) ∧ w'.heap[db]? = some (.cells (uN (D s y)).toArray 41 (0, 0))) (by kernel_rfl) ?_
      have nA := n9.kept (grown_drew _)
      have hS : (fun w' : World => w'.heap[yb]? = some (.cells (ic y).toArray 25 (0, 0)) ∧ w'.heap[db]? = some (.cells (uN (D s y)).toArray 41 (0, 0))) { u9 with drawn := u9.drawn + 1 } := ⟨y9, z9⟩
      clear n9
      generalize ({ u9 with drawn := u9.drawn + 1 } : World) = uA at *
      refine any_take 0 (some 87) (.agg (ic y).toArray) rfl rfl (by kernel_rfl) (by kernel_rfl) (by kernel_rfl) (fun c _ w h => HP.out c _ _ w h) (yld_blk (by kernel_rfl) 25 (.tmp 10) rfl yb (by kernel_rfl) (ic y) 25 (fun _ h => h.1) _ Ybaf.underlying25 rfl (size25 _)) (by assumption) ?_
      simp only [Act.put, List.setIfInBounds_toArray, List.set_cons_zero, List.set_cons_succ]
      refine any_take 1 (some 88) (.agg (uN (D s y)).toArray) rfl rfl (by kernel_rfl) (by kernel_rfl) (by kernel_rfl) (fun c _ w h => HP.out c _ _ w h) (yld_blk (by kernel_rfl) 41 (.tmp 13) rfl db (by kernel_rfl) (uN (D s y)) 41 (fun _ h => h.2) _ Ybaf.underlying41 rfl (size41n _)) (by assumption) ?_
      simp only [Act.put, List.setIfInBounds_toArray, List.set_cons_zero, List.set_cons_succ]
      refine any_store_blk 2 rfl rfl (by kernel_rfl) (by kernel_rfl) 25 (.tmp 2) (.tmp 87) rfl (w.heap.size) (ic y) (by kernel_rfl) (by kernel_rfl) _ _ nA.b2 rfl (size25 _) (ic_one _) ?_
      intro uB hB qB
      have hSB : (fun w' : World => w'.heap[yb]? = some (.cells (ic y).toArray 25 (0, 0)) ∧ w'.heap[db]? = some (.cells (uN (D s y)).toArray 41 (0, 0))) uB := ⟨keep_blk qB hS.1 (by simp; omega), keep_blk qB hS.2 (by simp; omega)⟩
      refine ⟨hSB, ?_⟩
      simp only [Act.put]
      refine any_take 3 (some 89) (.pointer (some ⟨w.heap.size + 2, 0, none⟩)) rfl rfl (by kernel_rfl) (by kernel_rfl) (by kernel_rfl) (fun c _ w h => HP.out c _ _ w h) (.inl ⟨by kernel_rfl, fun _ _ => by kernel_rfl⟩) (by assumption) ?_
      simp only [Act.put, List.setIfInBounds_toArray, List.set_cons_zero, List.set_cons_succ]
      refine any_store_mid 4 rfl rfl (by kernel_rfl) (by kernel_rfl) 41 (.tmp 89) (.tmp 88) rfl (w.heap.size + 2) 0 [] (uN d0') (uN (D s y)) (uN d1') rfl (by kernel_rfl) (by kernel_rfl) 64 (by rw [List.nil_append]; exact keep_blk qB nA.b5 (by simp)) rfl (size41n _) (un_one _) ?_
      intro uC hC qC
      have hSC : (fun w' : World => w'.heap[yb]? = some (.cells (ic y).toArray 25 (0, 0)) ∧ w'.heap[db]? = some (.cells (uN (D s y)).toArray 41 (0, 0))) uC := ⟨keep_blk qC hSB.1 (by simp; omega), keep_blk qC hSB.2 (by simp; omega)⟩
      refine ⟨hSC, ?_⟩
      simp only [Act.put]
      refine any_take 5 (some 90) (.pointer (some ⟨w.heap.size + 3, 0, none⟩)) rfl rfl (by kernel_rfl) (by kernel_rfl) (by kernel_rfl) (fun c _ w h => HP.out c _ _ w h) (.inl ⟨by kernel_rfl, fun _ _ => by kernel_rfl⟩) (by assumption) ?_
      simp only [Act.put, List.setIfInBounds_toArray, List.set_cons_zero, List.set_cons_succ]
      refine any_store 6 rfl rfl (by kernel_rfl) (by kernel_rfl) 4 (.tmp 90) (.const (.bool true)) rfl (w.heap.size + 3) 0 (.bool true) (by kernel_rfl) rfl [.bool false, .bool f1'] 65 (keep_blk qC (keep_blk qB nA.b6 (by simp)) (by simp)) size4 (by simp) rfl [.bool true, .bool f1'] rfl ?_
      intro uD hD qD
      refine ⟨⟨keep_blk qD hSC.1 (by simp; omega), keep_blk qD hSC.2 (by simp; omega)⟩, ?_⟩
      have yD := keep_blk qD hSC.1 (by simp; omega)
      have nD := nA.put (c' := y) (cc' := cc') (f0' := true) (f1' := f1') (d0' := (D s y)) (d1' := d1') (w.heap.size) (.inl rfl) qB qC qD hB (keep_blk qB nA.b3 (by simp)) (by first | exact hC | (rw [List.nil_append] at hC; exact hC) | (rw [List.append_nil] at hC; exact hC)) hD hsy nA.scc (fun _ => rfl)
      simp only [Act.put]
      refine wpAnyH_done (by kernel_rfl) ?_ _
      clear hS hSB hSC qB qC qD hB hC hD nA
      unfold Hid at HQ
      rw [HQ]
      exact ⟨rfl, y, true, D s y, _, _, _, _, _, _, _, _, _, _, _, _, _, _, _, _, _, _, _, _, _, rfl, B2.out.symm, nD, yD⟩
    | true =>
      have e0 := n8.fd rfl
      by_cases hlt : D s y < d0'
      · have B2 : Aside (nx s ids (true, c') y = (true, y)) := by simp [Aside, nx, hcw, ← e0, hlt]
        clear hcw e0
        go_wp2_with (first
          | (refine wpList_is (.alloc 41) rfl ?_; refine wpList_alloc41 rfl rfl ?_)
            | (refine wpList_is (.store 41 (.tmp 13) (.tmp 73)) rfl ?_; refine wpList_store_blk rfl 41 (.tmp 13) (.tmp 73) rfl u8.heap.size (uN (D s y)) rfl rfl _ _ (heap_alloc_new u8 _) rfl (size41n _) (un_one _) ?_; intro u9 z9 q9; have k9 : u8.grownBy u9 none := grown_new q9; have n9 := n8.kept k9; have y9 := keep_blk k9 y8 (by simp); clear q9 k9)
          | (refine wpList_is (.indexAddr 65 (.tmp 6) (.const (.int .i64 0))) rfl ?_; refine wpList_valG (by kernel_rfl) (.pointer (some ⟨w.heap.size + 3, 0, none⟩)) (by kernel_rfl) ?_; simp only [Act.put, List.setIfInBounds_toArray, List.set_cons_zero, List.set_cons_succ])
          | (refine wpList_is (.load 4 (.tmp 76)) rfl ?_; refine wpList_execG (by kernel_rfl) (.bool true) (exec_load_cell 4 (.tmp 76) rfl (w.heap.size + 3) 0 rfl _ _ n9.b6 _ Ybaf.underlying4 rfl _ rfl) ?_; simp only [Act.put, List.setIfInBounds_toArray, List.set_cons_zero, List.set_cons_succ])
          | (refine wpList_is (.unOp .not 4 (.tmp 77)) rfl ?_; refine wpList_valG (by kernel_rfl) (.bool false) (by kernel_rfl) ?_; simp only [Act.put, List.setIfInBounds_toArray, List.set_cons_zero, List.set_cons_succ])
          | (refine wpList_is (.move (.tmp 78)) rfl ?_; refine wpList_valG (by kernel_rfl) (.bool false) (by kernel_rfl) ?_; simp only [Act.put, List.setIfInBounds_toArray, List.set_cons_zero, List.set_cons_succ])
          | (refine wpList_is (.load 41 (.tmp 13)) rfl ?_; refine wpList_execG (by kernel_rfl) _ (exec_load_row 41 (.tmp 13) rfl u8.heap.size 0 rfl (uN (D s y)) _ (range_of_blk z9) Ybaf.underlying41 rfl (size41n _)) ?_; simp only [Act.put, List.setIfInBounds_toArray, List.set_cons_zero, List.set_cons_succ])
          | (refine wpList_is (.load 41 (.tmp 81)) rfl ?_; refine wpList_execG (by kernel_rfl) _ (exec_load_row 41 (.tmp 81) rfl (w.heap.size + 2) 0 rfl (uN d0') _ n9.r0 Ybaf.underlying41 rfl (size41n _)) ?_; simp only [Act.put, List.setIfInBounds_toArray, List.set_cons_zero, List.set_cons_succ])
          | (refine wpList_is (.indexAddr 64 (.tmp 5) (.const (.int .i64 0))) rfl ?_; refine wpList_valG (by kernel_rfl) (.pointer (some ⟨w.heap.size + 2, 0, none⟩)) (by kernel_rfl) ?_; simp only [Act.put, List.setIfInBounds_toArray, List.set_cons_zero, List.set_cons_succ])
          | (refine wpList_is (.call { callee := .value (.func 24), args := #[.tmp 80, .tmp 82], argTypes := #[41, 41] }) rfl ?_; refine wpList_callG (by kernel_rfl) 24 #[.agg (uN (D s y)).toArray, .agg (uN d0').toArray] (by kernel_rfl) ?_))
        refine (cmp_un _).mono ?_
        rintro e uE ⟨rfl, qE⟩
        refine ⟨_, rfl, ?_⟩
        try simp only [Act.put, List.setIfInBounds_toArray, List.set_cons_zero, List.set_cons_succ]
        have nE := n9.kept qE
        have yE := keep_blk qE y9 (by simp)
        have zE := keep_blk qE z9 (by simp)
        clear n9 y9 z9
        go_upto_region 16 with (first
          | (refine wpList_is (.binOp .lss 3 (.tmp 83) (.const (.int .i64 0)) 3) rfl ?_; refine wpList_valG (by kernel_rfl) (.bool true) ((exec_lss (.tmp 83) rfl (D s y) d0' (by kernel_rfl)).trans (by simp [hlt])) ?_; simp only [Act.put, List.setIfInBounds_toArray, List.set_cons_zero, List.set_cons_succ])
          | (refine wpList_is (.pick (.tmp 79) (.const (.bool true)) (.tmp 84)) rfl ?_; refine wpList_valG (by kernel_rfl) (.bool true) (by kernel_rfl) ?_; simp only [Act.put, List.setIfInBounds_toArray, List.set_cons_zero, List.set_cons_succ]))
        obtain ⟨db, edb⟩ : ∃ b, b = u8.heap.size := ⟨_, rfl⟩
        have hdb : w.heap.size + 3 < db := by
          have := (Array.getElem?_eq_some_iff.1 n8.b6).1
          omega
        rw [← edb] at zE ⊢
        clear edb
        refine wp_region_held (S := fun w' : World => w'.heap[yb]? = some (.cells (ic y).toArray 25 (0, 0)) ∧ w'.heap[db]? = some (.cells (uN (D s y)).toArray 41 (0, 0))) (by kernel_rfl) ?_
        have nA := nE.kept (grown_drew _)
        have hS : (fun w' : World => w'.heap[yb]? = some (.cells (ic y).toArray 25 (0, 0)) ∧ w'.heap[db]? = some (.cells (uN (D s y)).toArray 41 (0, 0))) { uE with drawn := uE.drawn + 1 } := ⟨yE, zE⟩
        clear nE
        generalize ({ uE with drawn := uE.drawn + 1 } : World) = uA at *
        refine any_take 0 (some 87) (.agg (ic y).toArray) rfl rfl (by kernel_rfl) (by kernel_rfl) (by kernel_rfl) (fun c _ w h => HP.out c _ _ w h) (yld_blk (by kernel_rfl) 25 (.tmp 10) rfl yb (by kernel_rfl) (ic y) 25 (fun _ h => h.1) _ Ybaf.underlying25 rfl (size25 _)) (by assumption) ?_
        simp only [Act.put, List.setIfInBounds_toArray, List.set_cons_zero, List.set_cons_succ]
        refine any_take 1 (some 88) (.agg (uN (D s y)).toArray) rfl rfl (by kernel_rfl) (by kernel_rfl) (by kernel_rfl) (fun c _ w h => HP.out c _ _ w h) (yld_blk (by kernel_rfl) 41 (.tmp 13) rfl db (by kernel_rfl) (uN (D s y)) 41 (fun _ h => h.2) _ Ybaf.underlying41 rfl (size41n _)) (by assumption) ?_
        simp only [Act.put, List.setIfInBounds_toArray, List.set_cons_zero, List.set_cons_succ]
        refine any_store_blk 2 rfl rfl (by kernel_rfl) (by kernel_rfl) 25 (.tmp 2) (.tmp 87) rfl (w.heap.size) (ic y) (by kernel_rfl) (by kernel_rfl) _ _ nA.b2 rfl (size25 _) (ic_one _) ?_
        intro uB hB qB
        have hSB : (fun w' : World => w'.heap[yb]? = some (.cells (ic y).toArray 25 (0, 0)) ∧ w'.heap[db]? = some (.cells (uN (D s y)).toArray 41 (0, 0))) uB := ⟨keep_blk qB hS.1 (by simp; omega), keep_blk qB hS.2 (by simp; omega)⟩
        refine ⟨hSB, ?_⟩
        simp only [Act.put]
        refine any_take 3 (some 89) (.pointer (some ⟨w.heap.size + 2, 0, none⟩)) rfl rfl (by kernel_rfl) (by kernel_rfl) (by kernel_rfl) (fun c _ w h => HP.out c _ _ w h) (.inl ⟨by kernel_rfl, fun _ _ => by kernel_rfl⟩) (by assumption) ?_
        simp only [Act.put, List.setIfInBounds_toArray, List.set_cons_zero, List.set_cons_succ]
        refine any_store_mid 4 rfl rfl (by kernel_rfl) (by kernel_rfl) 41 (.tmp 89) (.tmp 88) rfl (w.heap.size + 2) 0 [] (uN d0') (uN (D s y)) (uN d1') rfl (by kernel_rfl) (by kernel_rfl) 64 (by rw [List.nil_append]; exact keep_blk qB nA.b5 (by simp)) rfl (size41n _) (un_one _) ?_
        intro uC hC qC
        have hSC : (fun w' : World => w'.heap[yb]? = some (.cells (ic y).toArray 25 (0, 0)) ∧ w'.heap[db]? = some (.cells (uN (D s y)).toArray 41 (0, 0))) uC := ⟨keep_blk qC hSB.1 (by simp; omega), keep_blk qC hSB.2 (by simp; omega)⟩
        refine ⟨hSC, ?_⟩
        simp only [Act.put]
        refine any_take 5 (some 90) (.pointer (some ⟨w.heap.size + 3, 0, none⟩)) rfl rfl (by kernel_rfl) (by kernel_rfl) (by kernel_rfl) (fun c _ w h => HP.out c _ _ w h) (.inl ⟨by kernel_rfl, fun _ _ => by kernel_rfl⟩) (by assumption) ?_
        simp only [Act.put, List.setIfInBounds_toArray, List.set_cons_zero, List.set_cons_succ]
        refine any_store 6 rfl rfl (by kernel_rfl) (by kernel_rfl) 4 (.tmp 90) (.const (.bool true)) rfl (w.heap.size + 3) 0 (.bool true) (by kernel_rfl) rfl [.bool true, .bool f1'] 65 (keep_blk qC (keep_blk qB nA.b6 (by simp)) (by simp)) size4 (by simp) rfl [.bool true, .bool f1'] rfl ?_
        intro uD hD qD
        refine ⟨⟨keep_blk qD hSC.1 (by simp; omega), keep_blk qD hSC.2 (by simp; omega)⟩, ?_⟩
        have yD := keep_blk qD hSC.1 (by simp; omega)
        have nD := nA.put (c' := y) (cc' := cc') (f0' := true) (f1' := f1') (d0' := (D s y)) (d1' := d1') (w.heap.size) (.inl rfl) qB qC qD hB (keep_blk qB nA.b3 (by simp)) (by first | exact hC | (rw [List.nil_append] at hC; exact hC) | (rw [List.append_nil] at hC; exact hC)) hD hsy nA.scc (fun _ => rfl)
        simp only [Act.put]
        refine wpAnyH_done (by kernel_rfl) ?_ _
        clear hS hSB hSC qB qC qD hB hC hD nA
        unfold Hid at HQ
        rw [HQ]
        exact ⟨rfl, y, true, D s y, _, _, _, _, _, _, _, _, _, _, _, _, _, _, _, _, _, _, _, _, _, rfl, B2.out.symm, nD, yD⟩
      · have B2 : Aside (nx s ids (true, c') y = (true, c')) := by simp [Aside, nx, ← e0]; omega
        clear hcw e0
        go_wp2_with (first
          | (refine wpList_is (.alloc 41) rfl ?_; refine wpList_alloc41 rfl rfl ?_)
            | (refine wpList_is (.store 41 (.tmp 13) (.tmp 73)) rfl ?_; refine wpList_store_blk rfl 41 (.tmp 13) (.tmp 73) rfl u8.heap.size (uN (D s y)) rfl rfl _ _ (heap_alloc_new u8 _) rfl (size41n _) (un_one _) ?_; intro u9 z9 q9; have k9 : u8.grownBy u9 none := grown_new q9; have n9 := n8.kept k9; have y9 := keep_blk k9 y8 (by simp); clear q9 k9)
          | (refine wpList_is (.indexAddr 65 (.tmp 6) (.const (.int .i64 0))) rfl ?_; refine wpList_valG (by kernel_rfl) (.pointer (some ⟨w.heap.size + 3, 0, none⟩)) (by kernel_rfl) ?_; simp only [Act.put, List.setIfInBounds_toArray, List.set_cons_zero, List.set_cons_succ])
          | (refine wpList_is (.load 4 (.tmp 76)) rfl ?_; refine wpList_execG (by kernel_rfl) (.bool true) (exec_load_cell 4 (.tmp 76) rfl (w.heap.size + 3) 0 rfl _ _ n9.b6 _ Ybaf.underlying4 rfl _ rfl) ?_; simp only [Act.put, List.setIfInBounds_toArray, List.set_cons_zero, List.set_cons_succ])
          | (refine wpList_is (.unOp .not 4 (.tmp 77)) rfl ?_; refine wpList_valG (by kernel_rfl) (.bool false) (by kernel_rfl) ?_; simp only [Act.put, List.setIfInBounds_toArray, List.set_cons_zero, List.set_cons_succ])
          | (refine wpList_is (.move (.tmp 78)) rfl ?_; refine wpList_valG (by kernel_rfl) (.bool false) (by kernel_rfl) ?_; simp only [Act.put, List.setIfInBounds_toArray, List.set_cons_zero, List.set_cons_succ])
          | (refine wpList_is (.load 41 (.tmp 13)) rfl ?_; refine wpList_execG (by kernel_rfl) _ (exec_load_row 41 (.tmp 13) rfl u8.heap.size 0 rfl (uN (D s y)) _ (range_of_blk z9) Ybaf.underlying41 rfl (size41n _)) ?_; simp only [Act.put, List.setIfInBounds_toArray, List.set_cons_zero, List.set_cons_succ])
          | (refine wpList_is (.load 41 (.tmp 81)) rfl ?_; refine wpList_execG (by kernel_rfl) _ (exec_load_row 41 (.tmp 81) rfl (w.heap.size + 2) 0 rfl (uN d0') _ n9.r0 Ybaf.underlying41 rfl (size41n _)) ?_; simp only [Act.put, List.setIfInBounds_toArray, List.set_cons_zero, List.set_cons_succ])
          | (refine wpList_is (.indexAddr 64 (.tmp 5) (.const (.int .i64 0))) rfl ?_; refine wpList_valG (by kernel_rfl) (.pointer (some ⟨w.heap.size + 2, 0, none⟩)) (by kernel_rfl) ?_; simp only [Act.put, List.setIfInBounds_toArray, List.set_cons_zero, List.set_cons_succ])
          | (refine wpList_is (.call { callee := .value (.func 24), args := #[.tmp 80, .tmp 82], argTypes := #[41, 41] }) rfl ?_; refine wpList_callG (by kernel_rfl) 24 #[.agg (uN (D s y)).toArray, .agg (uN d0').toArray] (by kernel_rfl) ?_))
        refine (cmp_un _).mono ?_
        rintro e uE ⟨rfl, qE⟩
        refine ⟨_, rfl, ?_⟩
        try simp only [Act.put, List.setIfInBounds_toArray, List.set_cons_zero, List.set_cons_succ]
        have nE := n9.kept qE
        have yE := keep_blk qE y9 (by simp)
        clear n9 y9 z9
        go_wp2_with (first
          | (refine wpList_is (.binOp .lss 3 (.tmp 83) (.const (.int .i64 0)) 3) rfl ?_; refine wpList_valG (by kernel_rfl) (.bool false) ((exec_lss (.tmp 83) rfl (D s y) d0' (by kernel_rfl)).trans (by simp [hlt])) ?_; simp only [Act.put, List.setIfInBounds_toArray, List.set_cons_zero, List.set_cons_succ])
          | (refine wpList_is (.pick (.tmp 79) (.const (.bool true)) (.tmp 84)) rfl ?_; refine wpList_valG (by kernel_rfl) (.bool false) (by kernel_rfl) ?_; simp only [Act.put, List.setIfInBounds_toArray, List.set_cons_zero, List.set_cons_succ]))
        unfold Hid at HQ
        rw [HQ]
        exact ⟨rfl, c', true, d0', _, _, _, _, _, _, _, _, _, _, _, _, _, _, _, _, _, _, _, _, _, rfl, B2.out.symm, nE, yE⟩
  | false =>
    have hcw : cwB s ids y = false := hbw.out.symm
    have B2 : Aside (nx s ids (f0', c') y = (f0', c')) := by simp [Aside, nx, hcw]
    clear hcw hbw
    go_wp2_with (first
      | (refine wpList_is (.alloc 41) rfl ?_; refine wpList_alloc41 rfl rfl ?_)
        | (refine wpList_is (.store 41 (.tmp 13) (.tmp 73)) rfl ?_; refine wpList_store_blk rfl 41 (.tmp 13) (.tmp 73) rfl u8.heap.size (uN (D s y)) rfl rfl _ _ (heap_alloc_new u8 _) rfl (size41n _) (un_one _) ?_; intro u9 z9 q9; have k9 : u8.grownBy u9 none := grown_new q9; have n9 := n8.kept k9; have y9 := keep_blk k9 y8 (by simp); clear q9 k9)
      | (refine wpList_is (.load 41 (.tmp 13)) rfl ?_; refine wpList_skipG (by kernel_rfl) ?_; simp only [Act.put, List.setIfInBounds_toArray, List.set_cons_zero, List.set_cons_succ])
      | (refine wpList_is (.indexAddr 64 (.tmp 5) (.const (.int .i64 0))) rfl ?_; refine wpList_skipG (by kernel_rfl) ?_; simp only [Act.put, List.setIfInBounds_toArray, List.set_cons_zero, List.set_cons_succ])
      | (refine wpList_is (.load 41 (.tmp 81)) rfl ?_; refine wpList_skipG (by kernel_rfl) ?_; simp only [Act.put, List.setIfInBounds_toArray, List.set_cons_zero, List.set_cons_succ])
      | (refine wpList_is (.call { callee := .value (.func 24), args := #[.tmp 80, .tmp 82], argTypes := #[41, 41] }) rfl ?_; refine wpList_skipG (by kernel_rfl) ?_; simp only [Act.put, List.setIfInBounds_toArray, List.set_cons_zero, List.set_cons_succ])
      | (refine wpList_is (.binOp .lss 3 (.tmp 83) (.const (.int .i64 0)) 3) rfl ?_; refine wpList_skipG (by kernel_rfl) ?_; simp only [Act.put, List.setIfInBounds_toArray, List.set_cons_zero, List.set_cons_succ])
      | (refine wpList_is (.indexAddr 65 (.tmp 6) (.const (.int .i64 0))) rfl ?_; refine wpList_skipG (by kernel_rfl) ?_; simp only [Act.put, List.setIfInBounds_toArray, List.set_cons_zero, List.set_cons_succ])
      | (refine wpList_is (.load 4 (.tmp 76)) rfl ?_; refine wpList_skipG (by kernel_rfl) ?_; simp only [Act.put, List.setIfInBounds_toArray, List.set_cons_zero, List.set_cons_succ])
      | (refine wpList_is (.unOp .not 4 (.tmp 77)) rfl ?_; refine wpList_skipG (by kernel_rfl) ?_; simp only [Act.put, List.setIfInBounds_toArray, List.set_cons_zero, List.set_cons_succ])
      | (refine wpList_is (.move (.tmp 78)) rfl ?_; refine wpList_skipG (by kernel_rfl) ?_; simp only [Act.put, List.setIfInBounds_toArray, List.set_cons_zero, List.set_cons_succ])
      | (refine wpList_is (.pick (.tmp 79) (.const (.bool true)) (.tmp 84)) rfl ?_; refine wpList_skipG (by kernel_rfl) ?_; simp only [Act.put, List.setIfInBounds_toArray, List.set_cons_zero, List.set_cons_succ]))
    unfold Hid at HQ
    rw [HQ]
    exact ⟨rfl, c', f0', d0', _, _, _, _, _, _, _, _, _, _, _, _, _, _, _, _, _, _, _, _, _, rfl, B2.out.symm, n9, y9⟩

attribute [local irreducible] wpList in
set_option maxRecDepth 1000000 in
set_option maxHeartbeats 8000000 in
theorem partB (w u : World) (p yb : Nat) (s h c' cc' d0' d1' y : Int) (f0' f1' bb : Bool) (vi vt vr : Value) (ids refs : List Int) (hs0 : Sm s) (hsy : Sm y) (t : TS w p s h vi vt vr ids refs) (n7 : NS w u s c' cc' f0' f1' d0' d1') (y6 : u.heap[yb]? = some (.cells (ic y).toArray 25 (0, 0))) (hyb : w.heap.size + 3 < yb) (s1 s4 s7 s8 s9 s11 s13 s14 s15 s16 s17 s18 s19 s20 s21 s22 s23 s24 s25 s26 s27 s28 s29 s30 s31 s32 s33 s34 s35 s36 s37 s38 s39 s40 s41 s42 s43 s44 s45 s46 s47 s48 s49 s50 s51 s52 s53 s54 s55 s56 s57 s58 s59 s60 s61 s62 s63 s64 s65 s66 s67 s68 s69 s70 s71 s72 s73 s74 s75 s76 s77 s78 s79 s80 s81 s82 s83 s84 s85 s86 s87 s88 s89 s90 s91 s92 s93 s94 s95 s96 s97 s98 s99 s100 s101 s102 s103 s104 s105 s106 s107 s108 s109 s110 s111 s112 s113 s114 s115 s116 s117 s118 : Value) : Code.wp Ybaf.prog pB (PB w s c' d0' f0' (fun t12 t14 t91 t92 t93 t94 t95 t96 t97 t98 t99 t100 t101 t102 t103 t104 t105 t106 t107 t108 t109 t110 t111 t112 t113 t114 => ⟨[.pointer (some ⟨p, 0, none⟩), s1, .pointer (some ⟨w.heap.size, 0, none⟩), .pointer (some ⟨w.heap.size + 1, 0, none⟩), s4, .pointer (some ⟨w.heap.size + 2, 0, none⟩), .pointer (some ⟨w.heap.size + 3, 0, none⟩), s7, s8, s9, .pointer (some ⟨yb, 0, none⟩), s11, t12, s13, t14, s15, s16, s17, s18, s19, s20, s21, s22, s23, s24, s25, s26, s27, s28, s29, s30, s31, s32, s33, s34, s35, s36, s37, s38, s39, s40, s41, s42, s43, s44, s45, s46, s47, s48, s49, s50, s51, s52, s53, s54, s55, s56, s57, s58, s59, s60, s61, s62, s63, s64, s65, s66, s67, s68, s69, s70, s71, s72, s73, s74, s75, s76, s77, s78, s79, s80, s81, s82, s83, s84, s85, s86, s87, s88, s89, s90, t91, t92, t93, t94, t95, t96, t97, t98, t99, t100, t101, t102, t103, t104, t105, t106, t107, t108, t109, t110, t111, t112, t113, t114, s115, s116, s117, s118].toArray, []⟩)) ⟨[.pointer (some ⟨p, 0, none⟩), s1, .pointer (some ⟨w.heap.size, 0, none⟩), .pointer (some ⟨w.heap.size + 1, 0, none⟩), s4, .pointer (some ⟨w.heap.size + 2, 0, none⟩), .pointer (some ⟨w.heap.size + 3, 0, none⟩), s7, s8, s9, .pointer (some ⟨yb, 0, none⟩), s11, .bool bb, s13, s14, s15, s16, s17, s18, s19, s20, s21, s22, s23, s24, s25, s26, s27, s28, s29, s30, s31, s32, s33, s34, s35, s36, s37, s38, s39, s40, s41, s42, s43, s44, s45, s46, s47, s48, s49, s50, s51, s52, s53, s54, s55, s56, s57, s58, s59, s60, s61, s62, s63, s64, s65, s66, s67, s68, s69, s70, s71, s72, s73, s74, s75, s76, s77, s78, s79, s80, s81, s82, s83, s84, s85, s86, s87, s88, s89, s90, s91, s92, s93, s94, s95, s96, s97, s98, s99, s100, s101, s102, s103, s104, s105, s106, s107, s108, s109, s110, s111, s112, s113, s114, s115, s116, s117, s118].toArray, []⟩ u := by
  conv => arg 2; whnf
  obtain ⟨QB, eQB⟩ : ∃ q, q = PB w s c' d0' f0' (fun t12 t14 t91 t92 t93 t94 t95 t96 t97 t98 t99 t100 t101 t102 t103 t104 t105 t106 t107 t108 t109 t110 t111 t112 t113 t114 => ⟨[.pointer (some ⟨p, 0, none⟩), s1, .pointer (some ⟨w.heap.size, 0, none⟩), .pointer (some ⟨w.heap.size + 1, 0, none⟩), s4, .pointer (some ⟨w.heap.size + 2, 0, none⟩), .pointer (some ⟨w.heap.size + 3, 0, none⟩), s7, s8, s9, .pointer (some ⟨yb, 0, none⟩), s11, t12, s13, t14, s15, s16, s17, s18, s19, s20, s21, s22, s23, s24, s25, s26, s27, s28, s29, s30, s31, s32, s33, s34, s35, s36, s37, s38, s39, s40, s41, s42, s43, s44, s45, s46, s47, s48, s49, s50, s51, s52, s53, s54, s55, s56, s57, s58, s59, s60, s61, s62, s63, s64, s65, s66, s67, s68, s69, s70, s71, s72, s73, s74, s75, s76, s77, s78, s79, s80, s81, s82, s83, s84, s85, s86, s87, s88, s89, s90, t91, t92, t93, t94, t95, t96, t97, t98, t99, t100, t101, t102, t103, t104, t105, t106, t107, t108, t109, t110, t111, t112, t113, t114, s115, s116, s117, s118].toArray, []⟩) := ⟨_, rfl⟩
  rw [← eQB]
  have HP : Aside (∀ c a a' w, QB (.panic c) a w → QB (.panic c) a' w) := by rw [eQB]; intro c a a' w h; exact absurd h.1 (by simp)
  have HQ : Hid _ := eQB
  clear eQB
  go_upto_region 17 with fail
  try dsimp only
  go_cut [14] from 91 to 97 (fun v wx => ∃ db, v = .pointer (some ⟨db, 0, none⟩) ∧ w.heap.size + 3 < db ∧ NS w wx s c' cc' f0' f1' d0' d1' ∧ wx.heap[yb]? = some (.cells (ic y).toArray 25 (0, 0)) ∧ wx.heap[db]? = some (.cells (uN ((nm (cf s) - nm (cf y)) % MM)).toArray 41 (0, 0)))
  case first =>
    refine wp_region_held (S := (fun w' : World => NS w w' s c' cc' f0' f1' d0' d1' ∧ w'.heap[yb]? = some (.cells (ic y).toArray 25 (0, 0)))) (by kernel_rfl) ?_
    have hu1 : (fun w' : World => NS w w' s c' cc' f0' f1' d0' d1' ∧ w'.heap[yb]? = some (.cells (ic y).toArray 25 (0, 0))) { u with drawn := u.drawn + 1 } := ⟨n7.kept (grown_drew u), y6⟩
    clear n7 y6
    generalize ({ u with drawn := u.drawn + 1 } : World) = u1 at *
    refine any_take 0 (some 91) (.pointer (some ⟨p, 0, none⟩)) rfl rfl (by kernel_rfl) (by kernel_rfl) (by kernel_rfl) (fun c _ w h => HP.out c _ _ w h) (.inl ⟨by kernel_rfl, fun _ _ => by kernel_rfl⟩) (by assumption) ?_
    simp only [Act.put, List.setIfInBounds_toArray, List.set_cons_zero, List.set_cons_succ]
    refine any_take 1 (some 92) (.pointer (some ⟨p, 0, none⟩)) rfl rfl (by kernel_rfl) (by kernel_rfl) (by kernel_rfl) (fun c _ w h => HP.out c _ _ w h) (.inl ⟨by kernel_rfl, fun _ _ => by kernel_rfl⟩) (by assumption) ?_
    simp only [Act.put, List.setIfInBounds_toArray, List.set_cons_zero, List.set_cons_succ]
    refine any_take 2 (some 93) (.pointer (some ⟨p, 20, none⟩)) rfl rfl (by kernel_rfl) (by kernel_rfl) (by kernel_rfl) (fun c _ w h => HP.out c _ _ w h) (.inl ⟨by kernel_rfl, fun _ _ => by kernel_rfl⟩) (by assumption) ?_
    simp only [Act.put, List.setIfInBounds_toArray, List.set_cons_zero, List.set_cons_succ]
    refine any_take 3 (some 94) (.agg (uN (nm (cf s))).toArray) rfl rfl (by kernel_rfl) (by kernel_rfl) (by kernel_rfl) (fun c _ w h => HP.out c _ _ w h) (yieldsIf_load_mid (by kernel_rfl) 41 (.tmp 93) rfl p 20 (by kernel_rfl) (uN (nm (cf s))) _ (fun _ h => tsc_from (t.kept h.1.g).blk) Ybaf.underlying41 rfl (size41n _)) (by assumption) ?_
    simp only [Act.put, List.setIfInBounds_toArray, List.set_cons_zero, List.set_cons_succ]
    refine any_take 4 (some 95) (.agg (ic y).toArray) rfl rfl (by kernel_rfl) (by kernel_rfl) (by kernel_rfl) (fun c _ w h => HP.out c _ _ w h) (yld_blk (by kernel_rfl) 25 (.tmp 10) rfl yb (by kernel_rfl) (ic y) 25 (fun _ h => h.2) _ Ybaf.underlying25 rfl (size25 _)) (by assumption) ?_
    simp only [Act.put, List.setIfInBounds_toArray, List.set_cons_zero, List.set_cons_succ]
    refine any_two 5 7 (by kernel_rfl) ?_ ?_
    · refine op_call 5 (some 96) 16 #[.agg (ic y).toArray] rfl rfl (by kernel_rfl) (by kernel_rfl) ((num_un (byt_cf hsy) _).mono ?_)
      rintro e u3 ⟨rfl, qu3⟩
      have hu3 : (fun w' : World => NS w w' s c' cc' f0' f1' d0' d1' ∧ w'.heap[yb]? = some (.cells (ic y).toArray 25 (0, 0))) u3 := ⟨hu1.1.kept qu3, keep_blk qu3 hu1.2 (by simp)⟩
      refine ⟨_, rfl, hu3, ?_⟩
      simp only [Act.put, List.setIfInBounds_toArray, List.set_cons_zero, List.set_cons_succ]
      refine any_two 6 7 (by kernel_rfl) ?_ ?_
      · refine op_call 6 (some 97) 25 #[.agg (uN (nm (cf s))).toArray, .agg (uN (nm (cf y))).toArray] rfl rfl (by kernel_rfl) (by kernel_rfl) ((minus_un (nm_bd (byt_cf hs0)) (nm_bd (byt_cf hsy)) _).mono ?_)
        rintro e u4 ⟨rfl, qu4⟩
        have hu4 : (fun w' : World => NS w w' s c' cc' f0' f1' d0' d1' ∧ w'.heap[yb]? = some (.cells (ic y).toArray 25 (0, 0))) u4 := ⟨hu3.1.kept qu4, keep_blk qu4 hu3.2 (by simp)⟩
        refine ⟨_, rfl, hu4, ?_⟩
        simp only [Act.put, List.setIfInBounds_toArray, List.set_cons_zero, List.set_cons_succ]
        refine wpAnyH_all (rs := [7]) (by kernel_rfl) (by simp) (fun k hk => ?_)
        obtain rfl : k = 7 := by simpa using hk
        clear hk
        refine op_val 7 (some 14) (.pointer (some ⟨u4.heap.size, 0, none⟩)) (u4.alloc (.cells (uc 0 0 0).toArray 41)) rfl rfl (by kernel_rfl) (exec_alloc41 rfl) ?_
        have gu2 : u4.grownBy (u4.alloc (.cells (uc 0 0 0).toArray 41)) none := World.grownBy_alloc _ _ none
        have xu2 : (u4.alloc (.cells (uc 0 0 0).toArray 41)).heap[u4.heap.size]? = some (.cells (uc 0 0 0).toArray 41 (0, 0)) := heap_alloc_new u4 _
        have hu2 : (fun w' : World => NS w w' s c' cc' f0' f1' d0' d1' ∧ w'.heap[yb]? = some (.cells (ic y).toArray 25 (0, 0))) (u4.alloc (.cells (uc 0 0 0).toArray 41)) := ⟨hu4.1.kept gu2, keep_blk gu2 hu4.2 (by simp)⟩
        refine ⟨hu2, ?_⟩
        have hdb : w.heap.size + 3 < u4.heap.size := hu4.1.lt
        have hyd : yb < u4.heap.size := (Array.getElem?_eq_some_iff.1 hu4.2).1
        generalize (u4.alloc (.cells (uc 0 0 0).toArray 41)) = u2 at *
        generalize u4.heap.size = db at *
        simp only [Act.put, List.setIfInBounds_toArray, List.set_cons_zero, List.set_cons_succ]
        refine wpAnyH_all (rs := [8]) (by kernel_rfl) (by simp) (fun k hk => ?_)
        obtain rfl : k = 8 := by simpa using hk
        clear hk
        refine op_store41 8 rfl rfl (by kernel_rfl) (.tmp 14) (.tmp 97) rfl db (uN ((nm (cf s) - nm (cf y)) % MM)) (by kernel_rfl) (by kernel_rfl) _ xu2 rfl (size41n _) (un_one _) ?_
        intro uz xz qz
        have hz : (fun w' : World => NS w w' s c' cc' f0' f1' d0' d1' ∧ w'.heap[yb]? = some (.cells (ic y).toArray 25 (0, 0))) uz := ⟨hu2.1.keptr qz hdb, keep_blk qz hu2.2 (by simp; omega)⟩
        refine ⟨hz, ?_⟩
        simp only [Act.put]
        refine wpAnyH_done (by kernel_rfl) ?_ _
        go_wp2_with fail
        go_meet
        case rel => exact ⟨db, rfl, hdb, hz.1, hz.2, xz⟩
      · refine op_val 7 (some 14) (.pointer (some ⟨u3.heap.size, 0, none⟩)) (u3.alloc (.cells (uc 0 0 0).toArray 41)) rfl rfl (by kernel_rfl) (exec_alloc41 rfl) ?_
        have gu2 : u3.grownBy (u3.alloc (.cells (uc 0 0 0).toArray 41)) none := World.grownBy_alloc _ _ none
        have xu2 : (u3.alloc (.cells (uc 0 0 0).toArray 41)).heap[u3.heap.size]? = some (.cells (uc 0 0 0).toArray 41 (0, 0)) := heap_alloc_new u3 _
        have hu2 : (fun w' : World => NS w w' s c' cc' f0' f1' d0' d1' ∧ w'.heap[yb]? = some (.cells (ic y).toArray 25 (0, 0))) (u3.alloc (.cells (uc 0 0 0).toArray 41)) := ⟨hu3.1.kept gu2, keep_blk gu2 hu3.2 (by simp)⟩
        refine ⟨hu2, ?_⟩
        have hdb : w.heap.size + 3 < u3.heap.size := hu3.1.lt
        have hyd : yb < u3.heap.size := (Array.getElem?_eq_some_iff.1 hu3.2).1
        generalize (u3.alloc (.cells (uc 0 0 0).toArray 41)) = u2 at *
        generalize u3.heap.size = db at *
        simp only [Act.put, List.setIfInBounds_toArray, List.set_cons_zero, List.set_cons_succ]
        refine wpAnyH_all (rs := [6]) (by kernel_rfl) (by simp) (fun k hk => ?_)
        obtain rfl : k = 6 := by simpa using hk
        clear hk
        refine op_call 6 (some 97) 25 #[.agg (uN (nm (cf s))).toArray, .agg (uN (nm (cf y))).toArray] rfl rfl (by kernel_rfl) (by kernel_rfl) ((minus_un (nm_bd (byt_cf hs0)) (nm_bd (byt_cf hsy)) _).mono ?_)
        rintro e u4 ⟨rfl, qu4⟩
        have hu4 : (fun w' : World => NS w w' s c' cc' f0' f1' d0' d1' ∧ w'.heap[yb]? = some (.cells (ic y).toArray 25 (0, 0))) u4 := ⟨hu2.1.kept qu4, keep_blk qu4 hu2.2 (by simp)⟩
        have xu4 := keep_blk qu4 xu2 (by simp)
        refine ⟨_, rfl, hu4, ?_⟩
        simp only [Act.put, List.setIfInBounds_toArray, List.set_cons_zero, List.set_cons_succ]
        refine wpAnyH_all (rs := [8]) (by kernel_rfl) (by simp) (fun k hk => ?_)
        obtain rfl : k = 8 := by simpa using hk
        clear hk
        refine op_store41 8 rfl rfl (by kernel_rfl) (.tmp 14) (.tmp 97) rfl db (uN ((nm (cf s) - nm (cf y)) % MM)) (by kernel_rfl) (by kernel_rfl) _ xu4 rfl (size41n _) (un_one _) ?_
        intro uz xz qz
        have hz : (fun w' : World => NS w w' s c' cc' f0' f1' d0' d1' ∧ w'.heap[yb]? = some (.cells (ic y).toArray 25 (0, 0))) uz := ⟨hu4.1.keptr qz hdb, keep_blk qz hu4.2 (by simp; omega)⟩
        refine ⟨hz, ?_⟩
        simp only [Act.put]
        refine wpAnyH_done (by kernel_rfl) ?_ _
        go_wp2_with fail
        go_meet
        case rel => exact ⟨db, rfl, hdb, hz.1, hz.2, xz⟩
    · refine op_val 7 (some 14) (.pointer (some ⟨u1.heap.size, 0, none⟩)) (u1.alloc (.cells (uc 0 0 0).toArray 41)) rfl rfl (by kernel_rfl) (exec_alloc41 rfl) ?_
      have gu2 : u1.grownBy (u1.alloc (.cells (uc 0 0 0).toArray 41)) none := World.grownBy_alloc _ _ none
      have xu2 : (u1.alloc (.cells (uc 0 0 0).toArray 41)).heap[u1.heap.size]? = some (.cells (uc 0 0 0).toArray 41 (0, 0)) := heap_alloc_new u1 _
      have hu2 : (fun w' : World => NS w w' s c' cc' f0' f1' d0' d1' ∧ w'.heap[yb]? = some (.cells (ic y).toArray 25 (0, 0))) (u1.alloc (.cells (uc 0 0 0).toArray 41)) := ⟨hu1.1.kept gu2, keep_blk gu2 hu1.2 (by simp)⟩
      refine ⟨hu2, ?_⟩
      have hdb : w.heap.size + 3 < u1.heap.size := hu1.1.lt
      have hyd : yb < u1.heap.size := (Array.getElem?_eq_some_iff.1 hu1.2).1
      generalize (u1.alloc (.cells (uc 0 0 0).toArray 41)) = u2 at *
      generalize u1.heap.size = db at *
      simp only [Act.put, List.setIfInBounds_toArray, List.set_cons_zero, List.set_cons_succ]
      refine wpAnyH_all (rs := [5]) (by kernel_rfl) (by simp) (fun k hk => ?_)
      obtain rfl : k = 5 := by simpa using hk
      clear hk
      refine op_call 5 (some 96) 16 #[.agg (ic y).toArray] rfl rfl (by kernel_rfl) (by kernel_rfl) ((num_un (byt_cf hsy) _).mono ?_)
      rintro e u3 ⟨rfl, qu3⟩
      have hu3 : (fun w' : World => NS w w' s c' cc' f0' f1' d0' d1' ∧ w'.heap[yb]? = some (.cells (ic y).toArray 25 (0, 0))) u3 := ⟨hu2.1.kept qu3, keep_blk qu3 hu2.2 (by simp)⟩
      have xu3 := keep_blk qu3 xu2 (by simp)
      refine ⟨_, rfl, hu3, ?_⟩
      simp only [Act.put, List.setIfInBounds_toArray, List.set_cons_zero, List.set_cons_succ]
      refine wpAnyH_all (rs := [6]) (by kernel_rfl) (by simp) (fun k hk => ?_)
      obtain rfl : k = 6 := by simpa using hk
      clear hk
      refine op_call 6 (some 97) 25 #[.agg (uN (nm (cf s))).toArray, .agg (uN (nm (cf y))).toArray] rfl rfl (by kernel_rfl) (by kernel_rfl) ((minus_un (nm_bd (byt_cf hs0)) (nm_bd (byt_cf hsy)) _).mono ?_)
      rintro e u4 ⟨rfl, qu4⟩
      have hu4 : (fun w' : World => NS w w' s c' cc' f0' f1' d0' d1' ∧ w'.heap[yb]? = some (.cells (ic y).toArray 25 (0, 0))) u4 := ⟨hu3.1.kept qu4, keep_blk qu4 hu3.2 (by simp)⟩
      have xu4 := keep_blk qu4 xu3 (by simp)
      refine ⟨_, rfl, hu4, ?_⟩
      simp only [Act.put, List.setIfInBounds_toArray, List.set_cons_zero, List.set_cons_succ]
      refine wpAnyH_all (rs := [8]) (by kernel_rfl) (by simp) (fun k hk => ?_)
      obtain rfl : k = 8 := by simpa using hk
      clear hk
      refine op_store41 8 rfl rfl (by kernel_rfl) (.tmp 14) (.tmp 97) rfl db (uN ((nm (cf s) - nm (cf y)) % MM)) (by kernel_rfl) (by kernel_rfl) _ xu4 rfl (size41n _) (un_one _) ?_
      intro uz xz qz
      have hz : (fun w' : World => NS w w' s c' cc' f0' f1' d0' d1' ∧ w'.heap[yb]? = some (.cells (ic y).toArray 25 (0, 0))) uz := ⟨hu4.1.keptr qz hdb, keep_blk qz hu4.2 (by simp; omega)⟩
      refine ⟨hz, ?_⟩
      simp only [Act.put]
      refine wpAnyH_done (by kernel_rfl) ?_ _
      go_wp2_with fail
      go_meet
      case rel => exact ⟨db, rfl, hdb, hz.1, hz.2, xz⟩
  case rest =>
    obtain ⟨db, rfl, hdb, nW, yW, zW⟩ := hcut
    clear n7 y6 t
    obtain ⟨dv, edv⟩ : ∃ d, d = (nm (cf s) - nm (cf y)) % MM := ⟨_, rfl⟩
    rw [← edv] at zW
    clear edv
    cases bb with
    | true =>
      cases f1' with
      | false =>
        go_upto_region 19 with (first
          | (refine wpList_is (.indexAddr 65 (.tmp 6) (.const (.int .i64 1))) rfl ?_; refine wpList_valG (by kernel_rfl) (.pointer (some ⟨w.heap.size + 3, 1, none⟩)) (by kernel_rfl) ?_; simp only [Act.put, List.setIfInBounds_toArray, List.set_cons_zero, List.set_cons_succ])
          | (refine wpList_is (.load 4 (.tmp 100)) rfl ?_; refine wpList_execG (by kernel_rfl) (.bool false) (exec_load_cell 4 (.tmp 100) rfl (w.heap.size + 3) 1 rfl _ _ nW.b6 _ Ybaf.underlying4 rfl _ rfl) ?_; simp only [Act.put, List.setIfInBounds_toArray, List.set_cons_zero, List.set_cons_succ])
          | (refine wpList_is (.unOp .not 4 (.tmp 101)) rfl ?_; refine wpList_valG (by kernel_rfl) (.bool true) (by kernel_rfl) ?_; simp only [Act.put, List.setIfInBounds_toArray, List.set_cons_zero, List.set_cons_succ])
          | (refine wpList_is (.move (.tmp 102)) rfl ?_; refine wpList_valG (by kernel_rfl) (.bool true) (by kernel_rfl) ?_; simp only [Act.put, List.setIfInBounds_toArray, List.set_cons_zero, List.set_cons_succ])
          | (refine wpList_is (.pick (.tmp 103) (.const (.bool true)) (.tmp 108)) rfl ?_; refine wpList_valG (by kernel_rfl) (.bool true) (by kernel_rfl) ?_; simp only [Act.put, List.setIfInBounds_toArray, List.set_cons_zero, List.set_cons_succ])
          | (refine wpList_is (.load 41 (.tmp 14)) rfl ?_; refine wpList_skipG (by kernel_rfl) ?_; simp only [Act.put, List.setIfInBounds_toArray, List.set_cons_zero, List.set_cons_succ])
          | (refine wpList_is (.indexAddr 64 (.tmp 5) (.const (.int .i64 1))) rfl ?_; refine wpList_skipG (by kernel_rfl) ?_; simp only [Act.put, List.setIfInBounds_toArray, List.set_cons_zero, List.set_cons_succ])
          | (refine wpList_is (.load 41 (.tmp 105)) rfl ?_; refine wpList_skipG (by kernel_rfl) ?_; simp only [Act.put, List.setIfInBounds_toArray, List.set_cons_zero, List.set_cons_succ])
          | (refine wpList_is (.call { callee := .value (.func 24), args := #[.tmp 104, .tmp 106], argTypes := #[41, 41] }) rfl ?_; refine wpList_skipG (by kernel_rfl) ?_; simp only [Act.put, List.setIfInBounds_toArray, List.set_cons_zero, List.set_cons_succ])
          | (refine wpList_is (.binOp .lss 3 (.tmp 107) (.const (.int .i64 0)) 3) rfl ?_; refine wpList_skipG (by kernel_rfl) ?_; simp only [Act.put, List.setIfInBounds_toArray, List.set_cons_zero, List.set_cons_succ]))
        refine wp_region_held (S := fun w' : World => w'.heap[yb]? = some (.cells (ic y).toArray 25 (0, 0)) ∧ w'.heap[db]? = some (.cells (uN dv).toArray 41 (0, 0))) (by kernel_rfl) ?_
        have nA := nW.kept (grown_drew _)
        have hS : (fun w' : World => w'.heap[yb]? = some (.cells (ic y).toArray 25 (0, 0)) ∧ w'.heap[db]? = some (.cells (uN dv).toArray 41 (0, 0))) { wc with drawn := wc.drawn + 1 } := ⟨yW, zW⟩
        clear nW
        generalize ({ wc with drawn := wc.drawn + 1 } : World) = uA at *
        refine any_take 0 (some 111) (.agg (ic y).toArray) rfl rfl (by kernel_rfl) (by kernel_rfl) (by kernel_rfl) (fun c _ w h => HP.out c _ _ w h) (yld_blk (by kernel_rfl) 25 (.tmp 10) rfl yb (by kernel_rfl) (ic y) 25 (fun _ h => h.1) _ Ybaf.underlying25 rfl (size25 _)) (by assumption) ?_
        simp only [Act.put, List.setIfInBounds_toArray, List.set_cons_zero, List.set_cons_succ]
        refine any_take 1 (some 112) (.agg (uN dv).toArray) rfl rfl (by kernel_rfl) (by kernel_rfl) (by kernel_rfl) (fun c _ w h => HP.out c _ _ w h) (yld_blk (by kernel_rfl) 41 (.tmp 14) rfl db (by kernel_rfl) (uN dv) 41 (fun _ h => h.2) _ Ybaf.underlying41 rfl (size41n _)) (by assumption) ?_
        simp only [Act.put, List.setIfInBounds_toArray, List.set_cons_zero, List.set_cons_succ]
        refine any_store_blk 2 rfl rfl (by kernel_rfl) (by kernel_rfl) 25 (.tmp 3) (.tmp 111) rfl (w.heap.size + 1) (ic y) (by kernel_rfl) (by kernel_rfl) _ _ nA.b3 rfl (size25 _) (ic_one _) ?_
        intro uB hB qB
        have hSB : (fun w' : World => w'.heap[yb]? = some (.cells (ic y).toArray 25 (0, 0)) ∧ w'.heap[db]? = some (.cells (uN dv).toArray 41 (0, 0))) uB := ⟨keep_blk qB hS.1 (by simp; omega), keep_blk qB hS.2 (by simp; omega)⟩
        refine ⟨hSB, ?_⟩
        simp only [Act.put]
        refine any_take 3 (some 113) (.pointer (some ⟨w.heap.size + 2, 3, none⟩)) rfl rfl (by kernel_rfl) (by kernel_rfl) (by kernel_rfl) (fun c _ w h => HP.out c _ _ w h) (.inl ⟨by kernel_rfl, fun _ _ => by kernel_rfl⟩) (by assumption) ?_
        simp only [Act.put, List.setIfInBounds_toArray, List.set_cons_zero, List.set_cons_succ]
        refine any_store_mid 4 rfl rfl (by kernel_rfl) (by kernel_rfl) 41 (.tmp 113) (.tmp 112) rfl (w.heap.size + 2) 3 (uN d0') (uN d1') (uN dv) [] rfl (by kernel_rfl) (by kernel_rfl) 64 (by rw [List.append_nil]; exact keep_blk qB nA.b5 (by simp)) rfl (size41n _) (un_one _) ?_
        intro uC hC qC
        have hSC : (fun w' : World => w'.heap[yb]? = some (.cells (ic y).toArray 25 (0, 0)) ∧ w'.heap[db]? = some (.cells (uN dv).toArray 41 (0, 0))) uC := ⟨keep_blk qC hSB.1 (by simp; omega), keep_blk qC hSB.2 (by simp; omega)⟩
        refine ⟨hSC, ?_⟩
        simp only [Act.put]
        refine any_take 5 (some 114) (.pointer (some ⟨w.heap.size + 3, 1, none⟩)) rfl rfl (by kernel_rfl) (by kernel_rfl) (by kernel_rfl) (fun c _ w h => HP.out c _ _ w h) (.inl ⟨by kernel_rfl, fun _ _ => by kernel_rfl⟩) (by assumption) ?_
        simp only [Act.put, List.setIfInBounds_toArray, List.set_cons_zero, List.set_cons_succ]
        refine any_store 6 rfl rfl (by kernel_rfl) (by kernel_rfl) 4 (.tmp 114) (.const (.bool true)) rfl (w.heap.size + 3) 1 (.bool true) (by kernel_rfl) rfl [.bool f0', .bool false] 65 (keep_blk qC (keep_blk qB nA.b6 (by simp)) (by simp)) size4 (by simp) rfl [.bool f0', .bool true] rfl ?_
        intro uD hD qD
        refine ⟨⟨keep_blk qD hSC.1 (by simp; omega), keep_blk qD hSC.2 (by simp; omega)⟩, ?_⟩
        have yD := keep_blk qD hSC.1 (by simp; omega)
        have nD := nA.put (c' := c') (cc' := y) (f0' := f0') (f1' := true) (d0' := d0') (d1' := dv) (w.heap.size + 1) (.inr rfl) qB qC qD (keep_blk qB nA.b2 (by simp)) hB (by first | exact hC | (rw [List.nil_append] at hC; exact hC) | (rw [List.append_nil] at hC; exact hC)) hD nA.sc hsy nA.fd
        simp only [Act.put]
        refine wpAnyH_done (by kernel_rfl) ?_ _
        clear hS hSB hSC qB qC qD hB hC hD nA
        unfold Hid at HQ
        rw [HQ]
        exact ⟨rfl, y, true, dv, _, _, _, _, _, _, _, _, _, _, _, _, _, _, _, _, _, _, _, _, _, _, _, _, _, _, rfl, nD⟩
      | true =>
        by_cases hlt : dv < d1'
        · go_wp2_with (first
            | (refine wpList_is (.indexAddr 65 (.tmp 6) (.const (.int .i64 1))) rfl ?_; refine wpList_valG (by kernel_rfl) (.pointer (some ⟨w.heap.size + 3, 1, none⟩)) (by kernel_rfl) ?_; simp only [Act.put, List.setIfInBounds_toArray, List.set_cons_zero, List.set_cons_succ])
            | (refine wpList_is (.load 4 (.tmp 100)) rfl ?_; refine wpList_execG (by kernel_rfl) (.bool true) (exec_load_cell 4 (.tmp 100) rfl (w.heap.size + 3) 1 rfl _ _ nW.b6 _ Ybaf.underlying4 rfl _ rfl) ?_; simp only [Act.put, List.setIfInBounds_toArray, List.set_cons_zero, List.set_cons_succ])
            | (refine wpList_is (.unOp .not 4 (.tmp 101)) rfl ?_; refine wpList_valG (by kernel_rfl) (.bool false) (by kernel_rfl) ?_; simp only [Act.put, List.setIfInBounds_toArray, List.set_cons_zero, List.set_cons_succ])
            | (refine wpList_is (.move (.tmp 102)) rfl ?_; refine wpList_valG (by kernel_rfl) (.bool false) (by kernel_rfl) ?_; simp only [Act.put, List.setIfInBounds_toArray, List.set_cons_zero, List.set_cons_succ])
            | (refine wpList_is (.load 41 (.tmp 14)) rfl ?_; refine wpList_execG (by kernel_rfl) _ (exec_load_row 41 (.tmp 14) rfl db 0 rfl (uN dv) _ (range_of_blk zW) Ybaf.underlying41 rfl (size41n _)) ?_; simp only [Act.put, List.setIfInBounds_toArray, List.set_cons_zero, List.set_cons_succ])
            | (refine wpList_is (.load 41 (.tmp 105)) rfl ?_; refine wpList_execG (by kernel_rfl) _ (exec_load_row 41 (.tmp 105) rfl (w.heap.size + 2) 3 rfl (uN d1') _ nW.r1 Ybaf.underlying41 rfl (size41n _)) ?_; simp only [Act.put, List.setIfInBounds_toArray, List.set_cons_zero, List.set_cons_succ])
            | (refine wpList_is (.indexAddr 64 (.tmp 5) (.const (.int .i64 1))) rfl ?_; refine wpList_valG (by kernel_rfl) (.pointer (some ⟨w.heap.size + 2, 3, none⟩)) (by kernel_rfl) ?_; simp only [Act.put, List.setIfInBounds_toArray, List.set_cons_zero, List.set_cons_succ])
            | (refine wpList_is (.call { callee := .value (.func 24), args := #[.tmp 104, .tmp 106], argTypes := #[41, 41] }) rfl ?_; refine wpList_callG (by kernel_rfl) 24 #[.agg (uN dv).toArray, .agg (uN d1').toArray] (by kernel_rfl) ?_))
          refine (cmp_un _).mono ?_
          rintro e uE ⟨rfl, qE⟩
          refine ⟨_, rfl, ?_⟩
          try simp only [Act.put, List.setIfInBounds_toArray, List.set_cons_zero, List.set_cons_succ]
          have nE := nW.kept qE
          have yE := keep_blk qE yW (by simp)
          have zE := keep_blk qE zW (by simp)
          clear nW yW zW
          go_upto_region 19 with (first
            | (refine wpList_is (.binOp .lss 3 (.tmp 107) (.const (.int .i64 0)) 3) rfl ?_; refine wpList_valG (by kernel_rfl) (.bool true) ((exec_lss (.tmp 107) rfl dv d1' (by kernel_rfl)).trans (by simp [hlt])) ?_)
            | (refine wpList_is (.pick (.tmp 103) (.const (.bool true)) (.tmp 108)) rfl ?_; refine wpList_valG (by kernel_rfl) (.bool true) (by kernel_rfl) ?_; simp only [Act.put, List.setIfInBounds_toArray, List.set_cons_zero, List.set_cons_succ]))
          refine wp_region_held (S := fun w' : World => w'.heap[yb]? = some (.cells (ic y).toArray 25 (0, 0)) ∧ w'.heap[db]? = some (.cells (uN dv).toArray 41 (0, 0))) (by kernel_rfl) ?_
          have nA := nE.kept (grown_drew _)
          have hS : (fun w' : World => w'.heap[yb]? = some (.cells (ic y).toArray 25 (0, 0)) ∧ w'.heap[db]? = some (.cells (uN dv).toArray 41 (0, 0))) { uE with drawn := uE.drawn + 1 } := ⟨yE, zE⟩
          clear nE
          generalize ({ uE with drawn := uE.drawn + 1 } : World) = uA at *
          refine any_take 0 (some 111) (.agg (ic y).toArray) rfl rfl (by kernel_rfl) (by kernel_rfl) (by kernel_rfl) (fun c _ w h => HP.out c _ _ w h) (yld_blk (by kernel_rfl) 25 (.tmp 10) rfl yb (by kernel_rfl) (ic y) 25 (fun _ h => h.1) _ Ybaf.underlying25 rfl (size25 _)) (by assumption) ?_
          simp only [Act.put, List.setIfInBounds_toArray, List.set_cons_zero, List.set_cons_succ]
          refine any_take 1 (some 112) (.agg (uN dv).toArray) rfl rfl (by kernel_rfl) (by kernel_rfl) (by kernel_rfl) (fun c _ w h => HP.out c _ _ w h) (yld_blk (by kernel_rfl) 41 (.tmp 14) rfl db (by kernel_rfl) (uN dv) 41 (fun _ h => h.2) _ Ybaf.underlying41 rfl (size41n _)) (by assumption) ?_
          simp only [Act.put, List.setIfInBounds_toArray, List.set_cons_zero, List.set_cons_succ]
          refine any_store_blk 2 rfl rfl (by kernel_rfl) (by kernel_rfl) 25 (.tmp 3) (.tmp 111) rfl (w.heap.size + 1) (ic y) (by kernel_rfl) (by kernel_rfl) _ _ nA.b3 rfl (size25 _) (ic_one _) ?_
          intro uB hB qB
          have hSB : (fun w' : World => w'.heap[yb]? = some (.cells (ic y).toArray 25 (0, 0)) ∧ w'.heap[db]? = some (.cells (uN dv).toArray 41 (0, 0))) uB := ⟨keep_blk qB hS.1 (by simp; omega), keep_blk qB hS.2 (by simp; omega)⟩
          refine ⟨hSB, ?_⟩
          simp only [Act.put]
          refine any_take 3 (some 113) (.pointer (some ⟨w.heap.size + 2, 3, none⟩)) rfl rfl (by kernel_rfl) (by kernel_rfl) (by kernel_rfl) (fun c _ w h => HP.out c _ _ w h) (.inl ⟨by kernel_rfl, fun _ _ => by kernel_rfl⟩) (by assumption) ?_
          simp only [Act.put, List.setIfInBounds_toArray, List.set_cons_zero, List.set_cons_succ]
          refine any_store_mid 4 rfl rfl (by kernel_rfl) (by kernel_rfl) 41 (.tmp 113) (.tmp 112) rfl (w.heap.size + 2) 3 (uN d0') (uN d1') (uN dv) [] rfl (by kernel_rfl) (by kernel_rfl) 64 (by rw [List.append_nil]; exact keep_blk qB nA.b5 (by simp)) rfl (size41n _) (un_one _) ?_
          intro uC hC qC
          have hSC : (fun w' : World => w'.heap[yb]? = some (.cells (ic y).toArray 25 (0, 0)) ∧ w'.heap[db]? = some (.cells (uN dv).toArray 41 (0, 0))) uC := ⟨keep_blk qC hSB.1 (by simp; omega), keep_blk qC hSB.2 (by simp; omega)⟩
          refine ⟨hSC, ?_⟩
          simp only [Act.put]
          refine any_take 5 (some 114) (.pointer (some ⟨w.heap.size + 3, 1, none⟩)) rfl rfl (by kernel_rfl) (by kernel_rfl) (by kernel_rfl) (fun c _ w h => HP.out c _ _ w h) (.inl ⟨by kernel_rfl, fun _ _ => by kernel_rfl⟩) (by assumption) ?_
          simp only [Act.put, List.setIfInBounds_toArray, List.set_cons_zero, List.set_cons_succ]
          refine any_store 6 rfl rfl (by kernel_rfl) (by kernel_rfl) 4 (.tmp 114) (.const (.bool true)) rfl (w.heap.size + 3) 1 (.bool true) (by kernel_rfl) rfl [.bool f0', .bool true] 65 (keep_blk qC (keep_blk qB nA.b6 (by simp)) (by simp)) size4 (by simp) rfl [.bool f0', .bool true] rfl ?_
          intro uD hD qD
          refine ⟨⟨keep_blk qD hSC.1 (by simp; omega), keep_blk qD hSC.2 (by simp; omega)⟩, ?_⟩
          have yD := keep_blk qD hSC.1 (by simp; omega)
          have nD := nA.put (c' := c') (cc' := y) (f0' := f0') (f1' := true) (d0' := d0') (d1' := dv) (w.heap.size + 1) (.inr rfl) qB qC qD (keep_blk qB nA.b2 (by simp)) hB (by first | exact hC | (rw [List.nil_append] at hC; exact hC) | (rw [List.append_nil] at hC; exact hC)) hD nA.sc hsy nA.fd
          simp only [Act.put]
          refine wpAnyH_done (by kernel_rfl) ?_ _
          clear hS hSB hSC qB qC qD hB hC hD nA
          unfold Hid at HQ
          rw [HQ]
          exact ⟨rfl, y, true, dv, _, _, _, _, _, _, _, _, _, _, _, _, _, _, _, _, _, _, _, _, _, _, _, _, _, _, rfl, nD⟩
        · go_wp2_with (first
            | (refine wpList_is (.indexAddr 65 (.tmp 6) (.const (.int .i64 1))) rfl ?_; refine wpList_valG (by kernel_rfl) (.pointer (some ⟨w.heap.size + 3, 1, none⟩)) (by kernel_rfl) ?_; simp only [Act.put, List.setIfInBounds_toArray, List.set_cons_zero, List.set_cons_succ])
            | (refine wpList_is (.load 4 (.tmp 100)) rfl ?_; refine wpList_execG (by kernel_rfl) (.bool true) (exec_load_cell 4 (.tmp 100) rfl (w.heap.size + 3) 1 rfl _ _ nW.b6 _ Ybaf.underlying4 rfl _ rfl) ?_; simp only [Act.put, List.setIfInBounds_toArray, List.set_cons_zero, List.set_cons_succ])
            | (refine wpList_is (.unOp .not 4 (.tmp 101)) rfl ?_; refine wpList_valG (by kernel_rfl) (.bool false) (by kernel_rfl) ?_; simp only [Act.put, List.setIfInBounds_toArray, List.set_cons_zero, List.set_cons_succ])
            | (refine wpList_is (.move (.tmp 102)) rfl ?_; refine wpList_valG (by kernel_rfl) (.bool false) (by kernel_rfl) ?_; simp only [Act.put, List.setIfInBounds_toArray, List.set_cons_zero, List.set_cons_succ])
            | (refine wpList_is (.load 41 (.tmp 14)) rfl ?_; refine wpList_execG (by kernel_rfl) _ (exec_load_row 41 (.tmp 14) rfl db 0 rfl (uN dv) _ (range_of_blk zW) Ybaf.underlying41 rfl (size41n _)) ?_; simp only [Act.put, List.setIfInBounds_toArray, List.set_cons_zero, List.set_cons_succ])
            | (refine wpList_is (.load 41 (.tmp 105)) rfl ?_; refine wpList_execG (by kernel_rfl) _ (exec_load_row 41 (.tmp 105) rfl (w.heap.size + 2) 3 rfl (uN d1') _ nW.r1 Ybaf.underlying41 rfl (size41n _)) ?_; simp only [Act.put, List.setIfInBounds_toArray, List.set_cons_zero, List.set_cons_succ])
            | (refine wpList_is (.indexAddr 64 (.tmp 5) (.const (.int .i64 1))) rfl ?_; refine wpList_valG (by kernel_rfl) (.pointer (some ⟨w.heap.size + 2, 3, none⟩)) (by kernel_rfl) ?_; simp only [Act.put, List.setIfInBounds_toArray, List.set_cons_zero, List.set_cons_succ])
            | (refine wpList_is (.call { callee := .value (.func 24), args := #[.tmp 104, .tmp 106], argTypes := #[41, 41] }) rfl ?_; refine wpList_callG (by kernel_rfl) 24 #[.agg (uN dv).toArray, .agg (uN d1').toArray] (by kernel_rfl) ?_))
          refine (cmp_un _).mono ?_
          rintro e uE ⟨rfl, qE⟩
          refine ⟨_, rfl, ?_⟩
          try simp only [Act.put, List.setIfInBounds_toArray, List.set_cons_zero, List.set_cons_succ]
          have nE := nW.kept qE
          clear nW yW zW
          go_wp2_with (first
            | (refine wpList_is (.binOp .lss 3 (.tmp 107) (.const (.int .i64 0)) 3) rfl ?_; refine wpList_valG (by kernel_rfl) (.bool false) ((exec_lss (.tmp 107) rfl dv d1' (by kernel_rfl)).trans (by simp [hlt])) ?_)
            | (refine wpList_is (.pick (.tmp 103) (.const (.bool true)) (.tmp 108)) rfl ?_; refine wpList_valG (by kernel_rfl) (.bool false) (by kernel_rfl) ?_; simp only [Act.put, List.setIfInBounds_toArray, List.set_cons_zero, List.set_cons_succ]))
          unfold Hid at HQ
          rw [HQ]
          exact ⟨rfl, cc', true, d1', _, _, _, _, _, _, _, _, _, _, _, _, _, _, _, _, _, _, _, _, _, _, _, _, _, _, rfl, nE⟩
    | false =>
      go_wp2_with (first
        | (refine wpList_is (.load 41 (.tmp 14)) rfl ?_; refine wpList_skipG (by kernel_rfl) ?_; simp only [Act.put, List.setIfInBounds_toArray, List.set_cons_zero, List.set_cons_succ])
        | (refine wpList_is (.indexAddr 64 (.tmp 5) (.const (.int .i64 1))) rfl ?_; refine wpList_skipG (by kernel_rfl) ?_; simp only [Act.put, List.setIfInBounds_toArray, List.set_cons_zero, List.set_cons_succ])
        | (refine wpList_is (.load 41 (.tmp 105)) rfl ?_; refine wpList_skipG (by kernel_rfl) ?_; simp only [Act.put, List.setIfInBounds_toArray, List.set_cons_zero, List.set_cons_succ])
        | (refine wpList_is (.call { callee := .value (.func 24), args := #[.tmp 104, .tmp 106], argTypes := #[41, 41] }) rfl ?_; refine wpList_skipG (by kernel_rfl) ?_; simp only [Act.put, List.setIfInBounds_toArray, List.set_cons_zero, List.set_cons_succ])
        | (refine wpList_is (.binOp .lss 3 (.tmp 107) (.const (.int .i64 0)) 3) rfl ?_; refine wpList_skipG (by kernel_rfl) ?_; simp only [Act.put, List.setIfInBounds_toArray, List.set_cons_zero, List.set_cons_succ])
        | (refine wpList_is (.indexAddr 65 (.tmp 6) (.const (.int .i64 1))) rfl ?_; refine wpList_skipG (by kernel_rfl) ?_; simp only [Act.put, List.setIfInBounds_toArray, List.set_cons_zero, List.set_cons_succ])
        | (refine wpList_is (.load 4 (.tmp 100)) rfl ?_; refine wpList_skipG (by kernel_rfl) ?_; simp only [Act.put, List.setIfInBounds_toArray, List.set_cons_zero, List.set_cons_succ])
        | (refine wpList_is (.unOp .not 4 (.tmp 101)) rfl ?_; refine wpList_skipG (by kernel_rfl) ?_; simp only [Act.put, List.setIfInBounds_toArray, List.set_cons_zero, List.set_cons_succ])
        | (refine wpList_is (.move (.tmp 102)) rfl ?_; refine wpList_skipG (by kernel_rfl) ?_; simp only [Act.put, List.setIfInBounds_toArray, List.set_cons_zero, List.set_cons_succ])
        | (refine wpList_is (.pick (.tmp 103) (.const (.bool true)) (.tmp 108)) rfl ?_; refine wpList_skipG (by kernel_rfl) ?_; simp only [Act.put, List.setIfInBounds_toArray, List.set_cons_zero, List.set_cons_succ]))
      unfold Hid at HQ
      rw [HQ]
      exact ⟨rfl, cc', f1', d1', _, _, _, _, _, _, _, _, _, _, _, _, _, _, _, _, _, _, _, _, _, _, _, _, _, _, rfl, nW⟩

end Go.Proofs.YbulkdspqFmt
