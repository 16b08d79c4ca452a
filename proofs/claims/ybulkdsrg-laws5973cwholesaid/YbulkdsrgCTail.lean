/-
  LawS5973CWhole: the code of the law from a region on, taken out of the translation.
-/
import Derived.Test.YbulkdsrgCApp
import Derived.OpenShut
namespace Go.Proofs.Ybulkdsrg
open Go.RowKit
set_option linter.unusedSimpArgs false
set_option linter.unusedVariables false

/-- The code begins with region n. -/
def headIs (n : Nat) : Code → Bool
  | .region m _ _ => m == n
  | .seq a _ => headIs n a
  | .block _ c => headIs n c
  | .loop c => headIs n c
  | .scope c => headIs n c
  | _ => false
/-- The code from region n on. -/
def fromR (n : Nat) : Code → Option Code
  | .seq a b => if headIs n a then some (.seq a b) else fromR n b
  | .scope c => fromR n c
  | .block _ c => fromR n c
  | c => if headIs n c then some c else none
noncomputable def tailAt (n : Nat) : Code := (Yba.f3.body.bind (fromR n)).getD .skip

theorem tail41_head : headIs 41 (tailAt 41) = true := by kernel_rfl
theorem tail62_head : headIs 62 (tailAt 62) = true := by kernel_rfl
theorem tail71_head : headIs 69 (tailAt 69) = true := by kernel_rfl

theorem grown_new {w w' : World} {o : Obj} (h : (w.alloc o).grownBy w' (some w.heap.size)) : w.grownBy w' none :=
  ⟨h.os, h.tape, h.output, Nat.le_trans (by simp) h.size, fun q hq _ => (h.block q (by simp; omega) (by simp; omega)).trans (Below.heap_alloc _ _ _ hq)⟩

/-- The address of an element of the values' row. -/
theorem wpList_index60 {ops : Array Oper} {rest : List Oper} {op : Oper} {a : Act} {w : World} {Q : Exit → Act → World → Prop} (hgd : op.guard = none) (x y : Operand) (ho : op.op = .indexAddr 38 x y) (g n c i : Nat) (hi : i < n) (hx : a.eval x = .slice (some ⟨g, 0, none⟩) n c) (hy : a.eval y = .int .i64 (i : Int))
    (h : wpList Yba.prog ops Q rest (a.put op.dst (.pointer (some ⟨g, i * 86, none⟩))) w) : wpList Yba.prog ops Q (op :: rest) a w := by
  refine wpList_plain hgd fun K hK => ?_
  obtain ⟨j, hj, _, hsz, _⟩ := info_parts info60
  have hlt : (i : Int) < (n : Int) := by omega
  have hr : (Instr.indexAt 38 (.slice (some ⟨g, 0, none⟩) n c) (.int .i64 (i : Int))).run Yba.prog w = .ok (.pointer (some ⟨g, i * 86, none⟩)) w := by
    simp [Instr.indexAt, asIntOf, run_underlying Yba.underlying38, sizeOf, typeInfo, hj, hsz, hlt, hi, Addr.add_mid]
  unfold Oper.wp execOp
  simp only [ho, hx, hy, Sem.run_bind, hr, Result.andThen_ok, Sem.run_pure]
  exact hK _ _ h

/-- A stretch whose rest is told by a hypothesis. -/
theorem by_K {c : Code} {Q : Exit → Act → World → Prop} {K : Act → World → Prop} {a : Act} {w : World} (h : ∀ a w, Code.wp Yba.prog c Q a w → K a w) (h' : Code.wp Yba.prog c Q a w) : K a w := h a w h'

/-- The state between the steps of the script. -/
def I1 (w0 wr : World) (k : Ky) (lo f j : Nat) : Prop := ∃ L m D, St wr k lo wr.heap.size f L m D j ∧ L.length ≤ j ∧ Below lo w0 wr

theorem size4 : (Yba.prog.info? 4).map (·.size) = some 1 := by kernel_rfl
theorem size31 {a b c : Value} : (Yba.prog.info? 31).map (·.size) = some [a, b, c].length := by kernel_rfl
theorem I1_start (w : World) (k : Ky) : I1 ((w.alloc (Obj.cells (sc k.s).toArray 23)).alloc (Obj.cells (sc k.d).toArray 23)) (((w.alloc (Obj.cells (sc k.s).toArray 23)).alloc (Obj.cells (sc k.d).toArray 23)).alloc (.cells #[.map none, .pointer none, .pointer none] 29)) k (w.heap.size + 2) (w.heap.size + 2) 0 := by
  refine ⟨[], none, .map [], ⟨blk_new _ _ _ _ (by simp), ⟨Nat.le_refl _, by simp⟩, fun i nd e => by simp at e, fun i nd e => by simp at e, fun i j a c e => by simp at e, .inl ⟨rfl, rfl, rfl⟩⟩, Nat.le_refl _, (Below.refl _ _).alloc (by simp) _⟩

theorem Below.of_out {B lo hi : Nat} {a w w' : World} (h : Below B a w) (ho : Out lo hi w w') (hB : B ≤ lo) (hs : B ≤ w.heap.size) : Below B a w' :=
  ⟨ho.os.trans h.os, ho.tape.trans h.tape, ho.output.trans h.output, Nat.le_trans h.size ho.size, fun q hq => (ho.block q (by omega) (.inl (by omega))).trans (h.block q hq)⟩
theorem St.mono {w : World} {k : Ky} {lo hi f : Nat} {L : List Nd} {m : Option Nat} {D : DataW Unit} {n n' : Nat} (h : St w k lo hi f L m D n) (hn : n ≤ n') : St w k lo hi f L m D n' :=
  ⟨h.fs, h.fr, h.node, h.nr, h.dif, h.map.imp id fun ⟨mb, e, h1, h2, h3⟩ => ⟨mb, e, h1, h2, h3.mono hn⟩⟩
theorem St.kept {w w' : World} {k : Ky} {lo f : Nat} {L : List Nd} {m : Option Nat} {D : DataW Unit} {n : Nat} (h : St w k lo w.heap.size f L m D n) (hg : w.grownBy w' none) : St w' k lo w'.heap.size f L m D n :=
  h.out (fun q _ hq => hg.block q hq (by simp)) hg.size (Nat.le_refl _)
theorem I1.kept {w0 wr w1 : World} {k : Ky} {lo f j : Nat} (h : I1 w0 wr k lo f j) (hg : wr.grownBy w1 none) : I1 w0 w1 k lo f j := by
  obtain ⟨L, m, D, hst, hL, hb⟩ := h
  exact ⟨L, m, D, hst.kept hg, hL, hb.grown hg (by have := hst.fr; omega) (by simp)⟩

theorem wf_wrap32 (z : Int) : (Lit.int .u32 (IntKind.u32.wrap z)).wf = true := by
  exact wf_wrap .u32 z
theorem remove_vp {k : Ky} (hk : k.Wf) {w : World} {lo hi f : Nat} {L : List Nd} {m : Option Nat} {D : DataW Unit} {n : Nat} (h : St w k lo hi f L m D n) (hhi : hi ≤ w.heap.size) {i : Nat} {nd : Nd} (hnd : L[i]? = some nd) {o : Option Nat} (ho : o = some nd.b) :
    Calls Yba.prog 6 #[.pointer (some ⟨f, 0, none⟩), vp o] w fun e w' => (∃ v, e = .returned v) ∧ ∃ D', St w' k lo hi f (L.eraseIdx i) m D' n ∧ Out lo hi w w' := by
  subst ho
  exact remove_any hk h hhi hnd
theorem I1_of {w0 w w' : World} {k : Ky} {lo hi f n j : Nat} {L : List Nd} {m : Option Nat} {D : DataW Unit} (h : St w' k lo hi f L m D n) (hn : n ≤ j) (hL : L.length ≤ j) (hb : Below lo w0 w) (ho : Out lo hi w w') (hh : hi ≤ w'.heap.size) (hs : lo ≤ w.heap.size) : I1 w0 w' k lo f j :=
  ⟨L, m, D, (h.out (fun _ _ _ => rfl) hh hh).mono hn, hL, Below.of_out hb ho (Nat.le_refl _) hs⟩


end Go.Proofs.Ybulkdsrg
