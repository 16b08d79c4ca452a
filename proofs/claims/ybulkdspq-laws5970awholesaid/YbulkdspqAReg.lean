/-
  LawS5970AWhole: the operations of Push's two great regions; what stands behind them.
-/
import Derived.Test.YbulkdspqAThree
import Derived.Laws.Slices
namespace Go.Proofs.Ybulkdspq
open Go.RowKit
set_option linter.unusedSimpArgs false
set_option linter.unusedVariables false

/-- The operations of region n. -/
def findR (n : Nat) : Code → Option (Array Oper)
  | .region m ops _ => if m == n then some ops else none
  | .seq a b => match findR n a with | some o => some o | none => findR n b
  | .block _ c => findR n c
  | .loop c => findR n c
  | .scope c => findR n c
  | .cond _ a b => match findR n a with | some o => some o | none => findR n b
  | _ => none
noncomputable def regOps (n : Nat) : Array Oper := (Yba.f12.body.bind (findR n)).getD #[]
def opAt (ops : Array Oper) (i : Nat) : Oper := (ops[i]?).getD ⟨none, .move (.tmp 0), 0, "", #[], none⟩
theorem regOps2 : (regOps 2).size = 35 := by kernel_rfl
theorem regOps9 : (regOps 9).size = 35 := by kernel_rfl

/-- The record of the fan-out. -/
def fanc (fn nf u1 u2 u3 wa : Value) : List Value := [fn, nf, u1, u2, u3, wa]
/-- Behind such a region: each row is longer by one, and the record names the new rows. -/
def Done3 (w w' : World) (fb : Nat) (fn nf wa : Value) (I N V n : Nat) (X1 X2 X3 : List Value) (e1 e2 e3 : Int) : Prop :=
  ∃ g1 d1 g2 d2 g3 d3, w'.heap[fb]? = some (.cells (fanc fn nf (.slice (some ⟨g1, 0, none⟩) (n + 1) d1) (.slice (some ⟨g2, 0, none⟩) (n + 1) d2) (.slice (some ⟨g3, 0, none⟩) (n + 1) d3) wa).toArray 53 (0, 0)) ∧
    w'.ownsRow 0 26 20 (.slice (some ⟨g1, 0, none⟩) (n + 1) d1) (n + 1) (X1 ++ idc e1) ∧ w'.ownsRow 0 3 1 (.slice (some ⟨g2, 0, none⟩) (n + 1) d2) (n + 1) (X2 ++ ic e2) ∧ w'.ownsRow 0 54 1 (.slice (some ⟨g3, 0, none⟩) (n + 1) d3) (n + 1) (X3 ++ vc e3) ∧
    (g1 = I ∨ w.heap.size ≤ g1) ∧ (g2 = N ∨ w.heap.size ≤ g2) ∧ (g3 = V ∨ w.heap.size ≤ g3) ∧ Chg (fun q => q = fb ∨ q = I ∨ q = N ∨ q = V) w w'

theorem done3_of {w0 w u1 u2 u3 : World} {fb : Nat} {fn nf wa : Value} {I N V c1 c2 c3 n : Nat} {X1 X2 X3 : List Value} {e1 e2 e3 : Int} {y1 y2 y3 : Value} {g1 d1 g2 d2 g3 d3 : Nat}
    (h : G3 w0 w I N V c1 c2 c3 n X1 X2 X3 e1 e2 e3 true true true true true true y1 (.slice (some ⟨g1, 0, none⟩) (n + 1) d1) y2 (.slice (some ⟨g2, 0, none⟩) (n + 1) d2) y3 (.slice (some ⟨g3, 0, none⟩) (n + 1) d3))
    (k1 : w.grownBy u1 (some fb)) (k2 : u1.grownBy u2 (some fb)) (k3 : u2.grownBy u3 (some fb)) (hf : w.heap[fb]? = some (.cells (fanc fn nf (.slice (some ⟨I, 0, none⟩) c1 c2) (.slice (some ⟨N, 0, none⟩) c1 c2) (.slice (some ⟨V, 0, none⟩) c1 c2) wa).toArray 53 (0, 0)) ∨ ∃ cs, w.heap[fb]? = some (.cells cs 53 (0, 0)))
    (hf3 : u3.heap[fb]? = some (.cells (fanc fn nf (.slice (some ⟨g1, 0, none⟩) (n + 1) d1) (.slice (some ⟨g2, 0, none⟩) (n + 1) d2) (.slice (some ⟨g3, 0, none⟩) (n + 1) d3) wa).toArray 53 (0, 0))) : Done3 w0 u3 fb fn nf wa I N V n X1 X2 X3 e1 e2 e3 := by
  obtain ⟨_, _, e, o1, l1⟩ := h.r1 rfl
  cases e
  obtain ⟨_, _, e, o2, l2⟩ := h.r2 rfl
  cases e
  obtain ⟨_, _, e, o3, l3⟩ := h.r3 rfl
  cases e
  obtain ⟨cs, hfb⟩ : ∃ cs, w.heap[fb]? = some (.cells cs 53 (0, 0)) := hf.elim (fun h => ⟨_, h⟩) id
  have m1 : g1 ≠ fb := by obtain ⟨_, b⟩ := own_blk o1; exact blk_ne b hfb (by decide)
  have m2 : g2 ≠ fb := by obtain ⟨_, b⟩ := own_blk o2; exact blk_ne b hfb (by decide)
  have m3 : g3 ≠ fb := by obtain ⟨_, b⟩ := own_blk o3; exact blk_ne b hfb (by decide)
  have kp : ∀ {e size g n' c : Nat} {xs : List Value}, w.ownsRow 0 e size (.slice (some ⟨g, 0, none⟩) n' c) n' xs → g ≠ fb → u3.ownsRow 0 e size (.slice (some ⟨g, 0, none⟩) n' c) n' xs := fun o m =>
    own_kept (own_kept (own_kept o k1 (by simp [Value.ownBlock]; omega)) k2 (by simp [Value.ownBlock]; omega)) k3 (by simp [Value.ownBlock]; omega)
  refine ⟨g1, d1, g2, d2, g3, d3, hf3, kp o1 m1, kp o2 m2, kp o3 m3, l1, l2, l3, ?_⟩
  refine (((h.chg.mono (T := fun q => q = fb ∨ q = I ∨ q = N ∨ q = V) (fun q e => .inr e)).grown k1 ?_).grown k2 ?_).grown k3 ?_
  all_goals (intro q e; cases e; exact .inl (.inl rfl))

/-- s[:0]. -/
theorem exec_slice0 {a : Act} {o : Oper} {w : World} {ty e : TypeId} {i : TypeInfo} (x : Operand) (ho : o.op = .slice ty x none (some (.const (.int .i64 0))) none) (ht : Yba.prog.underlying ty = some (.slice e)) (hi : Yba.prog.info? e = some i) (b n c : Nat) (hx : a.eval x = .slice (some ⟨b, 0, none⟩) n c) :
    (execOp a.eval o).run Yba.prog w = .ok (.value (.slice (some ⟨b, 0, none⟩) 0 c)) w := by
  have he : Yba.prog.elem ty = e := by simp [Program.elem, ht]
  have h := run_slice_h (P := Yba.prog) w ty (some ⟨b, 0, none⟩) n c (by rw [he]; exact ht) .i64 0 (by omega) (by omega)
  have hs : (sizeOf e).run Yba.prog w = .ok i.size w := by simp [sizeOf, typeInfo, hi]
  have hd : sliced (some ⟨b, 0, none⟩) 0 (0 : Int).toNat c i.size = .slice (some ⟨b, 0, none⟩) 0 c := by
    simp [sliced, Addr.add]
  rw [he, hs, Result.andThen_ok, hd] at h
  have hr : (Instr.sliceAt ty (.slice (some ⟨b, 0, none⟩) n c) none (some (.int .i64 0)) none).run Yba.prog w = .ok (.slice (some ⟨b, 0, none⟩) 0 c) w := by
    rw [run_sliceAt_slice w ty _ _ _ _ (by rw [he]; exact ht)]; exact h
  have e0 : a.eval (.const (.int .i64 0)) = .int .i64 0 := rfl
  unfold execOp
  simp only [ho, Option.map_some, Option.map_none, hx, e0]
  first
    | (rw [Sem.run_bind, hr, Result.andThen_ok, Sem.run_pure])
    | (rw [Sem.run_bind, h, Result.andThen_ok, Sem.run_pure])

end Go.Proofs.Ybulkdspq
