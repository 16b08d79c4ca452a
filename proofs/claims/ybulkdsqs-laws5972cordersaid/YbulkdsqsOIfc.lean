/-
  LawS5972COrder: the methods of *waitHeap through heap.Interface.
-/
import Derived.Test.YbulkdsqsOPdq
namespace Go.Proofs.Ybulkdsqs
open Go.RowKit Go.Sort
set_option linter.unusedSimpArgs false
set_option linter.unusedVariables false

/-- The interface value that the law hands to package heap. -/
abbrev hI (hb : Nat) : Value := .iface 39 (.pointer (some ⟨hb, 0, none⟩))

theorem cm_push (hb : Nat) (x : Value) (w : World) : (callMethod (hI hb) "Push" #[x]).run Yba.prog w = .ok (.enter 54 #[.pointer (some ⟨hb, 0, none⟩), x]) w := by kernel_rfl
theorem cm_pop (hb : Nat) (w : World) : (callMethod (hI hb) "Pop" #[]).run Yba.prog w = .ok (.enter 5 #[.pointer (some ⟨hb, 0, none⟩)]) w := by kernel_rfl

theorem recv_at (hb : Nat) (name : String) (v : Value) (w : World) (hl : (loadVar 34 ⟨hb, 0, none⟩).run Yba.prog w = .ok v w) : (receiverAt 39 (.val (.pointer (some ⟨hb, 0, none⟩))) false (some name)).run Yba.prog w = .ok v w := by
  have hu : (underlying 39).run Yba.prog w = .ok (.pointer 34) w := by kernel_rfl
  have hk : (Builtin.ssaWrapNilChk_ #[39] 39 #[.pointer (some ⟨hb, 0, none⟩), strVal "", strVal name]).run Yba.prog w = .ok (.pointer (some ⟨hb, 0, none⟩)) w := by kernel_rfl
  have ha : (asAddr (.pointer (some ⟨hb, 0, none⟩))).run Yba.prog w = .ok ⟨hb, 0, none⟩ w := by kernel_rfl
  simp only [receiverAt, Sem.run_bind, hu, Result.andThen_ok, Place.get, hk, Sem.run_pure, ha, hl]
theorem meth_at (hb fn : Nat) (name : String) (v : Value) (w : World) (hf : ((Yba.prog.info? 39).bind fun i => (i.methods.find? (·.name == name)).map fun m => (m.path, m.func)) = some (#[], some (fn, false))) (hl : (loadVar 34 ⟨hb, 0, none⟩).run Yba.prog w = .ok v w) (k : Nat) :
    (method (k + 1) 39 (.pointer (some ⟨hb, 0, none⟩)) name).run Yba.prog w = .ok (fn, v) w := by
  cases hi : Yba.prog.info? 39 with
  | none => simp [hi] at hf
  | some I =>
    cases hm : I.methods.find? (·.name == name) with
    | none => simp [hi, hm] at hf
    | some m =>
      have h1 : m.path = #[] ∧ m.func = some (fn, false) := by simpa [hi, hm] using hf
      have ht : (typeInfo 39).run Yba.prog w = .ok I w := by
        simp only [typeInfo, Sem.run_bind, run_program, Result.andThen_ok, hi, Sem.run_pure]
      simp only [method, Sem.run_bind, ht, Result.andThen_ok, hm, h1.1, h1.2, follow, Sem.run_pure, recv_at hb _ v w hl, Array.isEmpty_empty, if_true]
theorem cm_at {fn : Nat} {name : String} {args : Array Value} (hb : Nat) (v : Value) (w : World) (hf : ((Yba.prog.info? 39).bind fun i => (i.methods.find? (·.name == name)).map fun m => (m.path, m.func)) = some (#[], some (fn, false)))
    (he : (callFunc fn (#[v] ++ args)).run Yba.prog w = .ok (.enter fn (#[v] ++ args)) w) (hl : (loadVar 34 ⟨hb, 0, none⟩).run Yba.prog w = .ok v w) : (callMethod (hI hb) name args).run Yba.prog w = .ok (.enter fn (#[v] ++ args)) w := by
  obtain ⟨k, hk⟩ : ∃ k, Yba.prog.types.size + Made.depth = k + 1 := ⟨Yba.prog.types.size + 99, by generalize Yba.prog.types.size = n; rfl⟩
  simp only [callMethod, Sem.run_bind, run_program, Result.andThen_ok, hk, meth_at hb fn name v w hf hl k, he]
theorem load34 {hb : Nat} {w : World} {v : Value} (hc : w.cell? ⟨hb, 0, none⟩ = some v) : (loadVar 34 ⟨hb, 0, none⟩).run Yba.prog w = .ok v w := by
  have hs : (isAgg 34).run Yba.prog w = .ok false w := by kernel_rfl
  simp only [loadVar, Sem.run_bind, hs, Result.andThen_ok, Bool.false_eq_true, if_false]
  rw [run_load, hc]
theorem cm_len {hb : Nat} {w : World} {v : Value} (hc : w.cell? ⟨hb, 0, none⟩ = some v) : (callMethod (hI hb) "Len" #[]).run Yba.prog w = .ok (.enter 9 #[v]) w := cm_at hb v w (by kernel_rfl) (by kernel_rfl) (load34 hc)
theorem cm_less {hb : Nat} {w : World} {v : Value} (hc : w.cell? ⟨hb, 0, none⟩ = some v) (x y : Value) : (callMethod (hI hb) "Less" #[x, y]).run Yba.prog w = .ok (.enter 52 #[v, x, y]) w := cm_at hb v w (by kernel_rfl) (by kernel_rfl) (load34 hc)
theorem cm_swap {hb : Nat} {w : World} {v : Value} (hc : w.cell? ⟨hb, 0, none⟩ = some v) (x y : Value) : (callMethod (hI hb) "Swap" #[x, y]).run Yba.prog w = .ok (.enter 53 #[v, x, y]) w := cm_at hb v w (by kernel_rfl) (by kernel_rfl) (load34 hc)
end Go.Proofs.Ybulkdsqs
