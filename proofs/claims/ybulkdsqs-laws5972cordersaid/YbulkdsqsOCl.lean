/-
  LawS5972COrder: slices.Clone of no element; of whatever slice.
-/
import Derived.Test.YbulkdsqsOWant
namespace Go.Proofs.Ybulkdsqs
open Go.RowKit Go.Sort
set_option linter.unusedSimpArgs false
set_option linter.unusedVariables false

theorem info26 : (Yba.prog.info? 26).map (fun i => (i.zero, i.size, i.bytes)) = some (some (.int .u64 0), 1, 8) := by kernel_rfl
theorem append_nothing (w : World) (ty : TypeId) (g c : Nat) (ad : Addr) : (Builtin.append_ #[22, 22] ty #[.slice (some ⟨g, 0, none⟩) 0 0, .slice (some ad) 0 c]).run Yba.prog w = .ok (.slice (some ⟨g, 0, none⟩) 0 0) w := by
  obtain ⟨i, hi, _⟩ := info_parts info26
  have h1 : (loadCells ad 0).run Yba.prog w = .ok #[] w := run_loadCells_list (P := Yba.prog) w ad [] (by simp)
  simp [Builtin.append_, run_underlying Yba.underlying22, sizeOf, typeInfo, hi, Builtin.lenOf, Builtin.firstCells, h1, storeCells]
theorem wpList_app22 {ops : Array Oper} {rest : List Oper} {op : Oper} {a : Act} {w : World} {Q : Exit → Act → World → Prop} (hgd : op.guard = none) (s x : Operand) (ho : op.op = .call { callee := .builtin .append, args := #[s, x], argTypes := #[22, 22] }) (g c : Nat) (ad : Addr)
    (hs : a.eval s = .slice (some ⟨g, 0, none⟩) 0 0) (hx : a.eval x = .slice (some ad) 0 c) (h : wpList Yba.prog ops Q rest (a.put op.dst (.slice (some ⟨g, 0, none⟩) 0 0)) w) : wpList Yba.prog ops Q (op :: rest) a w := by
  refine wpList_exec hgd _ ?_ h
  unfold execOp
  simp only [ho, resolve, invoke, builtin, Sem.run_bind, Sem.run_pure, Result.andThen_ok, List.map_toArray, List.map_cons, List.map_nil, hs, hx, append_nothing]
set_option maxRecDepth 100000 in
theorem clone7z (w : World) (ad : Addr) (c : Nat) : Calls Yba.prog 7 #[.slice (some ad) 0 c] w fun e w' => ∃ v, e = .returned v ∧ w'.ownsRow w.heap.size 26 1 v 0 [] ∧ w.grownBy w' none := by
  have q22 : (binOp .eql 22 (.slice (some ad) 0 c) (.slice none 0 0)).run Yba.prog w = .ok (.bool false) w := Lib.run_eql_slice_nil w _ _ (some ad) 0 c 0 0 Yba.underlying22
  go_enter Yba.func7, Yba.ntmps7
  go_wp2_with (first | (refine wpList_is (.call { callee := .builtin .append, args := #[.tmp 5, .tmp 6], argTypes := #[22, 22] }) rfl ?_; refine wpList_app22 rfl (.tmp 5) (.tmp 6) rfl w.heap.size c ad rfl rfl ?_))
  refine bodyPost_ret (v := .slice (some ⟨w.heap.size, 0, none⟩) 0 0) (by kernel_rfl) rfl ⟨_, rfl, ⟨rfl, .inr ⟨w.heap.size, 0, #[], rfl, Nat.le_refl _, blk_new _ _ _ _ rfl, Nat.le_refl _, Nat.zero_le _, rfl, rfl⟩⟩, World.grownBy_alloc _ _ none⟩
theorem clone_any (w : World) (a : Option Addr) (n c : Nat) (Z : List Int) (hl : Z.length = n) (hn : n ≤ 4096) (ha : ∀ j z, Z[j]? = some z → ∃ b o, a = some ⟨b, o, none⟩ ∧ w.cell? ⟨b, o + j, none⟩ = some (.int .u64 z)) :
    Calls Yba.prog 7 #[.slice a n c] w fun e w' => ∃ v, e = .returned v ∧ w'.ownsRow w.heap.size 26 1 v n (Z.map (Value.int .u64)) ∧ w.grownBy w' none := by
  cases Z with
  | nil =>
    simp at hl
    subst hl
    cases a with
    | none => exact clone7 w none 0 c [] rfl (by omega) (fun j z h => by simp at h) (fun ad h => by cases h)
    | some ad => exact clone7z w ad c
  | cons z t =>
    obtain ⟨b, o, rfl, _⟩ := ha 0 z rfl
    exact clone7 w _ n c (z :: t) hl hn ha (fun ad h => by cases h; rfl)
theorem own_down {w : World} {base base' : Nat} {e : TypeId} {size : Nat} {v : Value} {n : Nat} {xs : List Value} (h : w.ownsRow base' e size v n xs) (hb : base ≤ base') : w.ownsRow base e size v n xs :=
  ⟨h.1, h.2.imp id fun ⟨g, cap, cur, h1, h2, h3⟩ => ⟨g, cap, cur, h1, Nat.le_trans hb h2, h3⟩⟩
end Go.Proofs.Ybulkdsqs
