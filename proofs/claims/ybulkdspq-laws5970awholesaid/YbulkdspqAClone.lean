/-
  LawS5970AWhole: append onto a row; slices.Clone at its four types (6, 7, 10, 11).
-/
import Derived.Test.YbulkdspqAFun1
namespace Go.Proofs.Ybulkdspq
open Go.RowKit
set_option linter.unusedSimpArgs false
set_option linter.unusedVariables false

theorem exec_app {a : Act} {o : Oper} {w : World} {t e : TypeId} {z : Value} {size bytes : Nat} (ht : Yba.prog.underlying t = some (.slice e)) (hinfo : (Yba.prog.info? e).map (fun i => (i.zero, i.size, i.bytes)) = some (some z, size, bytes)) (hzs : z.cells.size = size) (hsz : 0 < size) (hby : bytes ≤ 48)
    (s x : Operand) (ho : o.op = .call { callee := .builtin .append, args := #[s, x], argTypes := #[t, t] }) (v : Value) (n : Nat) (xs : List Value) (hs : a.eval s = v) (hown : w.ownsRow 0 e size v n xs)
    (ad m c : Nat) (news : List Value) (hx : a.eval x = .slice (some ⟨ad, 0, none⟩) m c) (hl : news.length = m * size) (hnews : ∀ j u, news[j]? = some u → w.cell? ((⟨ad, 0, none⟩ : Addr).add j) = some u) (h1 : ∀ u ∈ news, u.oneCell' = true) (hn : n + m ≤ 1000000) :
    ∃ v' w', (execOp a.eval o).run Yba.prog w = .ok (.value v') w' ∧ w'.ownsRow 0 e size v' (n + m) (xs ++ news) ∧ w.grownBy w' v.ownBlock ∧ (v' = .slice none 0 0 ↔ v = .slice none 0 0 ∧ m = 0) ∧ (v'.ownBlock = v.ownBlock ∨ v'.ownBlock = some w.heap.size) := by
  obtain ⟨i, hi, hz, hsize, hb⟩ := info_parts hinfo
  have hbytes : (n + m) * bytes ≤ 140737488355328 := Nat.le_trans (Nat.mul_le_mul hn hby) (by decide)
  obtain ⟨v', w', hr, h2, h3, h4, h5⟩ := run_append_own_at (P := Yba.prog) w 0 t o.type e i z size bytes ht hi hz hsize hb hzs hsz v n xs hown ⟨ad, 0, none⟩ m c news hl hnews h1 (by simp [maxLen]; omega) hbytes (Nat.zero_le _)
  refine ⟨v', w', ?_, h2, h3, h4, h5⟩
  unfold execOp
  simp only [ho, resolve, invoke, builtin, Sem.run_bind, Sem.run_pure, Result.andThen_ok, List.map_toArray, List.map_cons, List.map_nil, hs, hx, hr]

theorem wpList_app {ops : Array Oper} {rest : List Oper} {a : Act} {o : Oper} {w : World} {Q : Exit → Act → World → Prop} {t e : TypeId} {z : Value} {size bytes : Nat} (hgd : o.guard = none) (ht : Yba.prog.underlying t = some (.slice e)) (hinfo : (Yba.prog.info? e).map (fun i => (i.zero, i.size, i.bytes)) = some (some z, size, bytes)) (hzs : z.cells.size = size) (hsz : 0 < size) (hby : bytes ≤ 48)
    (s x : Operand) (ho : o.op = .call { callee := .builtin .append, args := #[s, x], argTypes := #[t, t] }) (v : Value) (n : Nat) (xs : List Value) (hs : a.eval s = v) (hown : w.ownsRow 0 e size v n xs)
    (ad m c : Nat) (news : List Value) (hx : a.eval x = .slice (some ⟨ad, 0, none⟩) m c) (hl : news.length = m * size) (hnews : ∀ j u, news[j]? = some u → w.cell? ((⟨ad, 0, none⟩ : Addr).add j) = some u) (h1 : ∀ u ∈ news, u.oneCell' = true) (hn : n + m ≤ 1000000)
    (h : ∀ v' w', w'.ownsRow 0 e size v' (n + m) (xs ++ news) → w.grownBy w' v.ownBlock → (v' = .slice none 0 0 ↔ v = .slice none 0 0 ∧ m = 0) → (v'.ownBlock = v.ownBlock ∨ v'.ownBlock = some w.heap.size) → wpList Yba.prog ops Q rest (a.put o.dst v') w') : wpList Yba.prog ops Q (o :: rest) a w := by
  obtain ⟨v', w', hr, h2, h3, h4, h5⟩ := exec_app ht hinfo hzs hsz hby s x ho v n xs hs hown ad m c news hx hl hnews h1 hn
  exact wpList_exec hgd v' hr (h v' w' h2 h3 h4 h5)

/-- A row that is not nil. -/
theorem own_some {w : World} {e : TypeId} {size n : Nat} {v : Value} {xs : List Value} (h : w.ownsRow 0 e size v n xs) (hv : v ≠ .slice none 0 0) : ∃ g c, v = .slice (some ⟨g, 0, none⟩) n c := by
  rcases h.2 with ⟨rfl, _⟩ | ⟨g, cap, cur, rfl, _⟩
  · exact absurd rfl hv
  · exact ⟨g, cap, rfl⟩
theorem own_empty (w : World) (e : TypeId) (size : Nat) : (w.alloc (.cells #[] e)).ownsRow 0 e size (.slice (some ⟨w.heap.size, 0, none⟩) 0 0) 0 [] :=
  World.ownsRow_made w #[] 0 (Nat.zero_le _) (Nat.zero_le _) (by simp)

theorem bs31z (w : World) : (Instr.buildSlice 31 0 #[]).run Yba.prog w = .ok (.slice (some ⟨w.heap.size, 0, none⟩) 0 0) (w.alloc (.cells #[] 26)) := by kernel_rfl
theorem exec_bs31z {a : Act} {o : Oper} {w : World} (ho : o.op = .buildSlice 31 0 #[]) : (execOp a.eval o).run Yba.prog w = .ok (.value (.slice (some ⟨w.heap.size, 0, none⟩) 0 0)) (w.alloc (.cells #[] 26)) := by
  unfold execOp
  simp only [ho, List.map_toArray, List.map_nil, Sem.run_bind, bs31z, Result.andThen_ok, Sem.run_pure]
theorem nil31 (g n c : Nat) (w : World) : (binOp .eql 31 (.slice (some ⟨g, 0, none⟩) n c) (.slice none 0 0)).run Yba.prog w = .ok (.bool false) w := by
  have h : ∀ d : Nat, (Op.equalIn (d + 1) 31 (.slice (some ⟨g, 0, none⟩) n c) (.slice none 0 0)).run Yba.prog w = .ok false w := fun d => by simp [Op.equalIn, run_underlying Yba.underlying31]
  simp only [binOp]
  simp [Op.equal, Op.maxDepth, h 9999]
set_option maxRecDepth 100000 in
theorem clone6_any {w : World} {g n c : Nat} {xs : List Value} (hl : xs.length = n * 20) (hx : ∀ j u, xs[j]? = some u → w.cell? ((⟨g, 0, none⟩ : Addr).add j) = some u) (h1 : ∀ u ∈ xs, u.oneCell' = true) (hn : n ≤ 65536) :
    Calls Yba.prog 6 #[.slice (some ⟨g, 0, none⟩) n c] w fun e w' => ∃ g' c', e = .returned (.slice (some ⟨g', 0, none⟩) n c') ∧ w.heap.size ≤ g' ∧ w'.ownsRow 0 26 20 (.slice (some ⟨g', 0, none⟩) n c') n xs ∧ w.grownBy w' none := by
  go_enter Yba.func6, Yba.ntmps6
  have hx' : ∀ j u, xs[j]? = some u → (w.alloc (.cells #[] 26)).cell? ((⟨g, 0, none⟩ : Addr).add j) = some u := fun j u hu => by
    have h := hx j u hu
    exact (World.cell?_alloc_old w _ _ (Nat.ne_of_lt (World.block_lt_of_cell? w _ h))).trans h
  have hnil0 := nil31 g n c
  go_wp2_with (first
    | (refine wpList_is (.buildSlice 31 0 #[]) rfl ?_; refine wpList_exec rfl _ (exec_bs31z rfl) ?_)
    | (refine wpList_is (.call { callee := .builtin .append, args := #[.tmp 5, .tmp 6], argTypes := #[31, 31] }) rfl ?_; refine wpList_app rfl Yba.underlying31 info26 rfl (by omega) (by omega) (.tmp 5) (.tmp 6) rfl (.slice (some ⟨w.heap.size, 0, none⟩) 0 0) 0 [] rfl (own_empty w 26 20) g n c xs rfl hl hx' h1 (by omega) ?_; intro v' w1 hown hgr hnil hat))
  obtain ⟨g', c', rfl⟩ := own_some hown (fun h => by simpa using (hnil.1 h))
  refine bodyPost_ret (v := .slice (some ⟨g', 0, none⟩) (0 + n) c') (by kernel_rfl) rfl ?_
  simp only [Nat.zero_add, List.nil_append] at hown ⊢
  refine ⟨g', c', rfl, ?_, hown, grown_new hgr⟩
  simp [Value.ownBlock] at hat
  omega

theorem bs37z (w : World) : (Instr.buildSlice 37 0 #[]).run Yba.prog w = .ok (.slice (some ⟨w.heap.size, 0, none⟩) 0 0) (w.alloc (.cells #[] 45)) := by kernel_rfl
theorem exec_bs37z {a : Act} {o : Oper} {w : World} (ho : o.op = .buildSlice 37 0 #[]) : (execOp a.eval o).run Yba.prog w = .ok (.value (.slice (some ⟨w.heap.size, 0, none⟩) 0 0)) (w.alloc (.cells #[] 45)) := by
  unfold execOp
  simp only [ho, List.map_toArray, List.map_nil, Sem.run_bind, bs37z, Result.andThen_ok, Sem.run_pure]
theorem nil37 (g n c : Nat) (w : World) : (binOp .eql 37 (.slice (some ⟨g, 0, none⟩) n c) (.slice none 0 0)).run Yba.prog w = .ok (.bool false) w := by
  have h : ∀ d : Nat, (Op.equalIn (d + 1) 37 (.slice (some ⟨g, 0, none⟩) n c) (.slice none 0 0)).run Yba.prog w = .ok false w := fun d => by simp [Op.equalIn, run_underlying Yba.underlying37]
  simp only [binOp]
  simp [Op.equal, Op.maxDepth, h 9999]
set_option maxRecDepth 100000 in
theorem clone7_any {w : World} {g n c : Nat} {xs : List Value} (hl : xs.length = n * 23) (hx : ∀ j u, xs[j]? = some u → w.cell? ((⟨g, 0, none⟩ : Addr).add j) = some u) (h1 : ∀ u ∈ xs, u.oneCell' = true) (hn : n ≤ 65536) :
    Calls Yba.prog 7 #[.slice (some ⟨g, 0, none⟩) n c] w fun e w' => ∃ g' c', e = .returned (.slice (some ⟨g', 0, none⟩) n c') ∧ w.heap.size ≤ g' ∧ w'.ownsRow 0 45 23 (.slice (some ⟨g', 0, none⟩) n c') n xs ∧ w.grownBy w' none := by
  go_enter Yba.func7, Yba.ntmps7
  have hx' : ∀ j u, xs[j]? = some u → (w.alloc (.cells #[] 45)).cell? ((⟨g, 0, none⟩ : Addr).add j) = some u := fun j u hu => by
    have h := hx j u hu
    exact (World.cell?_alloc_old w _ _ (Nat.ne_of_lt (World.block_lt_of_cell? w _ h))).trans h
  have hnil0 := nil37 g n c
  go_wp2_with (first
    | (refine wpList_is (.buildSlice 37 0 #[]) rfl ?_; refine wpList_exec rfl _ (exec_bs37z rfl) ?_)
    | (refine wpList_is (.call { callee := .builtin .append, args := #[.tmp 5, .tmp 6], argTypes := #[37, 37] }) rfl ?_; refine wpList_app rfl Yba.underlying37 info45 rfl (by omega) (by omega) (.tmp 5) (.tmp 6) rfl (.slice (some ⟨w.heap.size, 0, none⟩) 0 0) 0 [] rfl (own_empty w 45 23) g n c xs rfl hl hx' h1 (by omega) ?_; intro v' w1 hown hgr hnil hat))
  obtain ⟨g', c', rfl⟩ := own_some hown (fun h => by simpa using (hnil.1 h))
  refine bodyPost_ret (v := .slice (some ⟨g', 0, none⟩) (0 + n) c') (by kernel_rfl) rfl ?_
  simp only [Nat.zero_add, List.nil_append] at hown ⊢
  refine ⟨g', c', rfl, ?_, hown, grown_new hgr⟩
  simp [Value.ownBlock] at hat
  omega

theorem bs38z (w : World) : (Instr.buildSlice 38 0 #[]).run Yba.prog w = .ok (.slice (some ⟨w.heap.size, 0, none⟩) 0 0) (w.alloc (.cells #[] 3)) := by kernel_rfl
theorem exec_bs38z {a : Act} {o : Oper} {w : World} (ho : o.op = .buildSlice 38 0 #[]) : (execOp a.eval o).run Yba.prog w = .ok (.value (.slice (some ⟨w.heap.size, 0, none⟩) 0 0)) (w.alloc (.cells #[] 3)) := by
  unfold execOp
  simp only [ho, List.map_toArray, List.map_nil, Sem.run_bind, bs38z, Result.andThen_ok, Sem.run_pure]
theorem nil38 (g n c : Nat) (w : World) : (binOp .eql 38 (.slice (some ⟨g, 0, none⟩) n c) (.slice none 0 0)).run Yba.prog w = .ok (.bool false) w := by
  have h : ∀ d : Nat, (Op.equalIn (d + 1) 38 (.slice (some ⟨g, 0, none⟩) n c) (.slice none 0 0)).run Yba.prog w = .ok false w := fun d => by simp [Op.equalIn, run_underlying Yba.underlying38]
  simp only [binOp]
  simp [Op.equal, Op.maxDepth, h 9999]
set_option maxRecDepth 100000 in
theorem clone10_any {w : World} {g n c : Nat} {xs : List Value} (hl : xs.length = n * 1) (hx : ∀ j u, xs[j]? = some u → w.cell? ((⟨g, 0, none⟩ : Addr).add j) = some u) (h1 : ∀ u ∈ xs, u.oneCell' = true) (hn : n ≤ 65536) :
    Calls Yba.prog 10 #[.slice (some ⟨g, 0, none⟩) n c] w fun e w' => ∃ g' c', e = .returned (.slice (some ⟨g', 0, none⟩) n c') ∧ w.heap.size ≤ g' ∧ w'.ownsRow 0 3 1 (.slice (some ⟨g', 0, none⟩) n c') n xs ∧ w.grownBy w' none := by
  go_enter Yba.func10, Yba.ntmps10
  have hx' : ∀ j u, xs[j]? = some u → (w.alloc (.cells #[] 3)).cell? ((⟨g, 0, none⟩ : Addr).add j) = some u := fun j u hu => by
    have h := hx j u hu
    exact (World.cell?_alloc_old w _ _ (Nat.ne_of_lt (World.block_lt_of_cell? w _ h))).trans h
  have hnil0 := nil38 g n c
  go_wp2_with (first
    | (refine wpList_is (.buildSlice 38 0 #[]) rfl ?_; refine wpList_exec rfl _ (exec_bs38z rfl) ?_)
    | (refine wpList_is (.call { callee := .builtin .append, args := #[.tmp 5, .tmp 6], argTypes := #[38, 38] }) rfl ?_; refine wpList_app rfl Yba.underlying38 info3 rfl (by omega) (by omega) (.tmp 5) (.tmp 6) rfl (.slice (some ⟨w.heap.size, 0, none⟩) 0 0) 0 [] rfl (own_empty w 3 1) g n c xs rfl hl hx' h1 (by omega) ?_; intro v' w1 hown hgr hnil hat))
  obtain ⟨g', c', rfl⟩ := own_some hown (fun h => by simpa using (hnil.1 h))
  refine bodyPost_ret (v := .slice (some ⟨g', 0, none⟩) (0 + n) c') (by kernel_rfl) rfl ?_
  simp only [Nat.zero_add, List.nil_append] at hown ⊢
  refine ⟨g', c', rfl, ?_, hown, grown_new hgr⟩
  simp [Value.ownBlock] at hat
  omega

theorem bs51z (w : World) : (Instr.buildSlice 51 0 #[]).run Yba.prog w = .ok (.slice (some ⟨w.heap.size, 0, none⟩) 0 0) (w.alloc (.cells #[] 54)) := by kernel_rfl
theorem exec_bs51z {a : Act} {o : Oper} {w : World} (ho : o.op = .buildSlice 51 0 #[]) : (execOp a.eval o).run Yba.prog w = .ok (.value (.slice (some ⟨w.heap.size, 0, none⟩) 0 0)) (w.alloc (.cells #[] 54)) := by
  unfold execOp
  simp only [ho, List.map_toArray, List.map_nil, Sem.run_bind, bs51z, Result.andThen_ok, Sem.run_pure]
theorem nil51 (g n c : Nat) (w : World) : (binOp .eql 51 (.slice (some ⟨g, 0, none⟩) n c) (.slice none 0 0)).run Yba.prog w = .ok (.bool false) w := by
  have h : ∀ d : Nat, (Op.equalIn (d + 1) 51 (.slice (some ⟨g, 0, none⟩) n c) (.slice none 0 0)).run Yba.prog w = .ok false w := fun d => by simp [Op.equalIn, run_underlying Yba.underlying51]
  simp only [binOp]
  simp [Op.equal, Op.maxDepth, h 9999]
set_option maxRecDepth 100000 in
theorem clone11_any {w : World} {g n c : Nat} {xs : List Value} (hl : xs.length = n * 1) (hx : ∀ j u, xs[j]? = some u → w.cell? ((⟨g, 0, none⟩ : Addr).add j) = some u) (h1 : ∀ u ∈ xs, u.oneCell' = true) (hn : n ≤ 65536) :
    Calls Yba.prog 11 #[.slice (some ⟨g, 0, none⟩) n c] w fun e w' => ∃ g' c', e = .returned (.slice (some ⟨g', 0, none⟩) n c') ∧ w.heap.size ≤ g' ∧ w'.ownsRow 0 54 1 (.slice (some ⟨g', 0, none⟩) n c') n xs ∧ w.grownBy w' none := by
  go_enter Yba.func11, Yba.ntmps11
  have hx' : ∀ j u, xs[j]? = some u → (w.alloc (.cells #[] 54)).cell? ((⟨g, 0, none⟩ : Addr).add j) = some u := fun j u hu => by
    have h := hx j u hu
    exact (World.cell?_alloc_old w _ _ (Nat.ne_of_lt (World.block_lt_of_cell? w _ h))).trans h
  have hnil0 := nil51 g n c
  go_wp2_with (first
    | (refine wpList_is (.buildSlice 51 0 #[]) rfl ?_; refine wpList_exec rfl _ (exec_bs51z rfl) ?_)
    | (refine wpList_is (.call { callee := .builtin .append, args := #[.tmp 5, .tmp 6], argTypes := #[51, 51] }) rfl ?_; refine wpList_app rfl Yba.underlying51 info54 rfl (by omega) (by omega) (.tmp 5) (.tmp 6) rfl (.slice (some ⟨w.heap.size, 0, none⟩) 0 0) 0 [] rfl (own_empty w 54 1) g n c xs rfl hl hx' h1 (by omega) ?_; intro v' w1 hown hgr hnil hat))
  obtain ⟨g', c', rfl⟩ := own_some hown (fun h => by simpa using (hnil.1 h))
  refine bodyPost_ret (v := .slice (some ⟨g', 0, none⟩) (0 + n) c') (by kernel_rfl) rfl ?_
  simp only [Nat.zero_add, List.nil_append] at hown ⊢
  refine ⟨g', c', rfl, ?_, hown, grown_new hgr⟩
  simp [Value.ownBlock] at hat
  omega

end Go.Proofs.Ybulkdspq
