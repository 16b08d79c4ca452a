/-
  LawS5970CWhole: two identifiers, two numbers compared for equality; isZero (27).
-/
import Derived.Test.YbulkdspqFmtCUn
import Derived.Maps.OwnSet
import Derived.DeepKeys4
namespace Go.Proofs.YbulkdspqFmt
open Go.RowKit
set_option linter.unusedSimpArgs false
set_option linter.unusedVariables false

theorem laid : laidOutB Ybaf.prog = true := by kernel_rfl
theorem row25 : (25 : TypeId) < Ybaf.prog.types.size := of_decide_eq_true (by kernel_rfl)
theorem law25 : WideMaps.KeyLaw Ybaf.prog 25 := deep_law_laid laid (m := 2) (by omega) row25 (by kernel_rfl) (by kernel_rfl)
theorem keyed25 : Maps.Keyed Ybaf.prog 25 := Maps.Keyed.of_law law25
theorem row41 : (41 : TypeId) < Ybaf.prog.types.size := of_decide_eq_true (by kernel_rfl)
theorem law41 : WideMaps.KeyLaw Ybaf.prog 41 := deep_law_laid laid (m := 2) (by omega) row41 (by kernel_rfl) (by kernel_rfl)
theorem keyed41 : Maps.Keyed Ybaf.prog 41 := Maps.Keyed.of_law law41
theorem wf_byt {f : Nat → Int} (hf : Byt f) (i : Nat) (hi : i < 20) : (Lit.int .u8 (f i)).wf = true := by
  have := hf i hi
  simp [Lit.wf, IntKind.min, IntKind.max, IntKind.signed, IntKind.bits]
  omega
theorem key25 {f : Nat → Int} (hf : Byt f) : ∃ l, keyOf Ybaf.prog 25 (.agg (ab f).toArray) = some l := by
  obtain ⟨n, hn⟩ : ∃ n, Ybaf.prog.types.size + 1 = n + 2 := ⟨Ybaf.prog.types.size - 1, by have h : (25 : Nat) < Ybaf.prog.types.size := row25; omega⟩
  have ht : Ybaf.prog.keyType 25 = true := by kernel_rfl
  have hfm : (Value.agg (ab f).toArray).formed Ybaf.prog 25 = true := by kernel_rfl
  have c25 : Ybaf.prog.cellsOf 25 = 20 := by kernel_rfl
  have c5 : Ybaf.prog.cellsOf 5 = 1 := by kernel_rfl
  have e1 : ∀ i, i < 20 → Ybaf.prog.keyLits (n + 1) 5 [.int .u8 (f i)] = some [.int .u8 (f i)] := fun i hi => by simp [Program.keyLits, Ybaf.underlying5, wf_byt hf i hi]
  unfold keyOf
  simp only [Ybaf.underlying25, ht, hfm, Bool.and_self, if_true, hn, Value.cells]
  unfold Program.keyLits
  have e : List.range 20 = [0, 1, 2, 3, 4, 5, 6, 7, 8, 9, 10, 11, 12, 13, 14, 15, 16, 17, 18, 19] := rfl
  simp [Ybaf.underlying25, c25, c5, ab_len, e]
  simp [ab, e1]
theorem key41 {h m l : Int} (hh : (Lit.int .u32 h).wf = true) (hm : (Lit.int .u64 m).wf = true) (hl : (Lit.int .u64 l).wf = true) : ∃ k, keyOf Ybaf.prog 41 (.agg (uc h m l).toArray) = some k := by
  obtain ⟨n, hn⟩ : ∃ n, Ybaf.prog.types.size + 1 = n + 2 := ⟨Ybaf.prog.types.size - 1, by have h : (41 : Nat) < Ybaf.prog.types.size := row41; omega⟩
  have ht : Ybaf.prog.keyType 41 = true := by kernel_rfl
  have hfm : (Value.agg (uc h m l).toArray).formed Ybaf.prog 41 = true := by kernel_rfl
  have c41 : 3 = Ybaf.prog.cellsOf 41 := by kernel_rfl
  have c39 : Ybaf.prog.cellsOf 39 = 1 := by kernel_rfl
  have c32 : Ybaf.prog.cellsOf 32 = 1 := by kernel_rfl
  have e1 : Ybaf.prog.keyLits (n + 1) 39 [.int .u32 h] = some [.int .u32 h] := by simp [Program.keyLits, Ybaf.underlying39, hh]
  have e2 : Ybaf.prog.keyLits (n + 1) 32 [.int .u64 m] = some [.int .u64 m] := by simp [Program.keyLits, Ybaf.underlying32, hm]
  have e3 : Ybaf.prog.keyLits (n + 1) 32 [.int .u64 l] = some [.int .u64 l] := by simp [Program.keyLits, Ybaf.underlying32, hl]
  unfold keyOf
  simp only [Ybaf.underlying41, ht, hfm, Bool.and_self, if_true, hn, Value.cells]
  unfold Program.keyLits
  simp [Ybaf.underlying41, c39, c32, uc]
  simp [e1, e2, e3, ← c41]
theorem ab_inj {f g : Nat → Int} (hf : Byt f) (hg : Byt g) (h : Value.agg (ab f).toArray = Value.agg (ab g).toArray) : nm f = nm g := by
  have e : ab f = ab g := by simpa using h
  refine lowv_congr 20 (fun i _ hi => ?_) (Nat.le_refl _)
  have := ab_get f i hi
  rw [e, ab_get g i hi] at this
  simpa using this.symm
theorem ab_of_nm {f g : Nat → Int} (hf : Byt f) (hg : Byt g) (h : nm f = nm g) : ab f = ab g := ab_congr fun i hi => nm_inj hf hg 20 (Nat.le_refl _) h i (by omega) hi
theorem eq25 {f g : Nat → Int} (hf : Byt f) (hg : Byt g) (w : World) : (Op.equal 25 (.agg (ab f).toArray) (.agg (ab g).toArray)).run Ybaf.prog w = .ok (decide (nm f = nm g)) w := by
  obtain ⟨l1, h1⟩ := key25 hf
  obtain ⟨l2, h2⟩ := key25 hg
  obtain ⟨r, hr, hi⟩ := run_equal_deep w (m := 2) (by omega) (by kernel_rfl) (by kernel_rfl) h1 h2
  suffices hh : r = decide (nm f = nm g) by rw [hr, hh]
  by_cases h : nm f = nm g
  · rw [ab_of_nm hf hg h, h2] at h1
    simpa [h] using hi.2 (Option.some.inj h1).symm
  · cases r
    · simp [h]
    · exact absurd (ab_inj hf hg (keyed25.inj h1 (by rw [hi.1 rfl]; exact h2))) h
theorem un_inj {p q : Int} (h : Value.agg (uN p).toArray = Value.agg (uN q).toArray) : p = q := by
  have e : uN p = uN q := by simpa using h
  simp [uN, uc] at e
  omega
theorem wf_un {n : Int} (hn : 0 ≤ n ∧ n < MM) : (Lit.int .u32 (n / 340282366920938463463374607431768211456)).wf = true ∧ (Lit.int .u64 (n / 18446744073709551616 % 18446744073709551616)).wf = true ∧ (Lit.int .u64 (n % 18446744073709551616)).wf = true := by
  have h2 : n < 1461501637330902918203684832716283019655932542976 := hn.2
  refine ⟨?_, ?_, ?_⟩ <;> (simp [Lit.wf, IntKind.min, IntKind.max, IntKind.signed, IntKind.bits]; omega)
theorem eq41 {p q : Int} (hp : 0 ≤ p ∧ p < MM) (hq : 0 ≤ q ∧ q < MM) (w : World) : (Op.equal 41 (.agg (uN p).toArray) (.agg (uN q).toArray)).run Ybaf.prog w = .ok (decide (p = q)) w := by
  obtain ⟨l1, h1⟩ := key41 (wf_un hp).1 (wf_un hp).2.1 (wf_un hp).2.2
  obtain ⟨l2, h2⟩ := key41 (wf_un hq).1 (wf_un hq).2.1 (wf_un hq).2.2
  obtain ⟨r, hr, hi⟩ := run_equal_deep w (m := 2) (by omega) (by kernel_rfl) (by kernel_rfl) h1 h2
  suffices hh : r = decide (p = q) by rw [← hh]; exact hr
  by_cases h : p = q
  · subst h
    rw [h2] at h1
    simpa using hi.2 (Option.some.inj h1).symm
  · cases r
    · simp [h]
    · exact absurd (un_inj (keyed41.inj h1 (by rw [hi.1 rfl]; exact h2))) h
section
variable {a : Act} {o : Oper} {w : World}
theorem exec_eql25 (x y : Operand) (ho : o.op = .binOp .eql 25 x y 25) {p q : Nat → Int} (hp : Byt p) (hq : Byt q) (hx : a.eval x = .agg (ab p).toArray) (hy : a.eval y = .agg (ab q).toArray) :
    (execOp a.eval o).run Ybaf.prog w = .ok (.value (.bool (decide (nm p = nm q)))) w := by
  have hg : (eqGuard .eql 25 x y (.agg (ab p).toArray) (.agg (ab q).toArray)).run Ybaf.prog w = .ok () w := by
    have e : Ybaf.prog.eqGuardType Ybaf.prog.depth 25 = false := by kernel_rfl
    simp [eqGuard, e]
  unfold execOp
  simp only [ho, hx, hy, Sem.run_bind, hg, Result.andThen_ok]
  simp only [binOp]
  rw [Sem.run_bind, eq25 hp hq w, Result.andThen_ok, Sem.run_pure, Result.andThen_ok, Sem.run_pure]
theorem exec_neq25 (x y : Operand) (ho : o.op = .binOp .neq 25 x y 25) {p q : Nat → Int} (hp : Byt p) (hq : Byt q) (hx : a.eval x = .agg (ab p).toArray) (hy : a.eval y = .agg (ab q).toArray) :
    (execOp a.eval o).run Ybaf.prog w = .ok (.value (.bool (!decide (nm p = nm q)))) w := by
  have hg : (eqGuard .neq 25 x y (.agg (ab p).toArray) (.agg (ab q).toArray)).run Ybaf.prog w = .ok () w := by
    have e : Ybaf.prog.eqGuardType Ybaf.prog.depth 25 = false := by kernel_rfl
    simp [eqGuard, e]
  unfold execOp
  simp only [ho, hx, hy, Sem.run_bind, hg, Result.andThen_ok]
  simp only [binOp]
  rw [Sem.run_bind, eq25 hp hq w, Result.andThen_ok, Sem.run_pure, Result.andThen_ok, Sem.run_pure]
theorem exec_eql41 (x y : Operand) (ho : o.op = .binOp .eql 41 x y 41) {p q : Int} (hp : 0 ≤ p ∧ p < MM) (hq : 0 ≤ q ∧ q < MM) (hx : a.eval x = .agg (uN p).toArray) (hy : a.eval y = .agg (uN q).toArray) :
    (execOp a.eval o).run Ybaf.prog w = .ok (.value (.bool (decide (p = q)))) w := by
  have hg : (eqGuard .eql 41 x y (.agg (uN p).toArray) (.agg (uN q).toArray)).run Ybaf.prog w = .ok () w := by
    have e : Ybaf.prog.eqGuardType Ybaf.prog.depth 41 = false := by kernel_rfl
    simp [eqGuard, e]
  unfold execOp
  simp only [ho, hx, hy, Sem.run_bind, hg, Result.andThen_ok]
  simp only [binOp]
  rw [Sem.run_bind, eq41 hp hq w, Result.andThen_ok, Sem.run_pure, Result.andThen_ok, Sem.run_pure]
theorem exec_build0 (ho : o.op = .build 41 #[]) : (execOp a.eval o).run Ybaf.prog w = .ok (.value (.agg (uN 0).toArray)) w := by
  have hb : (Instr.build 41 #[]).run Ybaf.prog w = .ok (.agg (uc 0 0 0).toArray) w := by kernel_rfl
  have e : uN 0 = uc 0 0 0 := by simp [uN]
  unfold execOp
  simp only [ho, List.map_toArray, List.map_nil, Sem.run_bind, hb, Result.andThen_ok, Sem.run_pure, e]
end
set_option maxRecDepth 100000 in
theorem zero_un {n : Int} (hn : 0 ≤ n ∧ n < MM) (w : World) : Calls Ybaf.prog 27 #[.agg (uN n).toArray] w fun e w' => e = .returned (.bool (decide (n = 0))) ∧ w.grownBy w' none := by
  have x1 : (w.alloc (.cells (uN n).toArray 41)).heap[w.heap.size]? = some (.cells (uN n).toArray 41 (0, 0)) := heap_alloc_new w _
  have hg : w.grownBy (w.alloc (.cells (uN n).toArray 41)) none := World.grownBy_alloc _ _ none
  have h0 : (0 : Int) ≤ 0 ∧ (0 : Int) < MM := by decide
  go_enter Ybaf.func27, Ybaf.ntmps27
  go_wp2_with (first
    | (refine wpList_is (.box 41 (.tmp 0)) rfl ?_; refine wpList_box41 rfl (.tmp 0) rfl _ _ _ rfl ?_)
    | (refine wpList_is (.load 41 (.tmp 1)) rfl ?_; refine wpList_load_blk rfl 41 (.tmp 1) rfl w.heap.size rfl (uN n) 41 x1 _ Ybaf.underlying41 rfl (size41 _ _ _) ?_)
    | (refine wpList_is (.build 41 #[]) rfl ?_; refine wpList_exec rfl _ (exec_build0 rfl) ?_)
    | (refine wpList_is (.binOp .eql 41 (.tmp 3) (.tmp 4) 41) rfl ?_; refine wpList_exec rfl _ (exec_eql41 (.tmp 3) (.tmp 4) rfl hn h0 rfl rfl) ?_))
  refine bodyPost_ret (by kernel_rfl) rfl ⟨rfl, hg⟩
end Go.Proofs.YbulkdspqFmt
