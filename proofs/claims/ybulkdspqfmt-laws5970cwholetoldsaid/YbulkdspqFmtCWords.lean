/-
  LawS5970CWhole: the number of an identifier in three words (16).
-/
import Derived.Test.YbulkdspqFmtCBin
namespace Go.Proofs.YbulkdspqFmt
open Go.RowKit
set_option linter.unusedSimpArgs false
set_option linter.unusedVariables false

theorem below_grown {w w' : World} (h : Below w.heap.size w w') : w.grownBy w' none := ⟨h.os, h.tape, h.output, h.size, fun q hq _ => h.block q hq⟩
theorem grown_drew (w : World) : w.grownBy { w with drawn := w.drawn + 1 } none := ⟨rfl, rfl, rfl, Nat.le_refl _, fun _ _ _ => rfl⟩
/-- The three words. -/
def hiW (f : Nat → Int) : Int := Lib.beZ [f 0, f 1, f 2, f 3]
def miW (f : Nat → Int) : Int := Lib.beZ [f 4, f 5, f 6, f 7, f 8, f 9, f 10, f 11]
def loW (f : Nat → Int) : Int := Lib.beZ [f 12, f 13, f 14, f 15, f 16, f 17, f 18, f 19]
/-- The cells of three words. -/
def uc (h m l : Int) : List Value := [.int .u32 h, .int .u64 m, .int .u64 l]
theorem nm_words (f : Nat → Int) : nm f = hiW f * 340282366920938463463374607431768211456 + miW f * 18446744073709551616 + loW f := by
  simp [nm, lowv, hiW, miW, loW, Lib.beZ, Lib.beFromZ]
  omega
theorem size41 (h m l : Int) : (Ybaf.prog.info? 41).map (·.size) = some (uc h m l).length := by kernel_rfl
theorem uc_one (h m l : Int) : ∀ v ∈ uc h m l, v.oneCell' = true := by intro v hv; simp [uc] at hv; rcases hv with rfl | rfl | rfl <;> rfl
theorem alloc41 (w : World) : (Instr.alloc 41 true (.tuple #[])).run Ybaf.prog w = .ok (.pointer (some ⟨w.heap.size, 0, none⟩)) (w.alloc (.cells (uc 0 0 0).toArray 41)) := by kernel_rfl
theorem wpList_alloc41 {ops : Array Oper} {rest : List Oper} {op : Oper} {a : Act} {w : World} {Q : Exit → Act → World → Prop} (hgd : op.guard = none) (ho : op.op = .alloc 41)
    (h : wpList Ybaf.prog ops Q rest (a.put op.dst (.pointer (some ⟨w.heap.size, 0, none⟩))) (w.alloc (.cells (uc 0 0 0).toArray 41))) : wpList Ybaf.prog ops Q (op :: rest) a w := by
  refine wpList_plain hgd fun K hK => ?_
  unfold Oper.wp execOp
  simp only [ho, Sem.run_bind, alloc41, Result.andThen_ok, Sem.run_pure]
  exact hK _ _ h
theorem exec_build41 {a : Act} {o : Oper} {w : World} (x0 x1 x2 : Operand) (ho : o.op = .build 41 #[(0, x0), (1, x1), (2, x2)]) (h m l : Int) (e0 : a.eval x0 = .int .u32 h) (e1 : a.eval x1 = .int .u64 m) (e2 : a.eval x2 = .int .u64 l) : (execOp a.eval o).run Ybaf.prog w = .ok (.value (.agg (uc h m l).toArray)) w := by
  have hb : (Instr.build 41 #[(0, .int .u32 h), (1, .int .u64 m), (2, .int .u64 l)]).run Ybaf.prog w = .ok (.agg (uc h m l).toArray) w := by kernel_rfl
  unfold execOp
  simp only [ho, List.map_toArray, List.map_cons, List.map_nil, e0, e1, e2, Sem.run_bind, hb, Result.andThen_ok, Sem.run_pure]
section
variable {P : Program} {ops : Array Oper} {S : World → Prop} {a : Act} {md : Region.Mode} {Q : Exit → Act → World → Prop}
theorem any_store_blk (i : Nat) {fuel : Nat} {o : Oper} {listed : Array Bool} {w : World} (hi : ops[i]? = some o) (hd : o.dst = none) (hr : Region.ready md ops listed = [i]) (hw : Region.wanted o (yielded ops a.tmps) = true)
    (ty : TypeId) (x y : Operand) (ho : o.op = .store ty x y) (b : Nat) (cs : List Value) (hx : a.eval x = .pointer (some ⟨b, 0, none⟩)) (hy : a.eval y = .agg cs.toArray) (cur : Array Value) (t : TypeId) (hb : w.heap[b]? = some (.cells cur t (0, 0))) (hs : cur.size = cs.length) (hsz : (P.info? ty).map (·.size) = some cs.length) (h1 : ∀ v ∈ cs, v.oneCell' = true)
    (h : ∀ w', w'.heap[b]? = some (.cells cs.toArray t (0, 0)) → w.grownBy w' (some b) → S w' ∧ wpAnyH P md ops Q S fuel (listed.setIfInBounds i true) (a.put none undef) w') : wpAnyH P md ops Q S (fuel + 1) listed a w := by
  have hh := h _ (setRow_heap _ _ _ _ _ _ hb) ⟨rfl, rfl, rfl, by simp [World.setRow], fun k _ hk => setRow_other _ _ _ _ (fun e => hk (by rw [e]))⟩
  refine any_skip i _ hi hr hw ?_ hh.1 (by rw [hd]; exact hh.2)
  have hr := run_store_blk (P := P) hb hs hsz h1
  unfold execOp
  simp only [ho, hx, hy, Instr.storeAt, Instr.sureAddr, Sem.run_bind, Sem.run_pure, Result.andThen_ok, hr]
end
/-- Bytes out of the block, as the readers want them. -/
theorem cells_of {w : World} {g : Nat} {f : Nat → Int} (hb : w.heap[g]? = some (.cells (ab f).toArray 25 (0, 0))) (o n : Nat) (ho : o + n ≤ 20) : ∀ i, i < ((List.range n).map (fun j => f (o + j))).length → w.cell? ((⟨g, o, none⟩ : Addr).add i) = some (.int .u8 (((List.range n).map (fun j => f (o + j))).getD i 0)) := by
  intro i hi
  simp at hi
  have h1 := range_of_blk hb (o + i) _ (ab_get f (o + i) (by omega))
  rw [Addr.add_mid]
  simp [List.getD, hi]
  simpa using h1
theorem wf_of {f : Nat → Int} (hf : Byt f) (o n : Nat) (ho : o + n ≤ 20) : ∀ z ∈ (List.range n).map (fun j => f (o + j)), (Lit.int .u8 z).wf = true := by
  intro z hz
  obtain ⟨j, hj, rfl⟩ := List.mem_map.1 hz
  have := hf (o + j) (by have := List.mem_range.1 hj; omega)
  simp [Lit.wf, IntKind.min, IntKind.max, IntKind.signed, IntKind.bits]
  omega

set_option maxRecDepth 100000 in
set_option maxHeartbeats 2000000 in
theorem num_any {f : Nat → Int} (hf : Byt f) (w : World) : Calls Ybaf.prog 16 #[.agg (ab f).toArray] w fun e w' => e = .returned (.agg (uc (hiW f) (miW f) (loW f)).toArray) ∧ w.grownBy w' none := by
  go_enter Ybaf.func16, Ybaf.ntmps16
  go_upto_region 1 with (first
    | (refine wpList_is (.box 25 (.tmp 0)) rfl ?_; refine wpList_box25 rfl (.tmp 0) rfl f rfl ?_)
    | (refine wpList_is (.alloc 41) rfl ?_; refine wpList_alloc41 rfl rfl ?_))
  have hsz : (w.alloc (.cells (ab f).toArray 25)).heap.size = w.heap.size + 1 := by simp
  simp only [hsz]
  clear hsz
  have h1 : ((w.alloc (.cells (ab f).toArray 25)).alloc (.cells (uc 0 0 0).toArray 41)).heap[w.heap.size]? = some (.cells (ab f).toArray 25 (0, 0)) := blk_alloc (heap_alloc_new w _) _
  have h2 : ((w.alloc (.cells (ab f).toArray 25)).alloc (.cells (uc 0 0 0).toArray 41)).heap[w.heap.size + 1]? = some (.cells (uc 0 0 0).toArray 41 (0, 0)) := blk_new _ _ _ _ (by simp)
  have hg : w.grownBy ((w.alloc (.cells (ab f).toArray 25)).alloc (.cells (uc 0 0 0).toArray 41)) none := grown_trans (World.grownBy_alloc _ _ none) (World.grownBy_alloc _ _ none)
  generalize (w.alloc (.cells (ab f).toArray 25)).alloc (.cells (uc 0 0 0).toArray 41) = u at *
  refine wp_region_held (S := fun w' : World => w'.heap[w.heap.size]? = some (.cells (ab f).toArray 25 (0, 0))) (by kernel_rfl) ?_
  have hS : (fun w' : World => w'.heap[w.heap.size]? = some (.cells (ab f).toArray 25 (0, 0))) { u with drawn := u.drawn + 1 } := h1
  have h2d : ({ u with drawn := u.drawn + 1 } : World).heap[w.heap.size + 1]? = some (.cells (uc 0 0 0).toArray 41 (0, 0)) := h2
  have hgd : w.grownBy { u with drawn := u.drawn + 1 } none := grown_trans hg (grown_drew u)
  clear h1 h2 hg
  generalize ({ u with drawn := u.drawn + 1 } : World) = u at *
  refine any_take 0 (some 3) (.agg #[]) rfl rfl (by kernel_rfl) (by kernel_rfl) (by kernel_rfl) (fun _ _ _ h => h) (.inl ⟨by kernel_rfl, fun _ _ => by kernel_rfl⟩) (by assumption) ?_
  simp only [Act.put, List.setIfInBounds_toArray, List.set_cons_zero, List.set_cons_succ]
  refine any_take 1 (some 4) (.slice (some ⟨w.heap.size, 0, none⟩) 4 20) rfl rfl (by kernel_rfl) (by kernel_rfl) (by kernel_rfl) (fun _ _ _ h => h) (.inl ⟨by kernel_rfl, fun _ _ => by kernel_rfl⟩) (by assumption) ?_
  simp only [Act.put, List.setIfInBounds_toArray, List.set_cons_zero, List.set_cons_succ]
  refine any_take 3 (some 6) (.agg #[]) rfl rfl (by kernel_rfl) (by kernel_rfl) (by kernel_rfl) (fun _ _ _ h => h) (.inl ⟨by kernel_rfl, fun _ _ => by kernel_rfl⟩) (by assumption) ?_
  simp only [Act.put, List.setIfInBounds_toArray, List.set_cons_zero, List.set_cons_succ]
  refine any_take 4 (some 7) (.slice (some ⟨w.heap.size, 4, none⟩) 8 16) rfl rfl (by kernel_rfl) (by kernel_rfl) (by kernel_rfl) (fun _ _ _ h => h) (.inl ⟨by kernel_rfl, fun _ _ => by kernel_rfl⟩) (by assumption) ?_
  simp only [Act.put, List.setIfInBounds_toArray, List.set_cons_zero, List.set_cons_succ]
  refine any_take 6 (some 9) (.agg #[]) rfl rfl (by kernel_rfl) (by kernel_rfl) (by kernel_rfl) (fun _ _ _ h => h) (.inl ⟨by kernel_rfl, fun _ _ => by kernel_rfl⟩) (by assumption) ?_
  simp only [Act.put, List.setIfInBounds_toArray, List.set_cons_zero, List.set_cons_succ]
  refine any_take 7 (some 10) (.slice (some ⟨w.heap.size, 12, none⟩) 8 8) rfl rfl (by kernel_rfl) (by kernel_rfl) (by kernel_rfl) (fun _ _ _ h => h) (.inl ⟨by kernel_rfl, fun _ _ => by kernel_rfl⟩) (by assumption) ?_
  simp only [Act.put, List.setIfInBounds_toArray, List.set_cons_zero, List.set_cons_succ]
  refine any_call 2 (some 5) 21 #[.agg #[], .slice (some ⟨w.heap.size, 0, none⟩) 4 20] rfl rfl (by kernel_rfl) (by kernel_rfl) (by kernel_rfl) ?_
  refine (Ybaf.beU32 ⟨w.heap.size, 0, none⟩ 4 20 ((List.range 4).map (fun j => f (0 + j))) _ (by omega) (by simp) (cells_of hS 0 4 (by omega)) (wf_of hf 0 4 (by omega))).mono ?_
  rintro e u1 ⟨rfl, hb1⟩
  have q1 := below_grown hb1
  have e1 : Lib.beZ (((List.range 4).map (fun j => f (0 + j))).take 4) = hiW f := rfl
  rw [e1]
  have hS1 : (fun w' : World => w'.heap[w.heap.size]? = some (.cells (ab f).toArray 25 (0, 0))) u1 := keep_blk q1 hS (by simp)
  refine ⟨_, rfl, hS1, ?_⟩
  simp only [Act.put, List.setIfInBounds_toArray, List.set_cons_zero, List.set_cons_succ]
  clear hS
  have hS := hS1
  clear hS1 hb1 e1
  refine any_call 5 (some 8) 8 #[.agg #[], .slice (some ⟨w.heap.size, 4, none⟩) 8 16] rfl rfl (by kernel_rfl) (by kernel_rfl) (by kernel_rfl) ?_
  refine (Ybaf.beU64 ⟨w.heap.size, 4, none⟩ 8 16 ((List.range 8).map (fun j => f (4 + j))) _ (by omega) (by simp) (cells_of hS 4 8 (by omega)) (wf_of hf 4 8 (by omega))).mono ?_
  rintro e u2 ⟨rfl, hb2⟩
  have q2 := below_grown hb2
  have e2 : Lib.beZ (((List.range 8).map (fun j => f (4 + j))).take 8) = miW f := rfl
  rw [e2]
  have hS2 : (fun w' : World => w'.heap[w.heap.size]? = some (.cells (ab f).toArray 25 (0, 0))) u2 := keep_blk q2 hS (by simp)
  refine ⟨_, rfl, hS2, ?_⟩
  simp only [Act.put, List.setIfInBounds_toArray, List.set_cons_zero, List.set_cons_succ]
  clear hS
  have hS := hS2
  clear hS2 hb2 e2
  refine any_call 8 (some 11) 8 #[.agg #[], .slice (some ⟨w.heap.size, 12, none⟩) 8 8] rfl rfl (by kernel_rfl) (by kernel_rfl) (by kernel_rfl) ?_
  refine (Ybaf.beU64 ⟨w.heap.size, 12, none⟩ 8 8 ((List.range 8).map (fun j => f (12 + j))) _ (by omega) (by simp) (cells_of hS 12 8 (by omega)) (wf_of hf 12 8 (by omega))).mono ?_
  rintro e u3 ⟨rfl, hb3⟩
  have q3 := below_grown hb3
  have e3 : Lib.beZ (((List.range 8).map (fun j => f (12 + j))).take 8) = loW f := rfl
  rw [e3]
  have hS3 : (fun w' : World => w'.heap[w.heap.size]? = some (.cells (ab f).toArray 25 (0, 0))) u3 := keep_blk q3 hS (by simp)
  refine ⟨_, rfl, hS3, ?_⟩
  simp only [Act.put, List.setIfInBounds_toArray, List.set_cons_zero, List.set_cons_succ]
  clear hS
  have hS := hS3
  clear hS3 hb3 e3
  refine any_take 9 (some 12) (.agg (uc (hiW f) (miW f) (loW f)).toArray) rfl rfl (by kernel_rfl) (by kernel_rfl) (by kernel_rfl) (fun _ _ _ h => h) (.inl ⟨by kernel_rfl, fun w' _ => exec_build41 (.tmp 5) (.tmp 8) (.tmp 11) rfl (hiW f) (miW f) (loW f) (by kernel_rfl) (by kernel_rfl) (by kernel_rfl)⟩) (by assumption) ?_
  simp only [Act.put, List.setIfInBounds_toArray, List.set_cons_zero, List.set_cons_succ]
  have h23 := keep_blk q3 (keep_blk q2 (keep_blk q1 h2d (by simp)) (by simp)) (by simp)
  have hlt : w.heap.size < u.heap.size := (Array.getElem?_eq_some_iff.1 h2d).1 |> fun h => by omega
  refine any_store_blk 10 rfl rfl (by kernel_rfl) (by kernel_rfl) 41 (.tmp 2) (.tmp 12) rfl (w.heap.size + 1) (uc (hiW f) (miW f) (loW f)) (by kernel_rfl) (by kernel_rfl) _ _ h23 rfl (size41 _ _ _) (uc_one _ _ _) ?_
  intro u4 hb4 k4
  refine ⟨keep_blk k4 hS (by simp), ?_⟩
  simp only [Act.put, List.setIfInBounds_toArray, List.set_cons_zero, List.set_cons_succ]
  refine wpAnyH_done (by kernel_rfl) ?_ _
  clear hS
  go_wp2_with fail
  refine bodyPost_ret (v := .agg (uc (hiW f) (miW f) (loW f)).toArray) ?_ rfl ⟨rfl, ?_⟩
  · have hld := run_load_blk (P := Ybaf.prog) hb4 Ybaf.underlying41 rfl (size41 (hiW f) (miW f) (loW f))
    simp only [results, Ybaf.results16]
    simp [asAddr, Result.andThen, Act.put, hld]
  · have qq := grown_trans hgd (grown_trans q1 (grown_trans q2 q3))
    have s := qq.size
    exact ⟨k4.os.trans qq.os, k4.tape.trans qq.tape, k4.output.trans qq.output, Nat.le_trans s k4.size, fun q hq _ => (k4.block q (by omega) (by simp; omega)).trans (qq.block q hq (by simp))⟩

end Go.Proofs.YbulkdspqFmt
