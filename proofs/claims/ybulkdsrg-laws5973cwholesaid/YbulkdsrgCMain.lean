/-
  LawS5973CWhole: the walk of the law itself.
-/
import Derived.Test.YbulkdsrgCT41
import Derived.OpenShut
namespace Go.Proofs.Ybulkdsrg
open Go.RowKit
set_option linter.unusedSimpArgs false
set_option linter.unusedVariables false

set_option maxRecDepth 100000 in
set_option maxHeartbeats 40000000 in
theorem main_any {k : Ky} (hk : k.Wf) (w : World) (pa : Option Addr) (N cap : Nat) (p q r : Nat → Int) (hN : N ≤ maxLen) (hq : ∀ j, j < N → (Lit.int .u8 (q j)).wf = true)
    (hrd : ∀ j, j < N → ∃ b o, pa = some ⟨b, o, none⟩ ∧ b < w.heap.size ∧ w.rangeAt b (o + j * 3) [.int .u8 (p j), .int .u8 (q j), .int .i64 (r j)]) (x ts : Int) (hx : (Lit.int .u32 x).wf = true) :
    Calls Yba.prog 3 #[.slice pa N cap, .agg (sc k.s).toArray, .agg (sc k.d).toArray, .int .u32 x, .int .u8 k.pr, .bool k.v, .int .i64 ts] w fun e w' => e = .returned (.bool true) ∧ Below w.heap.size w w' := by
  go_enter Yba.func3, Yba.ntmps3
  by_cases hN6 : 65536 < N
  · go_wp2_with fail
    refine bodyPost_ret (v := .bool true) (by kernel_rfl) rfl ⟨rfl, ((Below.refl _ _).alloc (Nat.le_refl _) _).alloc (by simp) _⟩
  · go_wp2_with fail
    have hi0 := I1_start w k
    generalize hw0 : (w.alloc (Obj.cells (sc k.s).toArray 23)).alloc (Obj.cells (sc k.d).toArray 23) = w0 at hi0 ⊢
    have hsz0 : w0.heap.size = w.heap.size + 2 := by rw [← hw0]; simp
    have hbs : w0.heap[w.heap.size]? = some (.cells (sc k.s).toArray 23 (0, 0)) := by rw [← hw0]; exact blk_alloc (heap_alloc_new w _) _
    have hbd : w0.heap[w.heap.size + 1]? = some (.cells (sc k.d).toArray 23 (0, 0)) := by rw [← hw0]; exact blk_new _ _ _ _ (by simp)
    have hb0 : Below w.heap.size w w0 := by rw [← hw0]; exact ((Below.refl _ _).alloc (Nat.le_refl _) _).alloc (by simp) _
    clear hw0
    go_loopg [49] N (fun g i wr => ∃ j : Nat, j + g = N ∧ i = .int .i64 j ∧ I1 w0 wr k (w.heap.size + 2) (w.heap.size + 2) j)
    case atStart => exact ⟨0, by omega, rfl, hi0⟩
    case round =>
      obtain ⟨j, hj, rfl, hI⟩ := hrel
      by_cases hjN : j < N
      · obtain ⟨b, o, rfl, hb, hcells⟩ := hrd j hjN
        have hbel : Below (w.heap.size + 2) w0 wr := by obtain ⟨L, m, D, _, _, h⟩ := hI; exact h
        have hcells' : wr.rangeAt b (o + j * 3) [.int .u8 (p j), .int .u8 (q j), .int .i64 (r j)] := fun i u hu => (hbel.cell (p := ⟨b, _, none⟩) (by simp; omega)).trans ((hb0.cell (p := ⟨b, _, none⟩) hb).trans (hcells i u hu))
        have hjN' : (j : Int) < (N : Int) := by omega
        have HI : Hid (I1 w0 wr k (w.heap.size + 2) (w.heap.size + 2) j) := hI
        clear hI
        go_upto_block 1 with fail
        go_cut [] (fun wx => I1 w0 wx k (w.heap.size + 2) (w.heap.size + 2) (j + 1))
        case first =>
          go_upto_block 2 with (first
            | (refine wpList_load_mid rfl 31 (.tmp 51) rfl b (o + j * 3) rfl _ _ hcells' Yba.underlying31 rfl size31 ?_)
            | (refine wpList_store_blk rfl 31 (.tmp 17) (.tmp 52) rfl wr.heap.size _ rfl rfl _ _ (blk_new _ _ _ _ rfl) rfl size31 (by simp [Value.oneCell']) ?_; intro w1 hb1 hg1)
            | (refine wpList_load_cell rfl 5 (.tmp 53) rfl wr.heap.size 0 rfl _ _ hb1 _ Yba.underlying5 rfl (.int .u8 (p j)) rfl ?_))
          obtain ⟨L, m, D, hst0, hL, _⟩ : I1 w0 wr k (w.heap.size + 2) (w.heap.size + 2) j := HI
          have hg2 := grown_new hg1
          have hszr : w.heap.size + 2 ≤ wr.heap.size := by have := hbel.size; omega
          have hsz1 : wr.heap.size < w1.heap.size := by have := hg1.size; simp at this; omega
          have hst : St w1 k (w.heap.size + 2) wr.heap.size (w.heap.size + 2) L m D j := hst0.out (fun q _ hq => hg2.block q hq (by simp)) (Nat.le_refl _) (Nat.le_refl _)
          replace hbel : Below (w.heap.size + 2) w0 w1 := hbel.grown hg2 hszr (by simp)
          have hjm : j < maxLen := by simp [maxLen]; omega
          clear hcells' hcells hrd hg1 hst0 hg2
          have hbs1 : w1.heap[w.heap.size]? = some (.cells (sc k.s).toArray 23 (0, 0)) := (hbel.block _ (by omega)).trans hbs
          have hbd1 : w1.heap[w.heap.size + 1]? = some (.cells (sc k.d).toArray 23 (0, 0)) := (hbel.block _ (by omega)).trans hbd
          have hfs := hst.fs
          have hne1 := neq27 (hd L)
          have hne2 := neq27 (lt L)
          have hgd1 := guard27 .neq (.tmp 88) (.const (.pointer none)) (hd L)
          have hgd2 := guard27 .neq (.tmp 59) (.const (.pointer none)) (lt L)
          go_wp2_with (first
            | (refine wpList_load_cell rfl 27 (.tmp 87) rfl (w.heap.size + 2) 1 rfl _ _ hfs _ Yba.underlying27 rfl _ (fc1 _ _ _) ?_)
            | (refine wpList_load_cell rfl 27 (.tmp 93) rfl (w.heap.size + 2) 1 rfl _ _ hfs _ Yba.underlying27 rfl _ (fc1 _ _ _) ?_)
            | (refine wpList_load_cell rfl 27 (.tmp 58) rfl (w.heap.size + 2) 2 rfl _ _ hfs _ Yba.underlying27 rfl _ (fc2 _ _ _) ?_)
            | (refine wpList_load_cell rfl 27 (.tmp 64) rfl (w.heap.size + 2) 2 rfl _ _ hfs _ Yba.underlying27 rfl _ (fc2 _ _ _) ?_))
          · refine wp_region_held (S := fun w' : World => w'.heap[w.heap.size]? = some (.cells (sc k.s).toArray 23 (0, 0)) ∧ w'.heap[w.heap.size + 1]? = some (.cells (sc k.d).toArray 23 (0, 0)) ∧ w'.heap[wr.heap.size]? = some (.cells [.int .u8 (p j), .int .u8 (q j), .int .i64 (r j)].toArray 31 (0, 0))) (by kernel_rfl) ?_
            have hS : (fun w' : World => w'.heap[w.heap.size]? = some (.cells (sc k.s).toArray 23 (0, 0)) ∧ w'.heap[w.heap.size + 1]? = some (.cells (sc k.d).toArray 23 (0, 0)) ∧ w'.heap[wr.heap.size]? = some (.cells [.int .u8 (p j), .int .u8 (q j), .int .i64 (r j)].toArray 31 (0, 0))) { w1 with drawn := w1.drawn + 1 } := ⟨hbs1, hbd1, hb1⟩
            refine any_take 0 (some 70) (.pointer (some ⟨w.heap.size + 2, 0, none⟩)) rfl rfl (by kernel_rfl) (by kernel_rfl) (by kernel_rfl) (fun _ _ _ h => h) (.inl ⟨by kernel_rfl, fun _ _ => by kernel_rfl⟩) (by assumption) ?_
            simp only [Act.put, List.setIfInBounds_toArray, List.set_cons_zero, List.set_cons_succ]
            refine any_take 1 (some 71) (.agg (sc k.s).toArray) rfl rfl (by kernel_rfl) (by kernel_rfl) (by kernel_rfl) (fun _ _ _ h => h) (yld_blk (by kernel_rfl) 23 (.tmp 8) rfl w.heap.size rfl (sc k.s) 23 (fun _ h => h.1) _ Yba.underlying23 rfl (size23 _)) (by assumption) ?_
            simp only [Act.put, List.setIfInBounds_toArray, List.set_cons_zero, List.set_cons_succ]
            refine any_take 2 (some 72) (.agg (sc k.d).toArray) rfl rfl (by kernel_rfl) (by kernel_rfl) (by kernel_rfl) (fun _ _ _ h => h) (yld_blk (by kernel_rfl) 23 (.tmp 9) rfl (w.heap.size + 1) rfl (sc k.d) 23 (fun _ h => h.2.1) _ Yba.underlying23 rfl (size23 _)) (by assumption) ?_
            simp only [Act.put, List.setIfInBounds_toArray, List.set_cons_zero, List.set_cons_succ]
            refine any_take 3 (some 73) (.pointer (some ⟨wr.heap.size, 1, none⟩)) rfl rfl (by kernel_rfl) (by kernel_rfl) (by kernel_rfl) (fun _ _ _ h => h) (.inl ⟨by kernel_rfl, fun _ _ => by kernel_rfl⟩) (by assumption) ?_
            simp only [Act.put, List.setIfInBounds_toArray, List.set_cons_zero, List.set_cons_succ]
            refine any_take 4 (some 74) (.int .u8 (q j)) rfl rfl (by kernel_rfl) (by kernel_rfl) (by kernel_rfl) (fun _ _ _ h => h) (yld_cell (by kernel_rfl) 5 (.tmp 73) rfl wr.heap.size 1 rfl _ 31 (fun _ h => h.2.2) _ Yba.underlying5 rfl _ rfl) (by assumption) ?_
            simp only [Act.put, List.setIfInBounds_toArray, List.set_cons_zero, List.set_cons_succ]
            refine any_take 5 (some 75) (.int .u8 ((q j).tmod 8)) rfl rfl (by kernel_rfl) (by kernel_rfl) (by kernel_rfl) (fun _ _ _ h => h) (.inl ⟨by kernel_rfl, fun _ _ => by kernel_rfl⟩) (by assumption) ?_
            simp only [Act.put, List.setIfInBounds_toArray, List.set_cons_zero, List.set_cons_succ]
            refine any_take 6 (some 76) (.int .u32 (IntKind.u32.wrap ((q j).tmod 8))) rfl rfl (by kernel_rfl) (by kernel_rfl) (by kernel_rfl) (fun _ _ _ h => h) (.inl ⟨by kernel_rfl, fun _ _ => by kernel_rfl⟩) (by assumption) ?_
            simp only [Act.put, List.setIfInBounds_toArray, List.set_cons_zero, List.set_cons_succ]
            refine any_take 7 (some 77) (.int .u8 k.pr) rfl rfl (by kernel_rfl) (by kernel_rfl) (by kernel_rfl) (fun _ _ _ h => h) (.inl ⟨by kernel_rfl, fun _ _ => by kernel_rfl⟩) (by assumption) ?_
            simp only [Act.put, List.setIfInBounds_toArray, List.set_cons_zero, List.set_cons_succ]
            refine any_take 8 (some 78) (.bool k.v) rfl rfl (by kernel_rfl) (by kernel_rfl) (by kernel_rfl) (fun _ _ _ h => h) (.inl ⟨by kernel_rfl, fun _ _ => by kernel_rfl⟩) (by assumption) ?_
            simp only [Act.put, List.setIfInBounds_toArray, List.set_cons_zero, List.set_cons_succ]
            refine any_take 10 (some 80) (.pointer (some ⟨wr.heap.size, 2, none⟩)) rfl rfl (by kernel_rfl) (by kernel_rfl) (by kernel_rfl) (fun _ _ _ h => h) (.inl ⟨by kernel_rfl, fun _ _ => by kernel_rfl⟩) (by assumption) ?_
            simp only [Act.put, List.setIfInBounds_toArray, List.set_cons_zero, List.set_cons_succ]
            refine any_take 11 (some 81) (.int .i64 (r j)) rfl rfl (by kernel_rfl) (by kernel_rfl) (by kernel_rfl) (fun _ _ _ h => h) (yld_cell (by kernel_rfl) 2 (.tmp 80) rfl wr.heap.size 2 rfl _ 31 (fun _ h => h.2.2) _ Yba.underlying2 rfl _ rfl) (by assumption) ?_
            simp only [Act.put, List.setIfInBounds_toArray, List.set_cons_zero, List.set_cons_succ]
            refine any_call 9 (some 79) 5 #[.agg (sc k.s).toArray, .agg (sc k.d).toArray, .int .u32 (IntKind.u32.wrap ((q j).tmod 8)), .int .u8 k.pr, .bool k.v] rfl rfl (by kernel_rfl) (by kernel_rfl) (by kernel_rfl) ?_
            refine (key_any k (IntKind.u32.wrap ((q j).tmod 8)) _).mono ?_
            rintro e w2 ⟨rfl, hgk'⟩
            have hgk : w1.grownBy w2 none := ⟨hgk'.os, hgk'.tape, hgk'.output, hgk'.size, hgk'.block⟩
            clear hgk'
            have hs2 := hgk.size
            have hst2 : St w2 k (w.heap.size + 2) wr.heap.size (w.heap.size + 2) L m D j := hst.out (fun q _ hq => hgk.block q (by omega) (by simp)) (Nat.le_refl _) (by omega)
            have hS2 := (⟨keep_blk hgk hbs1 (by simp), keep_blk hgk hbd1 (by simp), keep_blk hgk hb1 (by simp)⟩ : w2.heap[w.heap.size]? = some (.cells (sc k.s).toArray 23 (0, 0)) ∧ w2.heap[w.heap.size + 1]? = some (.cells (sc k.d).toArray 23 (0, 0)) ∧ w2.heap[wr.heap.size]? = some (.cells [.int .u8 (p j), .int .u8 (q j), .int .i64 (r j)].toArray 31 (0, 0)))
            refine ⟨_, rfl, hS2, ?_⟩
            simp only [Act.put, List.setIfInBounds_toArray, List.set_cons_zero, List.set_cons_succ]
            refine any_call 12 (some 82) 4 #[.pointer (some ⟨w.heap.size + 2, 0, none⟩), .agg (kc k (IntKind.u32.wrap ((q j).tmod 8))).toArray, .int .i64 (r j)] rfl rfl (by kernel_rfl) (by kernel_rfl) (by kernel_rfl) ?_
            refine (open_any hk (r j) (wf_wrap32 _) hst2 (by omega) hjm).mono ?_
            rintro e w3 ⟨b3, mb3, rfl, hb3, _, hst3, hout3⟩
            have hs3 := hout3.size
            refine ⟨_, rfl, ⟨(hout3.block _ (by omega) (.inl (by omega))).trans hS2.1, (hout3.block _ (by omega) (.inl (by omega))).trans hS2.2.1, (hout3.block _ (by omega) (.inr (by omega))).trans hS2.2.2⟩, ?_⟩
            refine wpAnyH_done (by kernel_rfl) ?_ _
            simp only [Act.put, List.setIfInBounds_toArray, List.set_cons_zero, List.set_cons_succ]
            go_wp2_with fail
            go_meet
            case rel =>
              exact ⟨_, _, _, hst3, by simp; omega, Below.of_out (hbel.grown hgk (by omega) (by simp)) hout3 (Nat.le_refl _) (by omega)⟩
          · refine wp_region_held (S := fun w' : World => w'.heap[w.heap.size]? = some (.cells (sc k.s).toArray 23 (0, 0)) ∧ w'.heap[w.heap.size + 1]? = some (.cells (sc k.d).toArray 23 (0, 0)) ∧ w'.heap[wr.heap.size]? = some (.cells [.int .u8 (p j), .int .u8 (q j), .int .i64 (r j)].toArray 31 (0, 0))) (by kernel_rfl) ?_
            have hS : (fun w' : World => w'.heap[w.heap.size]? = some (.cells (sc k.s).toArray 23 (0, 0)) ∧ w'.heap[w.heap.size + 1]? = some (.cells (sc k.d).toArray 23 (0, 0)) ∧ w'.heap[wr.heap.size]? = some (.cells [.int .u8 (p j), .int .u8 (q j), .int .i64 (r j)].toArray 31 (0, 0))) { w1 with drawn := w1.drawn + 1 } := ⟨hbs1, hbd1, hb1⟩
            refine any_take 0 (some 70) (.pointer (some ⟨w.heap.size + 2, 0, none⟩)) rfl rfl (by kernel_rfl) (by kernel_rfl) (by kernel_rfl) (fun _ _ _ h => h) (.inl ⟨by kernel_rfl, fun _ _ => by kernel_rfl⟩) (by assumption) ?_
            simp only [Act.put, List.setIfInBounds_toArray, List.set_cons_zero, List.set_cons_succ]
            refine any_take 1 (some 71) (.agg (sc k.s).toArray) rfl rfl (by kernel_rfl) (by kernel_rfl) (by kernel_rfl) (fun _ _ _ h => h) (yld_blk (by kernel_rfl) 23 (.tmp 8) rfl w.heap.size rfl (sc k.s) 23 (fun _ h => h.1) _ Yba.underlying23 rfl (size23 _)) (by assumption) ?_
            simp only [Act.put, List.setIfInBounds_toArray, List.set_cons_zero, List.set_cons_succ]
            refine any_take 2 (some 72) (.agg (sc k.d).toArray) rfl rfl (by kernel_rfl) (by kernel_rfl) (by kernel_rfl) (fun _ _ _ h => h) (yld_blk (by kernel_rfl) 23 (.tmp 9) rfl (w.heap.size + 1) rfl (sc k.d) 23 (fun _ h => h.2.1) _ Yba.underlying23 rfl (size23 _)) (by assumption) ?_
            simp only [Act.put, List.setIfInBounds_toArray, List.set_cons_zero, List.set_cons_succ]
            refine any_take 3 (some 73) (.pointer (some ⟨wr.heap.size, 1, none⟩)) rfl rfl (by kernel_rfl) (by kernel_rfl) (by kernel_rfl) (fun _ _ _ h => h) (.inl ⟨by kernel_rfl, fun _ _ => by kernel_rfl⟩) (by assumption) ?_
            simp only [Act.put, List.setIfInBounds_toArray, List.set_cons_zero, List.set_cons_succ]
            refine any_take 4 (some 74) (.int .u8 (q j)) rfl rfl (by kernel_rfl) (by kernel_rfl) (by kernel_rfl) (fun _ _ _ h => h) (yld_cell (by kernel_rfl) 5 (.tmp 73) rfl wr.heap.size 1 rfl _ 31 (fun _ h => h.2.2) _ Yba.underlying5 rfl _ rfl) (by assumption) ?_
            simp only [Act.put, List.setIfInBounds_toArray, List.set_cons_zero, List.set_cons_succ]
            refine any_take 5 (some 75) (.int .u8 ((q j).tmod 8)) rfl rfl (by kernel_rfl) (by kernel_rfl) (by kernel_rfl) (fun _ _ _ h => h) (.inl ⟨by kernel_rfl, fun _ _ => by kernel_rfl⟩) (by assumption) ?_
            simp only [Act.put, List.setIfInBounds_toArray, List.set_cons_zero, List.set_cons_succ]
            refine any_take 6 (some 76) (.int .u32 (IntKind.u32.wrap ((q j).tmod 8))) rfl rfl (by kernel_rfl) (by kernel_rfl) (by kernel_rfl) (fun _ _ _ h => h) (.inl ⟨by kernel_rfl, fun _ _ => by kernel_rfl⟩) (by assumption) ?_
            simp only [Act.put, List.setIfInBounds_toArray, List.set_cons_zero, List.set_cons_succ]
            refine any_take 7 (some 77) (.int .u8 k.pr) rfl rfl (by kernel_rfl) (by kernel_rfl) (by kernel_rfl) (fun _ _ _ h => h) (.inl ⟨by kernel_rfl, fun _ _ => by kernel_rfl⟩) (by assumption) ?_
            simp only [Act.put, List.setIfInBounds_toArray, List.set_cons_zero, List.set_cons_succ]
            refine any_take 8 (some 78) (.bool k.v) rfl rfl (by kernel_rfl) (by kernel_rfl) (by kernel_rfl) (fun _ _ _ h => h) (.inl ⟨by kernel_rfl, fun _ _ => by kernel_rfl⟩) (by assumption) ?_
            simp only [Act.put, List.setIfInBounds_toArray, List.set_cons_zero, List.set_cons_succ]
            refine any_take 10 (some 80) (.pointer (some ⟨wr.heap.size, 2, none⟩)) rfl rfl (by kernel_rfl) (by kernel_rfl) (by kernel_rfl) (fun _ _ _ h => h) (.inl ⟨by kernel_rfl, fun _ _ => by kernel_rfl⟩) (by assumption) ?_
            simp only [Act.put, List.setIfInBounds_toArray, List.set_cons_zero, List.set_cons_succ]
            refine any_take 11 (some 81) (.int .i64 (r j)) rfl rfl (by kernel_rfl) (by kernel_rfl) (by kernel_rfl) (fun _ _ _ h => h) (yld_cell (by kernel_rfl) 2 (.tmp 80) rfl wr.heap.size 2 rfl _ 31 (fun _ h => h.2.2) _ Yba.underlying2 rfl _ rfl) (by assumption) ?_
            simp only [Act.put, List.setIfInBounds_toArray, List.set_cons_zero, List.set_cons_succ]
            refine any_call 9 (some 79) 5 #[.agg (sc k.s).toArray, .agg (sc k.d).toArray, .int .u32 (IntKind.u32.wrap ((q j).tmod 8)), .int .u8 k.pr, .bool k.v] rfl rfl (by kernel_rfl) (by kernel_rfl) (by kernel_rfl) ?_
            refine (key_any k (IntKind.u32.wrap ((q j).tmod 8)) _).mono ?_
            rintro e w2 ⟨rfl, hgk'⟩
            have hgk : w1.grownBy w2 none := ⟨hgk'.os, hgk'.tape, hgk'.output, hgk'.size, hgk'.block⟩
            clear hgk'
            have hs2 := hgk.size
            have hst2 : St w2 k (w.heap.size + 2) wr.heap.size (w.heap.size + 2) L m D j := hst.out (fun q _ hq => hgk.block q (by omega) (by simp)) (Nat.le_refl _) (by omega)
            have hS2 := (⟨keep_blk hgk hbs1 (by simp), keep_blk hgk hbd1 (by simp), keep_blk hgk hb1 (by simp)⟩ : w2.heap[w.heap.size]? = some (.cells (sc k.s).toArray 23 (0, 0)) ∧ w2.heap[w.heap.size + 1]? = some (.cells (sc k.d).toArray 23 (0, 0)) ∧ w2.heap[wr.heap.size]? = some (.cells [.int .u8 (p j), .int .u8 (q j), .int .i64 (r j)].toArray 31 (0, 0)))
            refine ⟨_, rfl, hS2, ?_⟩
            simp only [Act.put, List.setIfInBounds_toArray, List.set_cons_zero, List.set_cons_succ]
            refine any_call 12 (some 82) 4 #[.pointer (some ⟨w.heap.size + 2, 0, none⟩), .agg (kc k (IntKind.u32.wrap ((q j).tmod 8))).toArray, .int .i64 (r j)] rfl rfl (by kernel_rfl) (by kernel_rfl) (by kernel_rfl) ?_
            refine (open_any hk (r j) (wf_wrap32 _) hst2 (by omega) hjm).mono ?_
            rintro e w3 ⟨b3, mb3, rfl, hb3, _, hst3, hout3⟩
            have hs3 := hout3.size
            refine ⟨_, rfl, ⟨(hout3.block _ (by omega) (.inl (by omega))).trans hS2.1, (hout3.block _ (by omega) (.inl (by omega))).trans hS2.2.1, (hout3.block _ (by omega) (.inr (by omega))).trans hS2.2.2⟩, ?_⟩
            refine wpAnyH_done (by kernel_rfl) ?_ _
            simp only [Act.put, List.setIfInBounds_toArray, List.set_cons_zero, List.set_cons_succ]
            go_wp2_with fail
            go_meet
            case rel =>
              exact ⟨_, _, _, hst3, by simp; omega, Below.of_out (hbel.grown hgk (by omega) (by simp)) hout3 (Nat.le_refl _) (by omega)⟩
          · obtain ⟨nd, hnd, he⟩ : ∃ nd, L[0]? = some nd ∧ hd L = some nd.b := by
              have hh : L ≠ [] := by rintro rfl; rename_i hsome; simp [hd, pv] at hsome
              obtain ⟨a, t, rfl⟩ := List.exists_cons_of_ne_nil hh; exact ⟨a, rfl, rfl⟩
            refine (remove_vp hk hst (by omega) hnd he).mono ?_
            rintro e w2 ⟨⟨v, rfl⟩, D', hst2, hout2⟩
            go_wp2_with fail
            go_meet
            case rel =>
              have hs2 := hout2.size
              exact I1_of hst2 (by omega) (by have := List.length_eraseIdx_le L (0); omega) hbel hout2 (by omega) (by omega)
          · go_meet
            case rel =>
              exact I1_of hst (by omega) (by omega) hbel (Out.refl _ _ _) (by omega) (by omega)
          · obtain ⟨nd, hnd, he⟩ : ∃ nd, L[L.length - 1]? = some nd ∧ lt L = some nd.b := by
              have hh : L ≠ [] := by rintro rfl; rename_i hsome; simp [lt, pv] at hsome
              exact lt_some hh
            refine (remove_vp hk hst (by omega) hnd he).mono ?_
            rintro e w2 ⟨⟨v, rfl⟩, D', hst2, hout2⟩
            go_wp2_with fail
            go_meet
            case rel =>
              have hs2 := hout2.size
              exact I1_of hst2 (by omega) (by have := List.length_eraseIdx_le L (L.length - 1); omega) hbel hout2 (by omega) (by omega)
          · go_meet
            case rel =>
              exact I1_of hst (by omega) (by omega) hbel (Out.refl _ _ _) (by omega) (by omega)
        case rest =>
          clear HI hcells' hcells hbel hi0
          go_wp2_with fail
          go_roundg (N - (j + 1))
          case measure => omega
          case rel => exact ⟨j + 1, by omega, by go_num, hcut⟩
      · have hjn : N = j := by omega
        subst hjn
        clear hi0 hrd hq hj
        obtain ⟨L, m, D, hst0, hL, hbel0⟩ := hI
        have hszr : w.heap.size + 2 ≤ wr.heap.size := by have := hbel0.size; omega
        have hbsr : wr.heap[w.heap.size]? = some (.cells (sc k.s).toArray 23 (0, 0)) := (hbel0.block _ (by omega)).trans hbs
        have hbdr : wr.heap[w.heap.size + 1]? = some (.cells (sc k.d).toArray 23 (0, 0)) := (hbel0.block _ (by omega)).trans hbd
        go_wp2_with (first
          | (refine wpList_load_blk rfl 23 (.tmp 8) rfl _ rfl (sc k.s) 23 hbsr _ Yba.underlying23 rfl (size23 _) ?_)
          | (refine wpList_load_blk rfl 23 (.tmp 9) rfl _ rfl (sc k.d) 23 hbdr _ Yba.underlying23 rfl (size23 _) ?_))
        refine (key_any k x _).mono ?_
        rintro e w2 ⟨rfl, hgk⟩
        have hfs2 : w2.heap[w.heap.size + 2]? = some (.cells (fc m (hd L) (lt L)).toArray 29 (0, 0)) := keep_blk hgk hst0.fs (by simp)
        have hf2lt : w.heap.size + 2 < w2.heap.size := by have := hgk.size; have := hst0.fr; omega
        go_wp2_with (first
          | (refine wpList_store_blk rfl 34 (.tmp 18) (.tmp 102) rfl w2.heap.size (kc k x) rfl rfl _ _ (blk_new _ _ _ _ rfl) rfl (size34 _ _) (kc_one _ _) ?_; intro w3 hkb hg3)
          | (refine wpList_load_cell rfl 27 (.tmp 105) rfl (w.heap.size + 2) 1 rfl _ _ (keep_blk (grown_new hg3) hfs2 (by simp)) _ Yba.underlying27 rfl _ (fc1 _ _ _) ?_))
        have hgk3 : w2.grownBy w3 none := grown_new hg3
        have hs3 : w2.heap.size < w3.heap.size := by have := hg3.size; simp at this; omega
        have hs2 := hgk.size
        have hst3 : St w3 k (w.heap.size + 2) wr.heap.size (w.heap.size + 2) L m D N := hst0.out (fun q _ hq => (hgk3.block q (by omega) (by simp)).trans (hgk.block q hq (by simp))) (Nat.le_refl _) (Nat.le_refl _)
        have hbel3 : Below (w.heap.size + 2) w0 w3 := (hbel0.grown hgk hszr (by simp)).grown hgk3 (by omega) (by simp)
        clear hg3 hgk hgk3 hfs2 hbsr hbdr hst0 hbel0 hjN
        generalize wr.heap.size = hi2 at hst3 hszr hs2
        generalize w2.heap.size = kb at *
        go_loopg [19, 20, 21, 22] L.length (fun g v19 v20 v21 v22 wz => ∃ j : Nat, j + g = L.length ∧ v22 = .int .i64 j ∧ v21 = vp ((L[j]?).map (·.b)) ∧ I2 w3 wz k L v19 v20 j)
        case atStart => exact ⟨0, by omega, rfl, rfl, I2.start w3 k L⟩
        case round =>
          obtain ⟨j, hj, rfl, rfl, hI⟩ := hrel
          by_cases hjL : j < L.length
          · obtain ⟨nd, hnd⟩ : ∃ nd, L[j]? = some nd := ⟨_, List.getElem?_eq_getElem hjL⟩
            have e21 : vp ((L[j]?).map (·.b)) = .pointer (some ⟨nd.b, 0, none⟩) := by rw [hnd]; rfl
            simp only [e21]
            clear e21
            have hndr := hst3.nr j nd hnd
            have hnb : ∀ w', Below w3.heap.size w3 w' → w'.heap[nd.b]? = some (.cells (dc k nd.x nd.t (pv L j) (nx L j)).toArray 60 (0, 0)) := fun w' h => (h.block _ (by omega)).trans (hst3.node j nd hnd)
            have hjN' : (j : Int) ≤ (N : Int) := by omega
            have hszz := hI.bel.size
            go_wp2_with (first
              | (refine wpList_bs37 rfl (.tmp 118) rfl (some nd.b) rfl ?_)
              | (refine wpList_app27 rfl (.tmp 117) (.tmp 119) rfl w3.heap.size u19 j (nRow L j) rfl (own_kept hI.ns (World.grownBy_alloc _ _ none) (by simp)) wr.heap.size (some nd.b) rfl (blk_new _ _ _ _ rfl) (by omega) (by simp; omega) ?_; intro v19' wA hA gA _)
              | (refine wpList_load_blk rfl 60 (.tmp 123) rfl nd.b rfl (dc k nd.x nd.t (pv L j) (nx L j)) 60 (hnb wA (hI.mid gA).1) _ Yba.underlying60 rfl (size60 _ _ _ _ _) ?_)
              | (refine wpList_bs38 rfl (.tmp 124) rfl k nd.x nd.t (pv L j) (nx L j) rfl ?_)
              | (refine wpList_app60 rfl (.tmp 121) (.tmp 125) rfl w3.heap.size u20 j (dRow k L j) rfl (own_kept (hI.mid gA).2.1 (World.grownBy_alloc _ _ none) (by simp)) wA.heap.size k nd.x nd.t (pv L j) (nx L j) rfl (blk_new _ _ _ _ rfl) (by omega) (by have := (hI.mid gA).2.2; simp; omega) ?_; intro v20' wB hB gB _)
              | (refine wpList_load_cell rfl 27 (.tmp 129) rfl nd.b 85 rfl _ _ (hnb wB (I2.step hI hnd hA gA hB gB).bel) _ Yba.underlying27 rfl _ (dc85 _ _ _ _ _) ?_))
            go_roundg (L.length - (j + 1))
            case measure => omega
            case rel => exact ⟨j + 1, by omega, by go_num, rfl, I2.step hI hnd hA gA hB gB⟩
          · have hjn : L.length = j := by omega
            subst hjn
            have e21 : vp ((L[L.length]?).map (·.b)) = .pointer none := by simp [vp]
            simp only [e21]
            clear e21 hjL hj
            have hst4 : St wr k (w.heap.size + 2) hi2 (w.heap.size + 2) L m D N := hst3.at (B := w3.heap.size) hI.bel.block (by omega) (by omega)
            have hfs4 := hst4.fs
            have HI : Hid (I2 w3 wr k L u19 u20 L.length) := hI
            have hkb4 : wr.heap[kb]? = some (.cells (kc k x).toArray 34 (0, 0)) := (hI.bel.block _ hs3).trans hkb
            have hszw : w3.heap.size ≤ wr.heap.size := hI.bel.size
            clear hI
            go_upto_region 29 with fail
            go_upto_region 32 with (first
              | (refine wpList_is (.load 27 (.tmp 135)) rfl ?_; refine wpList_load_cell rfl 27 (.tmp 135) rfl (w.heap.size + 2) 1 rfl _ _ hfs4 _ Yba.underlying27 rfl _ (fc1 _ _ _) ?_)
              | (refine wpList_is (.load 27 (.tmp 139)) rfl ?_; refine wpList_load_cell rfl 27 (.tmp 139) rfl (w.heap.size + 2) 2 rfl _ _ hfs4 _ Yba.underlying27 rfl _ (fc2 _ _ _) ?_)
              | (refine wpList_is (.load 26 (.tmp 143)) rfl ?_; refine wpList_load_cell rfl 26 (.tmp 143) rfl (w.heap.size + 2) 0 rfl _ _ hfs4 _ Yba.underlying26 rfl _ (fc0 _ _ _) ?_)
              | (refine wpList_is (.call { callee := Callee.builtin Builtin.len, args := #[.tmp 144], argTypes := #[26] }) rfl ?_; refine wpList_len26 rfl (.tmp 144) rfl m rfl hst4 ?_))
            have hf5 : w.heap.size + 2 < wr.heap.size := by omega
            refine wp_region_held (S := fun w' : World => w'.heap = wr.heap) (by kernel_rfl) ?_
            have hS : (fun w' : World => w'.heap = wr.heap) { wr with drawn := wr.drawn + 1 } := rfl
            refine any_take 0 (some 147) (.pointer (some ⟨w.heap.size + 2, 0, none⟩)) rfl rfl (by kernel_rfl) (by kernel_rfl) (by kernel_rfl) (fun _ _ _ h => h) (.inl ⟨by kernel_rfl, fun _ _ => by kernel_rfl⟩) (by assumption) ?_
            simp only [Act.put, List.setIfInBounds_toArray, List.set_cons_zero, List.set_cons_succ]
            refine any_take 1 (some 148) (.pointer (some ⟨w.heap.size + 2, 0, none⟩)) rfl rfl (by kernel_rfl) (by kernel_rfl) (by kernel_rfl) (fun _ _ _ h => h) (.inl ⟨by kernel_rfl, fun _ _ => by kernel_rfl⟩) (by assumption) ?_
            simp only [Act.put, List.setIfInBounds_toArray, List.set_cons_zero, List.set_cons_succ]
            refine any_take 2 (some 149) (.pointer (some ⟨w.heap.size + 2, 0, none⟩)) rfl rfl (by kernel_rfl) (by kernel_rfl) (by kernel_rfl) (fun _ _ _ h => h) (.inl ⟨by kernel_rfl, fun _ _ => by kernel_rfl⟩) (by assumption) ?_
            simp only [Act.put, List.setIfInBounds_toArray, List.set_cons_zero, List.set_cons_succ]
            refine any_take 3 (some 150) (.map m) rfl rfl (by kernel_rfl) (by kernel_rfl) (by kernel_rfl) (fun _ _ _ h => h) (yld_cell (by kernel_rfl) 26 (.tmp 149) rfl (w.heap.size + 2) 0 rfl _ 29 (fun w' e => by rw [show w'.heap = wr.heap from e]; exact hfs4) _ Yba.underlying26 rfl _ (fc0 _ _ _)) (by assumption) ?_
            simp only [Act.put, List.setIfInBounds_toArray, List.set_cons_zero, List.set_cons_succ]
            refine any_take 4 (some 151) (.agg (kc k x).toArray) rfl rfl (by kernel_rfl) (by kernel_rfl) (by kernel_rfl) (fun _ _ _ h => h) (yld_blk (by kernel_rfl) 34 (.tmp 18) rfl kb rfl (kc k x) 34 (fun w' e => by rw [show w'.heap = wr.heap from e]; exact hkb4) _ Yba.underlying34 rfl (size34 k x)) (by assumption) ?_
            simp only [Act.put, List.setIfInBounds_toArray, List.set_cons_zero, List.set_cons_succ]
            refine any_take 5 (some 152) (.tuple #[vp (gt D k x), .bool (Maps.has D (kl k x))]) rfl rfl (by kernel_rfl) (by kernel_rfl) (by kernel_rfl) (fun _ _ _ h => h) (.inl ⟨by kernel_rfl, fun w' e => exec_look (.tmp 150) (.tmp 151) rfl hk hx (hst4.at (w' := w') (B := hi2) (fun q _ => by rw [show w'.heap = wr.heap from e]) (Nat.le_refl _) (by omega)) rfl rfl⟩) (by assumption) ?_
            simp only [Act.put, List.setIfInBounds_toArray, List.set_cons_zero, List.set_cons_succ]
            refine any_take 6 (some 146) (.tuple #[vp (gt D k x), .bool (Maps.has D (kl k x))]) rfl rfl (by kernel_rfl) (by kernel_rfl) (by kernel_rfl) (fun _ _ _ h => h) (.inl ⟨by kernel_rfl, fun _ _ => by kernel_rfl⟩) (by assumption) ?_
            simp only [Act.put, List.setIfInBounds_toArray, List.set_cons_zero, List.set_cons_succ]
            refine any_take 7 (some 153) (vp (gt D k x)) rfl rfl (by kernel_rfl) (by kernel_rfl) (by kernel_rfl) (fun _ _ _ h => h) (.inl ⟨by kernel_rfl, fun _ _ => by kernel_rfl⟩) (by assumption) ?_
            simp only [Act.put, List.setIfInBounds_toArray, List.set_cons_zero, List.set_cons_succ]
            refine any_take 8 (some 154) (.bool (Maps.has D (kl k x))) rfl rfl (by kernel_rfl) (by kernel_rfl) (by kernel_rfl) (fun _ _ _ h => h) (.inl ⟨by kernel_rfl, fun _ _ => by kernel_rfl⟩) (by assumption) ?_
            simp only [Act.put, List.setIfInBounds_toArray, List.set_cons_zero, List.set_cons_succ]
            refine any_take 9 (some 26) (vp (gt D k x)) rfl rfl (by kernel_rfl) (by kernel_rfl) (by kernel_rfl) (fun _ _ _ h => h) (.inl ⟨by kernel_rfl, fun _ _ => by kernel_rfl⟩) (by assumption) ?_
            simp only [Act.put, List.setIfInBounds_toArray, List.set_cons_zero, List.set_cons_succ]
            refine any_take 10 (some 27) (.bool (Maps.has D (kl k x))) rfl rfl (by kernel_rfl) (by kernel_rfl) (by kernel_rfl) (fun _ _ _ h => h) (.inl ⟨by kernel_rfl, fun _ _ => by kernel_rfl⟩) (by assumption) ?_
            simp only [Act.put, List.setIfInBounds_toArray, List.set_cons_zero, List.set_cons_succ]
            refine wpAnyH_done (by kernel_rfl) ?_ _
            have hI5 : I2 w3 { wr with drawn := wr.drawn + 1 } k L u19 u20 L.length := by
              obtain ⟨a1, a2, a3⟩ : I2 w3 wr k L u19 u20 L.length := HI
              exact ⟨a1, a2, a3.os, a3.tape, a3.output, a3.size, a3.block⟩
            have hst5 : St { wr with drawn := wr.drawn + 1 } k (w.heap.size + 2) hi2 (w.heap.size + 2) L m D N := hst4.at (B := hi2) (fun _ _ => rfl) (Nat.le_refl _) (by omega)
            clear HI hst4 hfs4 hkb4 hS
            generalize { wr with drawn := wr.drawn + 1 } = w5 at hI5 hst5 ⊢
            go_wp2_with fail
            go_loopg [30] 8 (fun g v30 wy => ∃ i : Nat, i + g = 8 ∧ v30 = .int .i64 i ∧ I3 w5 wy k D i)
            case atStart => exact ⟨0, by omega, rfl, I3.start w5 k D⟩
            case round =>
              obtain ⟨i, hi, rfl, hJ⟩ := hrel
              have hsz5 : w3.heap.size ≤ w5.heap.size := hI5.bel.size
              have hsrc : ∀ w' : World, (∀ q, q < w5.heap.size → w'.heap[q]? = w5.heap[q]?) → w'.heap[w.heap.size]? = some (.cells (sc k.s).toArray 23 (0, 0)) := fun w' e => (e _ (by omega)).trans ((hI5.bel.block _ (by omega)).trans ((hbel3.block _ (by omega)).trans hbs))
              have hdst : ∀ w' : World, (∀ q, q < w5.heap.size → w'.heap[q]? = w5.heap[q]?) → w'.heap[w.heap.size + 1]? = some (.cells (sc k.d).toArray 23 (0, 0)) := fun w' e => (e _ (by omega)).trans ((hI5.bel.block _ (by omega)).trans ((hbel3.block _ (by omega)).trans hbd))
              by_cases hi8 : i < 8
              · have hi8' : (i : Int) < 8 := by omega
                have hwi := wf8 hi8
                have hwr := wrap8 hi8
                have HJ : Hid (I3 w5 wr k D i) := hJ
                have hblk := hJ.bel.block
                have hszy := hJ.sz
                clear hJ
                go_upto_region 38 with fail
                refine wp_region_held (S := fun w' : World => ∀ q, q < w5.heap.size → w'.heap[q]? = w5.heap[q]?) (by kernel_rfl) ?_
                have hS : (fun w' : World => ∀ q, q < w5.heap.size → w'.heap[q]? = w5.heap[q]?) { wr with drawn := wr.drawn + 1 } := hblk
                refine any_take 0 (some 160) (.pointer (some ⟨w.heap.size + 2, 0, none⟩)) rfl rfl (by kernel_rfl) (by kernel_rfl) (by kernel_rfl) (fun _ _ _ h => h) (.inl ⟨by kernel_rfl, fun _ _ => by kernel_rfl⟩) (by assumption) ?_
                simp only [Act.put, List.setIfInBounds_toArray, List.set_cons_zero, List.set_cons_succ]
                refine any_take 1 (some 161) (.pointer (some ⟨w.heap.size + 2, 0, none⟩)) rfl rfl (by kernel_rfl) (by kernel_rfl) (by kernel_rfl) (fun _ _ _ h => h) (.inl ⟨by kernel_rfl, fun _ _ => by kernel_rfl⟩) (by assumption) ?_
                simp only [Act.put, List.setIfInBounds_toArray, List.set_cons_zero, List.set_cons_succ]
                refine any_take 2 (some 162) (.pointer (some ⟨w.heap.size + 2, 0, none⟩)) rfl rfl (by kernel_rfl) (by kernel_rfl) (by kernel_rfl) (fun _ _ _ h => h) (.inl ⟨by kernel_rfl, fun _ _ => by kernel_rfl⟩) (by assumption) ?_
                simp only [Act.put, List.setIfInBounds_toArray, List.set_cons_zero, List.set_cons_succ]
                refine any_take 3 (some 163) (.map m) rfl rfl (by kernel_rfl) (by kernel_rfl) (by kernel_rfl) (fun _ _ _ h => h) (yld_cell (by kernel_rfl) 26 (.tmp 162) rfl (w.heap.size + 2) 0 rfl _ 29 (fun w' e => (e _ (by omega)).trans hst5.fs) _ Yba.underlying26 rfl _ (fc0 _ _ _)) (by assumption) ?_
                simp only [Act.put, List.setIfInBounds_toArray, List.set_cons_zero, List.set_cons_succ]
                refine any_take 4 (some 164) (.agg (sc k.s).toArray) rfl rfl (by kernel_rfl) (by kernel_rfl) (by kernel_rfl) (fun _ _ _ h => h) (yld_blk (by kernel_rfl) 23 (.tmp 8) rfl w.heap.size rfl (sc k.s) 23 hsrc _ Yba.underlying23 rfl (size23 _)) (by assumption) ?_
                simp only [Act.put, List.setIfInBounds_toArray, List.set_cons_zero, List.set_cons_succ]
                refine any_take 5 (some 165) (.agg (sc k.d).toArray) rfl rfl (by kernel_rfl) (by kernel_rfl) (by kernel_rfl) (fun _ _ _ h => h) (yld_blk (by kernel_rfl) 23 (.tmp 9) rfl (w.heap.size + 1) rfl (sc k.d) 23 hdst _ Yba.underlying23 rfl (size23 _)) (by assumption) ?_
                simp only [Act.put, List.setIfInBounds_toArray, List.set_cons_zero, List.set_cons_succ]
                refine any_take 6 (some 166) (.int .i64 i) rfl rfl (by kernel_rfl) (by kernel_rfl) (by kernel_rfl) (fun _ _ _ h => h) (.inl ⟨by kernel_rfl, fun _ _ => by kernel_rfl⟩) (by assumption) ?_
                simp only [Act.put, List.setIfInBounds_toArray, List.set_cons_zero, List.set_cons_succ]
                refine any_take 7 (some 167) (.int .u32 (IntKind.u32.wrap i)) rfl rfl (by kernel_rfl) (by kernel_rfl) (by kernel_rfl) (fun _ _ _ h => h) (.inl ⟨by kernel_rfl, fun _ _ => by kernel_rfl⟩) (by assumption) ?_
                simp only [Act.put, List.setIfInBounds_toArray, List.set_cons_zero, List.set_cons_succ]
                refine any_take 8 (some 168) (.int .u8 k.pr) rfl rfl (by kernel_rfl) (by kernel_rfl) (by kernel_rfl) (fun _ _ _ h => h) (.inl ⟨by kernel_rfl, fun _ _ => by kernel_rfl⟩) (by assumption) ?_
                simp only [Act.put, List.setIfInBounds_toArray, List.set_cons_zero, List.set_cons_succ]
                refine any_take 9 (some 169) (.bool k.v) rfl rfl (by kernel_rfl) (by kernel_rfl) (by kernel_rfl) (fun _ _ _ h => h) (.inl ⟨by kernel_rfl, fun _ _ => by kernel_rfl⟩) (by assumption) ?_
                simp only [Act.put, List.setIfInBounds_toArray, List.set_cons_zero, List.set_cons_succ]
                rw [hwr]
                refine any_call 10 (some 170) 5 #[.agg (sc k.s).toArray, .agg (sc k.d).toArray, .int .u32 (i : Int), .int .u8 k.pr, .bool k.v] rfl rfl (by kernel_rfl) (by kernel_rfl) (by kernel_rfl) ?_
                refine (key_any k (i : Int) _).mono ?_
                rintro e w6 ⟨rfl, hg6'⟩
                have hg6 : wr.grownBy w6 none := ⟨hg6'.os, hg6'.tape, hg6'.output, hg6'.size, hg6'.block⟩
                clear hg6' hS
                have hS6 : (fun w' : World => ∀ q, q < w5.heap.size → w'.heap[q]? = w5.heap[q]?) w6 := fun q hq => (hg6.block q (by omega) (by simp)).trans (hblk q hq)
                refine ⟨_, rfl, hS6, ?_⟩
                simp only [Act.put, List.setIfInBounds_toArray, List.set_cons_zero, List.set_cons_succ]
                refine any_take 11 (some 171) (.tuple #[vp (gt D k i), .bool (Maps.has D (kl k i))]) rfl rfl (by kernel_rfl) (by kernel_rfl) (by kernel_rfl) (fun _ _ _ h => h) (.inl ⟨by kernel_rfl, fun w' e => exec_look (.tmp 163) (.tmp 170) rfl hk hwi (hst5.at (w' := w') (B := w5.heap.size) e (by omega) (by omega)) rfl rfl⟩) (by assumption) ?_
                simp only [Act.put, List.setIfInBounds_toArray, List.set_cons_zero, List.set_cons_succ]
                refine any_take 12 (some 159) (.tuple #[vp (gt D k i), .bool (Maps.has D (kl k i))]) rfl rfl (by kernel_rfl) (by kernel_rfl) (by kernel_rfl) (fun _ _ _ h => h) (.inl ⟨by kernel_rfl, fun _ _ => by kernel_rfl⟩) (by assumption) ?_
                simp only [Act.put, List.setIfInBounds_toArray, List.set_cons_zero, List.set_cons_succ]
                refine any_take 13 (some 172) (vp (gt D k i)) rfl rfl (by kernel_rfl) (by kernel_rfl) (by kernel_rfl) (fun _ _ _ h => h) (.inl ⟨by kernel_rfl, fun _ _ => by kernel_rfl⟩) (by assumption) ?_
                simp only [Act.put, List.setIfInBounds_toArray, List.set_cons_zero, List.set_cons_succ]
                refine any_take 14 (some 173) (.bool (Maps.has D (kl k i))) rfl rfl (by kernel_rfl) (by kernel_rfl) (by kernel_rfl) (fun _ _ _ h => h) (.inl ⟨by kernel_rfl, fun _ _ => by kernel_rfl⟩) (by assumption) ?_
                simp only [Act.put, List.setIfInBounds_toArray, List.set_cons_zero, List.set_cons_succ]
                refine any_take 15 (some 31) (vp (gt D k i)) rfl rfl (by kernel_rfl) (by kernel_rfl) (by kernel_rfl) (fun _ _ _ h => h) (.inl ⟨by kernel_rfl, fun _ _ => by kernel_rfl⟩) (by assumption) ?_
                simp only [Act.put, List.setIfInBounds_toArray, List.set_cons_zero, List.set_cons_succ]
                refine any_take 16 (some 32) (.bool (Maps.has D (kl k i))) rfl rfl (by kernel_rfl) (by kernel_rfl) (by kernel_rfl) (fun _ _ _ h => h) (.inl ⟨by kernel_rfl, fun _ _ => by kernel_rfl⟩) (by assumption) ?_
                simp only [Act.put, List.setIfInBounds_toArray, List.set_cons_zero, List.set_cons_succ]
                refine wpAnyH_done (by kernel_rfl) ?_ _
                clear hS6
                have hc1 : w6.heap[w5.heap.size]? = some (.cells (bef D k i).toArray 62 (0, 0)) := keep_blk hg6 (I3.b1 HJ) (by simp)
                have hc2 : w6.heap[w5.heap.size + 1]? = some (.cells (bok D k i).toArray 63 (0, 0)) := keep_blk hg6 (I3.b2 HJ) (by simp)
                clear hwr hwi
                go_wp2_with (first
                  | (refine wpList_is (.store 27 (.tmp 176) (.tmp 175)) rfl ?_; refine wpList_store_cell rfl 27 (.tmp 176) (.tmp 175) rfl w5.heap.size i (vp (gt D k i)) rfl rfl _ _ hc1 size27 (by rw [bef_len]; exact hi8) (vp_one _) _ (bef_set D k hi8) ?_; intro w7 hb7 hg7)
                  | (refine wpList_is (.store 4 (.tmp 179) (.tmp 178)) rfl ?_; refine wpList_store_cell rfl 4 (.tmp 179) (.tmp 178) rfl (w5.heap.size + 1) i (.bool (Maps.has D (kl k i))) rfl rfl _ _ (keep_blk hg7 hc2 (by simp)) size4 (by rw [bok_len]; exact hi8) rfl _ (bok_set D k hi8) ?_; intro w8 hb8 hg8))
                go_roundg (8 - (i + 1))
                case measure => omega
                case rel =>
                  have hs6 := hg6.size
                  have hs7 := hg7.size
                  have hs8 := hg8.size
                  exact ⟨i + 1, by omega, by go_num, keep_blk hg8 hb7 (by simp), hb8, ((I3.bel HJ).grown hg6 (by omega) (by simp)).grown hg7 (by omega) (fun q e => by cases e; omega) |>.grown hg8 (by omega) (fun q e => by cases e; omega), by omega⟩
              · have hi9 : 8 = i := by omega
                subst hi9
                have hstY : St wr k (w.heap.size + 2) hi2 (w.heap.size + 2) L m D N := hst5.at (B := w5.heap.size) hJ.bel.block (by omega) (by omega)
                have hkbY : wr.heap[kb]? = some (.cells (kc k x).toArray 34 (0, 0)) := (hJ.bel.block _ (by omega)).trans ((hI5.bel.block _ (by omega)).trans hkb)
                have hJ1 := hJ.b1
                have hJ2 := hJ.b2
                have hszy := hJ.sz
                have hbelY : Below (w.heap.size + 2) w0 wr := (hbel3.trans (hI5.bel.mono (by omega))).trans (hJ.bel.mono (by omega))
                have hnsY : wr.ownsRow w3.heap.size 27 1 u19 L.length (nRow L L.length) := own_move hI5.ns (fun q _ hq => hJ.bel.block q hq)
                have hdsY : wr.ownsRow w3.heap.size 60 86 u20 L.length (dRow k L L.length) := own_move hI5.ds (fun q _ hq => hJ.bel.block q hq)
                have hNm : N < maxLen := by simp [maxLen]; omega
                clear hJ hi8 hi hst5 hst3 hbel3 hkb hsrc hdst
                go_upto_if 156 with fail
                go_step
                go_step
                go_step
                refine by_K (c := ?cc) (Q := ?QQ) ?hr ?ht
                case hr => assumption
                exact tail41 hk w w0 w3 w5 wr kb hi2 N x ts hx L m D u19 u20 hN6 hL hsz0 hbs hbd hb0 hszr hs2 hs3 hsz5 hszy hstY hkbY hJ1 hJ2 hbelY hnsY hdsY _ _ _ _ _ _ _ _ _ _ _ _ _ _ _ _ _ _ _ _ _ _ _ _ _ _ _ _ _ _ _ _ _ _ _ _ _ _ _ _ _ _ _ _ _ _ _ _ _ _ _ _ _ _ _ _ _ _ _ _ _ _ _ _ _ _ _ _ _ _ _ _ _ _ _ _ _ _ _ _ _ _ _ _ _ _ _ _ _ _ _ _ _ _ _ _ _ _ _ _ _ _ _ _ _ _ _ _ _ _ _ _ _ _ _ _ _ _ _ _ _ _ _ _ _ _ _ _ _ _ _ _ _ _ _ _ _ _ _ _ _ _ _ _ _ _ _ _ _ _ _ _ _ _ _ _ _ _ _ _ _ _ _ _ _ _ _ _ _ _ _ _ _ _ _ _ _ _ _ _ _ _ _ _ _ _ _ _ _ _ _ _ _ _ _ _ _ _ _ _ _ _ _ _ _ _ _ _ _ _ _ _ _ _ _ _ _ _ _ _ _ _ _ _ _ _ _ _ _ _ _ _ _ _ _ _ _ _ _ _ _ _ _ _ _ _ _ _ _ _ _ _ _ _ _ _ _ _ _ _ _ _ _ _ _ _ _ _ _ _ _ _ _ _ _ _ _ _ _ _ _ _ _ _ _ _ _ _ _ _ _ _ _ _ _ _ _ _

end Go.Proofs.Ybulkdsrg
