/-
  LawS5970AWhole: what may have changed; the two closures (8, 9).
-/
import Derived.Test.YbulkdspqAHelp
namespace Go.Proofs.Ybulkdspq
open Go.RowKit
set_option linter.unusedSimpArgs false
set_option linter.unusedVariables false

/-- Of the blocks that were there only those of S may have changed. -/
structure Chg (S : Nat → Prop) (w w' : World) : Prop where
  os : w'.os = w.os
  tape : w'.tape = w.tape
  output : w'.output = w.output
  size : w.heap.size ≤ w'.heap.size
  block : ∀ q, q < w.heap.size → ¬ S q → w'.heap[q]? = w.heap[q]?
theorem Chg.refl (S : Nat → Prop) (w : World) : Chg S w w := ⟨rfl, rfl, rfl, Nat.le_refl _, fun _ _ _ => rfl⟩
theorem Chg.grown {S : Nat → Prop} {w w1 w2 : World} {r : Option Nat} (h : Chg S w w1) (k : w1.grownBy w2 r) (hr : ∀ q, r = some q → S q ∨ w.heap.size ≤ q) : Chg S w w2 := by
  have hs := h.size
  refine ⟨k.os.trans h.os, k.tape.trans h.tape, k.output.trans h.output, Nat.le_trans h.size k.size, fun q hq hne => ?_⟩
  refine (k.block q (by omega) (fun e => ?_)).trans (h.block q hq hne)
  rcases hr q e.symm with h1 | h1
  · exact hne h1
  · omega
theorem Chg.trans {S : Nat → Prop} {w w1 w2 : World} (h : Chg S w w1) {T : Nat → Prop} (k : Chg T w1 w2) (hT : ∀ q, T q → S q ∨ w.heap.size ≤ q) : Chg S w w2 := by
  have hs := h.size
  refine ⟨k.os.trans h.os, k.tape.trans h.tape, k.output.trans h.output, Nat.le_trans h.size k.size, fun q hq hne => ?_⟩
  refine (k.block q (by omega) (fun e => ?_)).trans (h.block q hq hne)
  rcases hT q e with h1 | h1
  · exact hne h1
  · omega
theorem Chg.keep {S : Nat → Prop} {w w' : World} (h : Chg S w w') {q : Nat} {o : Obj} (hq : w.heap[q]? = some o) (hne : ¬ S q) : w'.heap[q]? = some o := (h.block q (Array.getElem?_eq_some_iff.1 hq).1 hne).trans hq
theorem Chg.own {S : Nat → Prop} {w w' : World} (h : Chg S w w') {base : Nat} {e : TypeId} {size : Nat} {v : Value} {n : Nat} {xs : List Value} (ho : w.ownsRow base e size v n xs) (hne : ∀ q, v.ownBlock = some q → ¬ S q) : w'.ownsRow base e size v n xs := by
  refine ⟨ho.1, ho.2.imp id fun ⟨g, cap, cur, h1, h2, h3, h4⟩ => ⟨g, cap, cur, h1, h2, h.keep h3 (hne g (by rw [h1]; rfl)), h4⟩⟩
theorem chg_of_grown {w w' : World} {r : Option Nat} (h : w.grownBy w' r) : Chg (fun q => r = some q) w w' := (Chg.refl _ w).grown h (fun q e => .inl e)
theorem Chg.mono {S T : Nat → Prop} {w w' : World} (h : Chg S w w') (hT : ∀ q, S q → T q) : Chg T w w' := ⟨h.os, h.tape, h.output, h.size, fun q hq hn => h.block q hq (fun e => hn (hT q e))⟩
theorem Chg.below {S : Nat → Prop} {B : Nat} {w0 w w' : World} (h : Chg S w w') (hb : Below B w0 w) (hS : ∀ q, S q → B ≤ q) (hB : B ≤ w.heap.size) : Below B w0 w' :=
  ⟨h.os.trans hb.os, h.tape.trans hb.tape, h.output.trans hb.output, Nat.le_trans hb.size h.size, fun q hq => (h.block q (by omega) (fun e => by have := hS q e; omega)).trans (hb.block q hq)⟩
theorem blk_ne {w : World} {p q : Nat} {a b : Array Value} {s t : TypeId} (hp : w.heap[p]? = some (.cells a s (0, 0))) (hq : w.heap[q]? = some (.cells b t (0, 0))) (h : s ≠ t) : p ≠ q := by
  rintro rfl
  rw [hp] at hq
  simp at hq
  exact h hq.2
theorem own_blk {w : World} {base e size g n c : Nat} {xs : List Value} (h : w.ownsRow base e size (.slice (some ⟨g, 0, none⟩) n c) n xs) : ∃ cur, w.heap[g]? = some (.cells cur e (0, 0)) := by
  rcases h.2 with ⟨e, _⟩ | ⟨g', cap, cur, e, _, hg, _⟩
  · cases e
  · cases e; exact ⟨cur, hg⟩
theorem own_cells {w : World} {base e size g n c : Nat} {xs : List Value} (h : w.ownsRow base e size (.slice (some ⟨g, 0, none⟩) n c) n xs) : ∀ j u, xs[j]? = some u → w.cell? ((⟨g, 0, none⟩ : Addr).add j) = some u := h.cells rfl

/-- A byte as an int. -/
def cv (z : Int) : Int := IntKind.i64.wrap z
/-- A byte's node. -/
def n8 (b : Int) : Int := cv (b.tmod 8)
theorem conv53 (z : Int) (w : World) : (convert 5 3 (.int .u8 z)).run Yba.prog w = .ok (.int .i64 (cv z)) w := by kernel_rfl
theorem wpList_conv53 {ops : Array Oper} {rest : List Oper} {op : Oper} {a : Act} {w : World} {Q : Exit → Act → World → Prop} (hgd : op.guard = none) (x : Operand) (ho : op.op = .convert 5 3 x) (z : Int) (hx : a.eval x = .int .u8 z)
    (h : wpList Yba.prog ops Q rest (a.put op.dst (.int .i64 (cv z))) w) : wpList Yba.prog ops Q (op :: rest) a w := by
  refine wpList_plain hgd fun K hK => ?_
  unfold Oper.wp execOp
  simp only [ho, hx, Sem.run_bind, conv53, Result.andThen_ok, Sem.run_pure]
  exact hK _ _ h

theorem bs31 (b : Int) (w : World) : (Instr.buildSlice 31 1 #[(0, .agg (idc b).toArray)]).run Yba.prog w = .ok (.slice (some ⟨w.heap.size, 0, none⟩) 1 1) (w.alloc (.cells (idc b).toArray 26)) := by kernel_rfl
theorem exec_bs31 {a : Act} {o : Oper} {w : World} (x : Operand) (ho : o.op = .buildSlice 31 1 #[(0, x)]) (b : Int) (hx : a.eval x = .agg (idc b).toArray) :
    (execOp a.eval o).run Yba.prog w = .ok (.value (.slice (some ⟨w.heap.size, 0, none⟩) 1 1)) (w.alloc (.cells (idc b).toArray 26)) := by
  unfold execOp
  simp only [ho, List.map_toArray, List.map_cons, List.map_nil, hx, Sem.run_bind, bs31, Result.andThen_ok, Sem.run_pure]
theorem size31 : (Yba.prog.info? 31).map (·.size) = some 1 := by kernel_rfl
theorem size38 : (Yba.prog.info? 38).map (·.size) = some 1 := by kernel_rfl
theorem size51 : (Yba.prog.info? 51).map (·.size) = some 1 := by kernel_rfl
theorem size3 : (Yba.prog.info? 3).map (·.size) = some 1 := by kernel_rfl
theorem own_one {w : World} {e size : TypeId} {v : Value} {n : Nat} {xs : List Value} (h : w.ownsRow 0 e size v n xs) : v.oneCell' = true := by
  rcases h.2 with ⟨rfl, _⟩ | ⟨g, cap, cur, rfl, _⟩ <;> rfl
/-- The cells of a new block. -/
theorem new_cells (w : World) (cs : List Value) (t : TypeId) : ∀ j u, cs[j]? = some u → (w.alloc (.cells cs.toArray t)).cell? ((⟨w.heap.size, 0, none⟩ : Addr).add j) = some u := by
  intro j u hu
  have := range_of_blk (blk_new w cs.toArray t w.heap.size rfl) j u hu
  rw [Addr.add_mid]; exact this

set_option maxRecDepth 100000 in
theorem node_any {w : World} {lb i : Nat} {lv : Value} {xs : List Int} {b : Int} (hl : w.heap[lb]? = some (.cells [lv].toArray 31 (0, 0))) (ho : w.ownsRow 0 26 20 lv i (xs.flatMap idc)) (hi : i ≤ 65536) :
    Calls Yba.prog 8 #[.agg (idc b).toArray, .pointer (some ⟨lb, 0, none⟩)] w fun e w' => e = .returned (.int .i64 (n8 b)) ∧ ∃ lv', w'.heap[lb]? = some (.cells [lv'].toArray 31 (0, 0)) ∧ w'.ownsRow 0 26 20 lv' (i + 1) ((xs ++ [b]).flatMap idc) ∧ Chg (fun q => q = lb ∨ lv.ownBlock = some q) w w' ∧ (lv'.ownBlock = lv.ownBlock ∨ ∃ q, lv'.ownBlock = some q ∧ w.heap.size ≤ q) := by
  go_enter Yba.func8, Yba.ntmps8
  go_upto_region 1 with (refine wpList_is (.box 26 (.tmp 0)) rfl ?_; refine wpList_box26 rfl (.tmp 0) rfl b rfl ?_)
  have hg1 : w.grownBy (w.alloc (.cells (idc b).toArray 26)) none := World.grownBy_alloc _ _ none
  have hl1 := keep_blk hg1 hl (by simp)
  have ho1 := own_kept ho hg1 (by simp)
  have hbx : (w.alloc (.cells (idc b).toArray 26)).heap[w.heap.size]? = some (.cells (idc b).toArray 26 (0, 0)) := heap_alloc_new w _
  have hs1 : (w.alloc (.cells (idc b).toArray 26)).heap.size = w.heap.size + 1 := by simp
  generalize w.alloc (.cells (idc b).toArray 26) = w1 at *
  have hg2 : w1.grownBy (w1.alloc (.cells (idc b).toArray 26)) none := World.grownBy_alloc _ _ none
  have ho2 := own_kept ho1 hg2 (by simp)
  have hs2 : (w1.alloc (.cells (idc b).toArray 26)).heap.size = w.heap.size + 2 := by simp [hs1]
  have hlb : lb < w.heap.size := (Array.getElem?_eq_some_iff.1 hl).1
  have hlv : ∀ q, lv.ownBlock = some q → q < w.heap.size ∧ q ≠ lb := fun q hq => by
    refine ⟨(own_base ho hq).2, ?_⟩
    rcases ho.2 with ⟨rfl, _⟩ | ⟨g, cap, cur, rfl, _, hg, _⟩
    · simp [Value.ownBlock] at hq
    · simp [Value.ownBlock] at hq; subst hq; exact blk_ne hg hl (by decide)
  have hlv1 : some lb ≠ lv.ownBlock := fun e => (hlv lb e.symm).2 rfl
  have hlv2 : some w.heap.size ≠ lv.ownBlock := fun e => by have := (hlv _ e.symm).1; omega
  go_upto_region 2 with (first
    | (refine wpList_is (.load 31 (.tmp 1)) rfl ?_; refine wpList_load_cell rfl 31 (.tmp 1) rfl lb 0 rfl _ _ hl1 _ Yba.underlying31 rfl lv rfl ?_)
    | (refine wpList_is (.load 26 (.tmp 2)) rfl ?_; refine wpList_load_blk rfl 26 (.tmp 2) rfl w.heap.size rfl (idc b) 26 hbx _ Yba.underlying26 rfl (size26 b) ?_)
    | (refine wpList_is (.buildSlice 31 1 #[(0, .tmp 5)]) rfl ?_; refine wpList_exec rfl _ (exec_bs31 (.tmp 5) rfl b rfl) ?_)
    | (refine wpList_is (.call { callee := .builtin .append, args := #[.tmp 4, .tmp 6], argTypes := #[31, 31] }) rfl ?_; refine wpList_app rfl Yba.underlying31 info26 rfl (by omega) (by omega) (.tmp 4) (.tmp 6) rfl lv i (xs.flatMap idc) rfl ho2 w1.heap.size 1 1 (idc b) rfl rfl (new_cells w1 (idc b) 26) (idc_one b) (by omega) ?_; intro lv' w3 hown hgr hnil hat)
    | (refine wpList_is (.store 31 (.tmp 1) (.tmp 7)) rfl ?_; refine wpList_store_cell rfl 31 (.tmp 1) (.tmp 7) rfl lb 0 lv' rfl rfl _ _ (keep_blk hgr (keep_blk hg2 hl1 (by simp)) hlv1) size31 (by simp) (own_one hown) [lv'] rfl ?_; intro w4 hl4 hg4))
  have hbx4 : w4.heap[w.heap.size]? = some (.cells (idc b).toArray 26 (0, 0)) := keep_blk hg4 (keep_blk hgr (keep_blk hg2 hbx (by simp)) hlv2) (by simp; omega)
  go_wp2_with (first
    | (refine wpList_is (.load 5 (.tmp 8)) rfl ?_; refine wpList_load_cell rfl 5 (.tmp 8) rfl w.heap.size 19 rfl _ _ hbx4 _ Yba.underlying5 rfl _ (idc_get19 b) ?_)
    | (refine wpList_is (.convert 5 3 (.tmp 10)) rfl ?_; refine wpList_conv53 rfl (.tmp 10) rfl (b.tmod 8) rfl ?_))
  have hsz3 := hgr.size
  have hlv' : lv'.ownBlock = lv.ownBlock ∨ ∃ q, lv'.ownBlock = some q ∧ w.heap.size ≤ q := hat.imp id (fun h => ⟨_, h, by omega⟩)
  have hc : Chg (fun q => q = lb ∨ lv.ownBlock = some q) w w4 := (((Chg.refl _ w).grown hg1 (by simp)).grown hg2 (by simp)).grown hgr (fun q e => .inl (.inr e)) |>.grown hg4 (fun q e => by cases e; exact .inl (.inl rfl))
  refine bodyPost_ret (v := .int .i64 (n8 b)) (by kernel_rfl) rfl ⟨rfl, lv', hl4, ?_, hc, hlv'⟩
  have e : (xs ++ [b]).flatMap idc = xs.flatMap idc ++ idc b := by simp
  rw [e]
  refine own_kept hown hg4 (fun q hq => ?_)
  rcases hat with h | h
  · have := (hlv q (h ▸ hq)).2; simp; omega
  · rw [hq] at h; cases h; simp; omega

/-- What the message's receiver has laid down. -/
def Sent (w w' : World) (cb tb ib nb vb : Nat) (s : Int) (n : Nat) (is ns ws : List Value) : Prop :=
  ∃ g1 c1 g2 c2 g3 c3, w'.heap[cb]? = some (.cells [.int .i64 1].toArray 3 (0, 0)) ∧ w'.heap[tb]? = some (.cells [.int .i64 s].toArray 3 (0, 0)) ∧ w'.heap[ib]? = some (.cells [.slice (some ⟨g1, 0, none⟩) n c1].toArray 31 (0, 0)) ∧ w'.heap[nb]? = some (.cells [.slice (some ⟨g2, 0, none⟩) n c2].toArray 38 (0, 0)) ∧ w'.heap[vb]? = some (.cells [.slice (some ⟨g3, 0, none⟩) n c3].toArray 51 (0, 0)) ∧
        w'.ownsRow 0 26 20 (.slice (some ⟨g1, 0, none⟩) n c1) n is ∧ w'.ownsRow 0 3 1 (.slice (some ⟨g2, 0, none⟩) n c2) n ns ∧ w'.ownsRow 0 54 1 (.slice (some ⟨g3, 0, none⟩) n c3) n ws ∧ Chg (fun q => q = cb ∨ q = tb ∨ q = ib ∨ q = nb ∨ q = vb) w w'

set_option maxRecDepth 100000 in
set_option maxHeartbeats 4000000 in
theorem send_any {w : World} {cb tb ib nb vb : Nat} {s : Int} {x1 x2 x3 x4 : Value} {gi gn gw ci cn cw n : Nat} {is ns ws : List Value} (hn : n ≤ 65536)
    (hc : w.heap[cb]? = some (.cells [.int .i64 0].toArray 3 (0, 0))) (ht : w.heap[tb]? = some (.cells [x1].toArray 3 (0, 0))) (hi : w.heap[ib]? = some (.cells [x2].toArray 31 (0, 0))) (hnn : w.heap[nb]? = some (.cells [x3].toArray 38 (0, 0))) (hv : w.heap[vb]? = some (.cells [x4].toArray 51 (0, 0)))
    (hne : cb ≠ tb) (oi : w.ownsRow 0 26 20 (.slice (some ⟨gi, 0, none⟩) n ci) n is) (on : w.ownsRow 0 3 1 (.slice (some ⟨gn, 0, none⟩) n cn) n ns) (ow : w.ownsRow 0 54 1 (.slice (some ⟨gw, 0, none⟩) n cw) n ws) (hgn : gn ≠ cb ∧ gn ≠ tb)
    (i1 : ∀ u ∈ is, u.oneCell' = true) (n1 : ∀ u ∈ ns, u.oneCell' = true) (w1 : ∀ u ∈ ws, u.oneCell' = true) :
    Calls Yba.prog 9 #[.int .i64 s, .slice (some ⟨gi, 0, none⟩) n ci, .slice (some ⟨gn, 0, none⟩) n cn, .slice (some ⟨gw, 0, none⟩) n cw, .pointer (some ⟨cb, 0, none⟩), .pointer (some ⟨tb, 0, none⟩), .pointer (some ⟨ib, 0, none⟩), .pointer (some ⟨nb, 0, none⟩), .pointer (some ⟨vb, 0, none⟩)] w
      fun e w' => (∃ v, e = .returned v) ∧ Sent w w' cb tb ib nb vb s n is ns ws := by
  obtain ⟨_, bi⟩ := own_blk oi
  obtain ⟨_, bn⟩ := own_blk on
  obtain ⟨_, bw⟩ := own_blk ow
  have e1 := blk_ne bi hc (by decide)
  have e2 := blk_ne bi ht (by decide)
  have e3 := blk_ne bw hc (by decide)
  have e4 := blk_ne bw ht (by decide)
  have e5 := blk_ne hi hc (by decide)
  have e6 := blk_ne hi ht (by decide)
  have e7 := blk_ne hnn hc (by decide)
  have e8 := blk_ne hnn ht (by decide)
  have e9 := blk_ne hv hc (by decide)
  have e10 := blk_ne hv ht (by decide)
  have e11 := blk_ne hi hnn (by decide)
  have e12 := blk_ne hi hv (by decide)
  have e13 := blk_ne hnn hv (by decide)
  have e14 := blk_ne bn hi (by decide)
  have e15 := blk_ne bw hi (by decide)
  have e16 := blk_ne bw hnn (by decide)
  have lc := (Array.getElem?_eq_some_iff.1 hc).1
  have lt := (Array.getElem?_eq_some_iff.1 ht).1
  have li := (Array.getElem?_eq_some_iff.1 hi).1
  have ln := (Array.getElem?_eq_some_iff.1 hnn).1
  have lv := (Array.getElem?_eq_some_iff.1 hv).1
  go_enter Yba.func9, Yba.ntmps9
  go_wp2_with (first
    | (refine wpList_is (.load 3 (.tmp 4)) rfl ?_; refine wpList_load_cell rfl 3 (.tmp 4) rfl cb 0 rfl _ _ hc _ Yba.underlying3 rfl _ rfl ?_)
    | (refine wpList_is (.store 3 (.tmp 4) (.tmp 14)) rfl ?_; refine wpList_store_cell rfl 3 (.tmp 4) (.tmp 14) rfl cb 0 (.int .i64 1) rfl rfl _ _ hc size3 (by simp) rfl [.int .i64 1] rfl ?_; intro u1 hc1 k1)
    | (refine wpList_is (.store 3 (.tmp 5) (.tmp 15)) rfl ?_; refine wpList_store_cell rfl 3 (.tmp 5) (.tmp 15) rfl tb 0 (.int .i64 s) rfl rfl _ _ (keep_blk k1 ht (by simpa using Ne.symm hne)) size3 (by simp) rfl [.int .i64 s] rfl ?_; intro u2 ht2 k2))
  have oi2 := own_kept (own_kept oi k1 (by simp [Value.ownBlock]; omega)) k2 (by simp [Value.ownBlock]; omega)
  have on2 := own_kept (own_kept on k1 (by simp [Value.ownBlock]; omega)) k2 (by simp [Value.ownBlock]; omega)
  have ow2 := own_kept (own_kept ow k1 (by simp [Value.ownBlock]; omega)) k2 (by simp [Value.ownBlock]; omega)
  have hi2 := keep_blk k2 (keep_blk k1 hi (by simp; omega)) (by simp; omega)
  have hn2 := keep_blk k2 (keep_blk k1 hnn (by simp; omega)) (by simp; omega)
  have hv2 := keep_blk k2 (keep_blk k1 hv (by simp; omega)) (by simp; omega)
  have hc2 := keep_blk k2 hc1 (by simp; omega)
  have s1 := k1.size
  have s2 := k2.size
  refine (clone6_any oi2.1 (own_cells oi2) i1 hn).mono ?_
  rintro e u3 ⟨g1, c1, rfl, hg1, o3, k3⟩
  have s3 := k3.size
  go_wp2_with (refine wpList_is (.store 31 (.tmp 6) (.tmp 17)) rfl ?_; refine wpList_store_cell rfl 31 (.tmp 6) (.tmp 17) rfl ib 0 (.slice (some ⟨g1, 0, none⟩) n c1) rfl rfl _ _ (keep_blk k3 hi2 (by simp)) size31 (by simp) rfl [.slice (some ⟨g1, 0, none⟩) n c1] rfl ?_; intro u4 hi4 k4)
  have s4 := k4.size
  have on4 := own_kept (own_kept on2 k3 (by simp)) k4 (by simp [Value.ownBlock]; omega)
  have ow4 := own_kept (own_kept ow2 k3 (by simp)) k4 (by simp [Value.ownBlock]; omega)
  have o4 := own_kept o3 k4 (by simp [Value.ownBlock]; omega)
  have hn4 := keep_blk k4 (keep_blk k3 hn2 (by simp)) (by simp; omega)
  have hv4 := keep_blk k4 (keep_blk k3 hv2 (by simp)) (by simp; omega)
  have hc4 := keep_blk k4 (keep_blk k3 hc2 (by simp)) (by simp; omega)
  have ht4 := keep_blk k4 (keep_blk k3 ht2 (by simp)) (by simp; omega)
  refine (clone10_any on4.1 (own_cells on4) n1 hn).mono ?_
  rintro e u5 ⟨g2, c2, rfl, hg2, o5, k5⟩
  have s5 := k5.size
  go_wp2_with (refine wpList_is (.store 38 (.tmp 7) (.tmp 19)) rfl ?_; refine wpList_store_cell rfl 38 (.tmp 7) (.tmp 19) rfl nb 0 (.slice (some ⟨g2, 0, none⟩) n c2) rfl rfl _ _ (keep_blk k5 hn4 (by simp)) size38 (by simp) rfl [.slice (some ⟨g2, 0, none⟩) n c2] rfl ?_; intro u6 hn6 k6)
  have s6 := k6.size
  have ow6 := own_kept (own_kept ow4 k5 (by simp)) k6 (by simp [Value.ownBlock]; omega)
  have o6 := own_kept (own_kept o4 k5 (by simp)) k6 (by simp [Value.ownBlock]; omega)
  have o6' := own_kept o5 k6 (by simp [Value.ownBlock]; omega)
  have hv6 := keep_blk k6 (keep_blk k5 hv4 (by simp)) (by simp; omega)
  have hc6 := keep_blk k6 (keep_blk k5 hc4 (by simp)) (by simp; omega)
  have ht6 := keep_blk k6 (keep_blk k5 ht4 (by simp)) (by simp; omega)
  have hi6 := keep_blk k6 (keep_blk k5 hi4 (by simp)) (by simp; omega)
  refine (clone11_any ow6.1 (own_cells ow6) w1 hn).mono ?_
  rintro e u7 ⟨g3, c3, rfl, hg3, o7, k7⟩
  have s7 := k7.size
  go_wp2_with (refine wpList_is (.store 51 (.tmp 8) (.tmp 21)) rfl ?_; refine wpList_store_cell rfl 51 (.tmp 8) (.tmp 21) rfl vb 0 (.slice (some ⟨g3, 0, none⟩) n c3) rfl rfl _ _ (keep_blk k7 hv6 (by simp)) size51 (by simp) rfl [.slice (some ⟨g3, 0, none⟩) n c3] rfl ?_; intro u8 hv8 k8)
  have hch : Chg (fun q => q = cb ∨ q = tb ∨ q = ib ∨ q = nb ∨ q = vb) w u8 := by
    refine ((((((((Chg.refl _ w).grown k1 ?_).grown k2 ?_).grown k3 ?_).grown k4 ?_).grown k5 ?_).grown k6 ?_).grown k7 ?_).grown k8 ?_
    all_goals (intro q e; first | (cases e; simp) | (simp at e))
  have fin : Sent w u8 cb tb ib nb vb s n is ns ws :=
    ⟨g1, c1, g2, c2, g3, c3, keep_blk k8 (keep_blk k7 hc6 (by simp)) (by simp; omega), keep_blk k8 (keep_blk k7 ht6 (by simp)) (by simp; omega), keep_blk k8 (keep_blk k7 hi6 (by simp)) (by simp; omega), keep_blk k8 (keep_blk k7 hn6 (by simp)) (by simp; omega), hv8,
      own_kept (own_kept o6 k7 (by simp)) k8 (by simp [Value.ownBlock]; omega), own_kept (own_kept o6' k7 (by simp)) k8 (by simp [Value.ownBlock]; omega), own_kept o7 k8 (by simp [Value.ownBlock]; omega), hch⟩
  exact bodyPost_end (v := .tuple #[]) (by kernel_rfl) rfl ⟨⟨_, rfl⟩, fin⟩

end Go.Proofs.Ybulkdspq
