/-
  LawS5970AWhole: HandsOn (19), AppendWatched (20), HeardOf (21).
-/
import Derived.Test.YbulkdspqAEqual
namespace Go.Proofs.Ybulkdspq
open Go.RowKit
set_option linter.unusedSimpArgs false
set_option linter.unusedVariables false

/-- The cells of a trustset: its members, its refused candidates. -/
def setc (u v : Value) : List Value := idc 0 ++ [.int .u32 0, .int .u64 0, .int .u64 0, .int .i64 0, u, .slice none 0 0, v]
/-- The cells of the news: what was heard. -/
def newsc (h : Value) : List Value := [.int .i64 0, h, .slice none 0 0, .slice none 0 0, .int .i64 0, .int .i64 0, .int .i64 0, .int .i64 0, .slice none 0 0]
theorem setc_ids (u v : Value) : (setc u v)[24]? = some u := rfl
theorem setc_ref (u v : Value) : (setc u v)[26]? = some v := rfl

/-- Whether the push is handed on. -/
def hands (xs : List Int) (s : Int) : Bool := match xs with | [] => true | x :: _ => !decide (x = s)

set_option maxRecDepth 100000 in
theorem hands_any {w : World} {sb g n c : Nat} {rv : Value} {xs : List Int} {s : Int} (hn : xs.length = n) (hset : w.heap[sb]? = some (.cells (setc (.slice (some ⟨g, 0, none⟩) n c) rv).toArray 34 (0, 0))) (hr : ∀ i x, xs[i]? = some x → w.rangeAt g (i * 20) (idc x)) (hb : 0 < n → g < w.heap.size)
    (hwf : ∀ x ∈ xs, (Lit.int .u8 x).wf = true) (hws : (Lit.int .u8 s).wf = true) :
    Calls Yba.prog 19 #[.pointer (some ⟨sb, 0, none⟩), .agg (idc s).toArray] w fun e w' => e = .returned (.bool (hands xs s)) ∧ w.grownBy w' none := by
  obtain ⟨ti, hti, _, hts, _⟩ := info_parts info26
  go_enter Yba.func19, Yba.ntmps19
  go_upto_region 1 with (refine wpList_is (.box 26 (.tmp 1)) rfl ?_; refine wpList_box26 rfl (.tmp 1) rfl s rfl ?_)
  have hg1 : w.grownBy (w.alloc (.cells (idc s).toArray 26)) none := World.grownBy_alloc _ _ none
  have hset1 := keep_blk hg1 hset (by simp)
  have hbx : (w.alloc (.cells (idc s).toArray 26)).heap[w.heap.size]? = some (.cells (idc s).toArray 26 (0, 0)) := heap_alloc_new w _
  have hr1 : ∀ i x, xs[i]? = some x → (w.alloc (.cells (idc s).toArray 26)).rangeAt g (i * 20) (idc x) := fun i x hx => range_keep hg1 (hr i x hx) (hb (by have := (List.getElem?_eq_some_iff.1 hx).1; omega)) (by simp)
  generalize w.alloc (.cells (idc s).toArray 26) = w1 at *
  refine wp_region_held (S := fun w' : World => w'.heap = w1.heap) (by kernel_rfl) ?_
  have hS : (fun w' : World => w'.heap = w1.heap) { w1 with drawn := w1.drawn + 1 } := rfl
  refine any_take 0 (some 5) (.pointer (some ⟨sb, 0, none⟩)) rfl rfl (by kernel_rfl) (by kernel_rfl) (by kernel_rfl) (fun _ _ _ h => h) (.inl ⟨by kernel_rfl, fun _ _ => by kernel_rfl⟩) (by assumption) ?_
  simp only [Act.put, List.setIfInBounds_toArray, List.set_cons_zero, List.set_cons_succ]
  refine any_take 1 (some 6) (.pointer (some ⟨sb, 0, none⟩)) rfl rfl (by kernel_rfl) (by kernel_rfl) (by kernel_rfl) (fun _ _ _ h => h) (.inl ⟨by kernel_rfl, fun _ _ => by kernel_rfl⟩) (by assumption) ?_
  simp only [Act.put, List.setIfInBounds_toArray, List.set_cons_zero, List.set_cons_succ]
  refine any_take 2 (some 7) (.pointer (some ⟨sb, 24, none⟩)) rfl rfl (by kernel_rfl) (by kernel_rfl) (by kernel_rfl) (fun _ _ _ h => h) (.inl ⟨by kernel_rfl, fun _ _ => by kernel_rfl⟩) (by assumption) ?_
  simp only [Act.put, List.setIfInBounds_toArray, List.set_cons_zero, List.set_cons_succ]
  refine any_take 3 (some 8) (.slice (some ⟨g, 0, none⟩) n c) rfl rfl (by kernel_rfl) (by kernel_rfl) (by kernel_rfl) (fun _ _ _ h => h) (yld_cell (by kernel_rfl) 31 (.tmp 7) rfl sb 24 (by kernel_rfl) _ 34 (fun w' e => by rw [show w'.heap = w1.heap from e]; exact hset1) _ Yba.underlying31 rfl _ (setc_ids _ _)) (by assumption) ?_
  simp only [Act.put, List.setIfInBounds_toArray, List.set_cons_zero, List.set_cons_succ]
  refine any_take 4 (some 9) (.int .i64 n) rfl rfl (by kernel_rfl) (by kernel_rfl) (by kernel_rfl) (fun _ _ _ h => h) (.inl ⟨by kernel_rfl, fun _ _ => by kernel_rfl⟩) (by assumption) ?_
  simp only [Act.put, List.setIfInBounds_toArray, List.set_cons_zero, List.set_cons_succ]
  cases xs with
  | nil =>
    simp at hn
    subst hn
    refine any_take 5 (some 10) (.bool true) rfl rfl (by kernel_rfl) (by kernel_rfl) (by kernel_rfl) (fun _ _ _ h => h) (.inl ⟨by kernel_rfl, fun _ _ => by kernel_rfl⟩) (by assumption) ?_
    simp only [Act.put, List.setIfInBounds_toArray, List.set_cons_zero, List.set_cons_succ]
    refine any_take 6 (some 11) (.bool true) rfl rfl (by kernel_rfl) (by kernel_rfl) (by kernel_rfl) (fun _ _ _ h => h) (.inl ⟨by kernel_rfl, fun _ _ => by kernel_rfl⟩) (by assumption) ?_
    simp only [Act.put, List.setIfInBounds_toArray, List.set_cons_zero, List.set_cons_succ]
    refine any_take 7 (some 12) undef rfl rfl (by kernel_rfl) (by kernel_rfl) (by kernel_rfl) (fun _ _ _ h => h) (.inr ⟨by kernel_rfl, rfl⟩) (by assumption) ?_
    simp only [Act.put, List.setIfInBounds_toArray, List.set_cons_zero, List.set_cons_succ]
    refine any_take 8 (some 13) undef rfl rfl (by kernel_rfl) (by kernel_rfl) (by kernel_rfl) (fun _ _ _ h => h) (.inr ⟨by kernel_rfl, rfl⟩) (by assumption) ?_
    simp only [Act.put, List.setIfInBounds_toArray, List.set_cons_zero, List.set_cons_succ]
    refine any_take 9 (some 14) undef rfl rfl (by kernel_rfl) (by kernel_rfl) (by kernel_rfl) (fun _ _ _ h => h) (.inr ⟨by kernel_rfl, rfl⟩) (by assumption) ?_
    simp only [Act.put, List.setIfInBounds_toArray, List.set_cons_zero, List.set_cons_succ]
    refine any_take 10 (some 15) undef rfl rfl (by kernel_rfl) (by kernel_rfl) (by kernel_rfl) (fun _ _ _ h => h) (.inr ⟨by kernel_rfl, rfl⟩) (by assumption) ?_
    simp only [Act.put, List.setIfInBounds_toArray, List.set_cons_zero, List.set_cons_succ]
    refine any_take 11 (some 16) undef rfl rfl (by kernel_rfl) (by kernel_rfl) (by kernel_rfl) (fun _ _ _ h => h) (.inr ⟨by kernel_rfl, rfl⟩) (by assumption) ?_
    simp only [Act.put, List.setIfInBounds_toArray, List.set_cons_zero, List.set_cons_succ]
    refine any_take 12 (some 17) undef rfl rfl (by kernel_rfl) (by kernel_rfl) (by kernel_rfl) (fun _ _ _ h => h) (.inr ⟨by kernel_rfl, rfl⟩) (by assumption) ?_
    simp only [Act.put, List.setIfInBounds_toArray, List.set_cons_zero, List.set_cons_succ]
    refine any_take 13 (some 18) undef rfl rfl (by kernel_rfl) (by kernel_rfl) (by kernel_rfl) (fun _ _ _ h => h) (.inr ⟨by kernel_rfl, rfl⟩) (by assumption) ?_
    simp only [Act.put, List.setIfInBounds_toArray, List.set_cons_zero, List.set_cons_succ]
    refine any_take 14 (some 19) undef rfl rfl (by kernel_rfl) (by kernel_rfl) (by kernel_rfl) (fun _ _ _ h => h) (.inr ⟨by kernel_rfl, rfl⟩) (by assumption) ?_
    simp only [Act.put, List.setIfInBounds_toArray, List.set_cons_zero, List.set_cons_succ]
    refine any_take 15 (some 20) (.bool true) rfl rfl (by kernel_rfl) (by kernel_rfl) (by kernel_rfl) (fun _ _ _ h => h) (.inl ⟨by kernel_rfl, fun _ _ => by kernel_rfl⟩) (by assumption) ?_
    simp only [Act.put, List.setIfInBounds_toArray, List.set_cons_zero, List.set_cons_succ]
    refine any_take 16 (some 4) (.bool true) rfl rfl (by kernel_rfl) (by kernel_rfl) (by kernel_rfl) (fun _ _ _ h => h) (.inl ⟨by kernel_rfl, fun _ _ => by kernel_rfl⟩) (by assumption) ?_
    simp only [Act.put, List.setIfInBounds_toArray, List.set_cons_zero, List.set_cons_succ]
    refine wpAnyH_done (by kernel_rfl) ?_ _
    go_wp2_with fail
    refine bodyPost_ret (v := .bool true) (by kernel_rfl) rfl ⟨rfl, grown_trans hg1 (grown_drew w1)⟩
  | cons x ys =>
    simp at hn
    subst hn
    have hwx : (Lit.int .u8 x).wf = true := hwf x (by simp)
    have r0 := hr1 0 x rfl
    refine any_take 5 (some 10) (.bool false) rfl rfl (by kernel_rfl) (by kernel_rfl) (by kernel_rfl) (fun _ _ _ h => h) (.inl ⟨by kernel_rfl, fun _ _ => by kernel_rfl⟩) (by assumption) ?_
    simp only [Act.put, List.setIfInBounds_toArray, List.set_cons_zero, List.set_cons_succ]
    refine any_take 6 (some 11) (.bool false) rfl rfl (by kernel_rfl) (by kernel_rfl) (by kernel_rfl) (fun _ _ _ h => h) (.inl ⟨by kernel_rfl, fun _ _ => by kernel_rfl⟩) (by assumption) ?_
    simp only [Act.put, List.setIfInBounds_toArray, List.set_cons_zero, List.set_cons_succ]
    refine any_take 7 (some 12) (.pointer (some ⟨sb, 0, none⟩)) rfl rfl (by kernel_rfl) (by kernel_rfl) (by kernel_rfl) (fun _ _ _ h => h) (.inl ⟨by kernel_rfl, fun _ _ => by kernel_rfl⟩) (by assumption) ?_
    simp only [Act.put, List.setIfInBounds_toArray, List.set_cons_zero, List.set_cons_succ]
    refine any_take 8 (some 13) (.pointer (some ⟨sb, 0, none⟩)) rfl rfl (by kernel_rfl) (by kernel_rfl) (by kernel_rfl) (fun _ _ _ h => h) (.inl ⟨by kernel_rfl, fun _ _ => by kernel_rfl⟩) (by assumption) ?_
    simp only [Act.put, List.setIfInBounds_toArray, List.set_cons_zero, List.set_cons_succ]
    refine any_take 9 (some 14) (.pointer (some ⟨sb, 24, none⟩)) rfl rfl (by kernel_rfl) (by kernel_rfl) (by kernel_rfl) (fun _ _ _ h => h) (.inl ⟨by kernel_rfl, fun _ _ => by kernel_rfl⟩) (by assumption) ?_
    simp only [Act.put, List.setIfInBounds_toArray, List.set_cons_zero, List.set_cons_succ]
    refine any_take 10 (some 15) (.slice (some ⟨g, 0, none⟩) (ys.length + 1) c) rfl rfl (by kernel_rfl) (by kernel_rfl) (by kernel_rfl) (fun _ _ _ h => h) (yld_cell (by kernel_rfl) 31 (.tmp 14) rfl sb 24 (by kernel_rfl) _ 34 (fun w' e => by rw [show w'.heap = w1.heap from e]; exact hset1) _ Yba.underlying31 rfl _ (setc_ids _ _)) (by assumption) ?_
    simp only [Act.put, List.setIfInBounds_toArray, List.set_cons_zero, List.set_cons_succ]
    refine any_take 11 (some 16) (.pointer (some ⟨g, 0 * 20, none⟩)) rfl rfl (by kernel_rfl) (by kernel_rfl) (by kernel_rfl) (fun _ _ _ h => h) (.inl ⟨by kernel_rfl, fun w' _ => exec_index (.tmp 15) (.const (.int .i64 0)) rfl Yba.underlying31 hti hts g (ys.length + 1) c 0 (by omega) (by kernel_rfl) (by kernel_rfl)⟩) (by assumption) ?_
    simp only [Act.put, List.setIfInBounds_toArray, List.set_cons_zero, List.set_cons_succ]
    refine any_take 12 (some 17) (.agg (idc x).toArray) rfl rfl (by kernel_rfl) (by kernel_rfl) (by kernel_rfl) (fun _ _ _ h => h) (yieldsIf_load_mid (by kernel_rfl) 26 (.tmp 16) rfl g (0 * 20) (by kernel_rfl) (idc x) _ (fun w' e => range_heap e r0) Yba.underlying26 rfl (size26 x)) (by assumption) ?_
    simp only [Act.put, List.setIfInBounds_toArray, List.set_cons_zero, List.set_cons_succ]
    refine any_take 13 (some 18) (.agg (idc s).toArray) rfl rfl (by kernel_rfl) (by kernel_rfl) (by kernel_rfl) (fun _ _ _ h => h) (yld_blk (by kernel_rfl) 26 (.tmp 3) rfl w.heap.size (by kernel_rfl) (idc s) 26 (fun w' e => by rw [show w'.heap = w1.heap from e]; exact hbx) _ Yba.underlying26 rfl (size26 s)) (by assumption) ?_
    simp only [Act.put, List.setIfInBounds_toArray, List.set_cons_zero, List.set_cons_succ]
    refine any_take 14 (some 19) (.bool (!decide (x = s))) rfl rfl (by kernel_rfl) (by kernel_rfl) (by kernel_rfl) (fun _ _ _ h => h) (.inl ⟨by kernel_rfl, fun w' _ => exec_neq26 (.tmp 17) (.tmp 18) rfl hwx hws (by kernel_rfl) (by kernel_rfl)⟩) (by assumption) ?_
    simp only [Act.put, List.setIfInBounds_toArray, List.set_cons_zero, List.set_cons_succ]
    refine any_take 15 (some 20) (.bool (!decide (x = s))) rfl rfl (by kernel_rfl) (by kernel_rfl) (by kernel_rfl) (fun _ _ _ h => h) (.inl ⟨by kernel_rfl, fun _ _ => by kernel_rfl⟩) (by assumption) ?_
    simp only [Act.put, List.setIfInBounds_toArray, List.set_cons_zero, List.set_cons_succ]
    refine any_take 16 (some 4) (.bool (!decide (x = s))) rfl rfl (by kernel_rfl) (by kernel_rfl) (by kernel_rfl) (fun _ _ _ h => h) (.inl ⟨by kernel_rfl, fun _ _ => by kernel_rfl⟩) (by assumption) ?_
    simp only [Act.put, List.setIfInBounds_toArray, List.set_cons_zero, List.set_cons_succ]
    refine wpAnyH_done (by kernel_rfl) ?_ _
    go_wp2_with fail
    refine bodyPost_ret (v := .bool (!decide (x = s))) (by kernel_rfl) rfl ⟨rfl, grown_trans hg1 (grown_drew w1)⟩

section
variable {ops : Array Oper} {S : World → Prop} {a : Act} {md : Region.Mode} {Q : Exit → Act → World → Prop}
/-- An append alone may come up. -/
theorem any_app (i : Nat) (d : Option Tmp) {fuel : Nat} {o : Oper} {listed : Array Bool} {w : World} (hi : ops[i]? = some o) (hd : o.dst = d) (hr : Region.ready md ops listed = [i]) (hw : Region.wanted o (yielded ops a.tmps) = true)
    {t e : TypeId} {z : Value} {size bytes : Nat} (ht : Yba.prog.underlying t = some (.slice e)) (hinfo : (Yba.prog.info? e).map (fun i => (i.zero, i.size, i.bytes)) = some (some z, size, bytes)) (hzs : z.cells.size = size) (hsz : 0 < size) (hby : bytes ≤ 48)
    (s x : Operand) (ho : o.op = .call { callee := .builtin .append, args := #[s, x], argTypes := #[t, t] }) (v : Value) (n : Nat) (xs : List Value) (hs : a.eval s = v) (hown : w.ownsRow 0 e size v n xs)
    (ad m c : Nat) (news : List Value) (hx : a.eval x = .slice (some ⟨ad, 0, none⟩) m c) (hl : news.length = m * size) (hnews : ∀ j u, news[j]? = some u → w.cell? ((⟨ad, 0, none⟩ : Addr).add j) = some u) (h1 : ∀ u ∈ news, u.oneCell' = true) (hn : n + m ≤ 1000000)
    (h : ∀ v' w', w'.ownsRow 0 e size v' (n + m) (xs ++ news) → w.grownBy w' v.ownBlock → (v' = .slice none 0 0 ↔ v = .slice none 0 0 ∧ m = 0) → (v'.ownBlock = v.ownBlock ∨ v'.ownBlock = some w.heap.size) → S w' ∧ wpAnyH Yba.prog md ops Q S fuel (listed.setIfInBounds i true) (a.put d v') w') : wpAnyH Yba.prog md ops Q S (fuel + 1) listed a w := by
  obtain ⟨v', w', hrun, h2, h3, h4, h5⟩ := exec_app ht hinfo hzs hsz hby s x ho v n xs hs hown ad m c news hx hl hnews h1 hn
  have hh := h v' w' h2 h3 h4 h5
  exact any_one i d v' w' hi hd hr hw hrun hh.1 hh.2
end

/-- A step behind a growth. -/
theorem grown_step {w w1 w2 : World} {row r : Option Nat} (h : w.grownBy w1 row) (k : w1.grownBy w2 r) (hr : ∀ q, r = some q → row = some q ∨ w.heap.size ≤ q) : w.grownBy w2 row := by
  have hs := h.size
  refine ⟨k.os.trans h.os, k.tape.trans h.tape, k.output.trans h.output, Nat.le_trans h.size k.size, fun q hq hne => ?_⟩
  refine (k.block q (by omega) (fun e => ?_)).trans (h.block q hq hne)
  rcases hr q e.symm with h1 | h1
  · exact hne h1.symm
  · omega

set_option maxRecDepth 100000 in
theorem watched_any {w : World} {sb g1 n1 c1 g2 n2 c2 gd cd : Nat} {ms rs : List Int} (h1 : ms.length = n1) (h2 : rs.length = n2) (hm : n1 + n2 ≤ 65536) (hset : w.heap[sb]? = some (.cells (setc (.slice (some ⟨g1, 0, none⟩) n1 c1) (.slice (some ⟨g2, 0, none⟩) n2 c2)).toArray 34 (0, 0)))
    (hr1 : Blk idc w g1 26 ms) (hr2 : Blk idc w g2 26 rs) (hd : w.ownsRow 0 26 20 (.slice (some ⟨gd, 0, none⟩) 0 cd) 0 []) (hne2 : g2 ≠ gd) :
    Calls Yba.prog 20 #[.pointer (some ⟨sb, 0, none⟩), .slice (some ⟨gd, 0, none⟩) 0 cd] w fun e w' => ∃ g' c', e = .returned (.slice (some ⟨g', 0, none⟩) (n1 + n2) c') ∧ w'.ownsRow 0 26 20 (.slice (some ⟨g', 0, none⟩) (n1 + n2) c') (n1 + n2) ((ms ++ rs).flatMap idc) ∧ w.grownBy w' (some gd) ∧ (g' = gd ∨ w.heap.size ≤ g') := by
  have hsd : sb ≠ gd := by
    rintro rfl
    rcases hd.2 with ⟨e, _⟩ | ⟨g, cap, cur, e, _, hg, _⟩
    · cases e
    · cases e
      rw [hset] at hg
      simp at hg
  have hlt2 : g2 < w.heap.size := (Array.getElem?_eq_some_iff.1 hr2).1
  go_enter Yba.func20, Yba.ntmps20
  go_upto_region 1 with fail
  refine wp_region_held (S := fun w' : World => w'.heap[sb]? = some (.cells (setc (.slice (some ⟨g1, 0, none⟩) n1 c1) (.slice (some ⟨g2, 0, none⟩) n2 c2)).toArray 34 (0, 0))) (by kernel_rfl) ?_
  have hS : (fun w' : World => w'.heap[sb]? = some (.cells (setc (.slice (some ⟨g1, 0, none⟩) n1 c1) (.slice (some ⟨g2, 0, none⟩) n2 c2)).toArray 34 (0, 0))) { w with drawn := w.drawn + 1 } := hset
  refine any_take 0 (some 5) (.slice (some ⟨gd, 0, none⟩) 0 cd) rfl rfl (by kernel_rfl) (by kernel_rfl) (by kernel_rfl) (fun _ _ _ h => h) (.inl ⟨by kernel_rfl, fun _ _ => by kernel_rfl⟩) (by assumption) ?_
  simp only [Act.put, List.setIfInBounds_toArray, List.set_cons_zero, List.set_cons_succ]
  refine any_take 1 (some 6) (.pointer (some ⟨sb, 0, none⟩)) rfl rfl (by kernel_rfl) (by kernel_rfl) (by kernel_rfl) (fun _ _ _ h => h) (.inl ⟨by kernel_rfl, fun _ _ => by kernel_rfl⟩) (by assumption) ?_
  simp only [Act.put, List.setIfInBounds_toArray, List.set_cons_zero, List.set_cons_succ]
  refine any_take 2 (some 7) (.pointer (some ⟨sb, 0, none⟩)) rfl rfl (by kernel_rfl) (by kernel_rfl) (by kernel_rfl) (fun _ _ _ h => h) (.inl ⟨by kernel_rfl, fun _ _ => by kernel_rfl⟩) (by assumption) ?_
  simp only [Act.put, List.setIfInBounds_toArray, List.set_cons_zero, List.set_cons_succ]
  refine any_take 3 (some 8) (.pointer (some ⟨sb, 24, none⟩)) rfl rfl (by kernel_rfl) (by kernel_rfl) (by kernel_rfl) (fun _ _ _ h => h) (.inl ⟨by kernel_rfl, fun _ _ => by kernel_rfl⟩) (by assumption) ?_
  simp only [Act.put, List.setIfInBounds_toArray, List.set_cons_zero, List.set_cons_succ]
  refine any_take 4 (some 9) (.slice (some ⟨g1, 0, none⟩) n1 c1) rfl rfl (by kernel_rfl) (by kernel_rfl) (by kernel_rfl) (fun _ _ _ h => h) (yld_cell (by kernel_rfl) 31 (.tmp 8) rfl sb 24 (by kernel_rfl) _ 34 (fun w' e => e) _ Yba.underlying31 rfl _ (setc_ids _ _)) (by assumption) ?_
  simp only [Act.put, List.setIfInBounds_toArray, List.set_cons_zero, List.set_cons_succ]
  refine any_take 6 (some 11) (.pointer (some ⟨sb, 0, none⟩)) rfl rfl (by kernel_rfl) (by kernel_rfl) (by kernel_rfl) (fun _ _ _ h => h) (.inl ⟨by kernel_rfl, fun _ _ => by kernel_rfl⟩) (by assumption) ?_
  simp only [Act.put, List.setIfInBounds_toArray, List.set_cons_zero, List.set_cons_succ]
  refine any_take 7 (some 12) (.pointer (some ⟨sb, 0, none⟩)) rfl rfl (by kernel_rfl) (by kernel_rfl) (by kernel_rfl) (fun _ _ _ h => h) (.inl ⟨by kernel_rfl, fun _ _ => by kernel_rfl⟩) (by assumption) ?_
  simp only [Act.put, List.setIfInBounds_toArray, List.set_cons_zero, List.set_cons_succ]
  refine any_take 8 (some 13) (.pointer (some ⟨sb, 26, none⟩)) rfl rfl (by kernel_rfl) (by kernel_rfl) (by kernel_rfl) (fun _ _ _ h => h) (.inl ⟨by kernel_rfl, fun _ _ => by kernel_rfl⟩) (by assumption) ?_
  simp only [Act.put, List.setIfInBounds_toArray, List.set_cons_zero, List.set_cons_succ]
  refine any_take 9 (some 14) (.slice (some ⟨g2, 0, none⟩) n2 c2) rfl rfl (by kernel_rfl) (by kernel_rfl) (by kernel_rfl) (fun _ _ _ h => h) (yld_cell (by kernel_rfl) 31 (.tmp 13) rfl sb 26 (by kernel_rfl) _ 34 (fun w' e => e) _ Yba.underlying31 rfl _ (setc_ref _ _)) (by assumption) ?_
  simp only [Act.put, List.setIfInBounds_toArray, List.set_cons_zero, List.set_cons_succ]
  have hw0 : w.grownBy { w with drawn := w.drawn + 1 } none := grown_drew w
  have hd0 := own_kept hd hw0 (by simp)
  have hr10 := hr1.kept hw0 (by simp)
  have hr20 := hr2.kept hw0 (by simp)
  have hsz0 : ({ w with drawn := w.drawn + 1 } : World).heap.size = w.heap.size := rfl
  generalize ({ w with drawn := w.drawn + 1 } : World) = w0 at *
  refine any_app 5 (some 10) rfl rfl (by kernel_rfl) (by kernel_rfl) Yba.underlying31 info26 rfl (by omega) (by omega) (.tmp 5) (.tmp 9) rfl (.slice (some ⟨gd, 0, none⟩) 0 cd) 0 [] (by kernel_rfl) hd0 g1 n1 c1 (ms.flatMap idc) (by kernel_rfl) (by rw [flat_len idc_len, h1]) hr10.cells (flat_one idc_one ms) (by omega) ?_
  intro v1 w1 hown1 hgr1 hnil1 hat1
  obtain ⟨g3, c3, rfl⟩ := own_some hown1 (fun h => by simpa using (hnil1.1 h))
  simp only [Value.ownBlock, Option.some.injEq] at hgr1 hat1
  have hS1 := keep_blk hgr1 hS (by simpa using hsd)
  have hr21 := hr20.kept hgr1 (by simpa using hne2)
  refine ⟨hS1, ?_⟩
  simp only [Act.put, List.setIfInBounds_toArray, List.set_cons_zero, List.set_cons_succ]
  refine any_app 10 (some 15) rfl rfl (by kernel_rfl) (by kernel_rfl) Yba.underlying31 info26 rfl (by omega) (by omega) (.tmp 10) (.tmp 14) rfl (.slice (some ⟨g3, 0, none⟩) (0 + n1) c3) (0 + n1) _ (by kernel_rfl) hown1 g2 n2 c2 (rs.flatMap idc) (by kernel_rfl) (by rw [flat_len idc_len, h2]) hr21.cells (flat_one idc_one rs) (by omega) ?_
  intro v2 w2 hown2 hgr2 hnil2 hat2
  obtain ⟨g4, c4, rfl⟩ := own_some hown2 (fun h => by simpa using (hnil2.1 h))
  simp only [Value.ownBlock, Option.some.injEq] at hgr2 hat2
  have hs1 := hgr1.size
  have hbd : gd < w.heap.size := (own_base hd rfl).2
  have hslt : sb < w.heap.size := (Array.getElem?_eq_some_iff.1 hset).1
  have hS2 := keep_blk hgr2 hS1 (by simp; omega)
  refine ⟨hS2, ?_⟩
  simp only [Act.put, List.setIfInBounds_toArray, List.set_cons_zero, List.set_cons_succ]
  refine any_take 11 (some 4) (.slice (some ⟨g4, 0, none⟩) (0 + n1 + n2) c4) rfl rfl (by kernel_rfl) (by kernel_rfl) (by kernel_rfl) (fun _ _ _ h => h) (.inl ⟨by kernel_rfl, fun _ _ => by kernel_rfl⟩) (by assumption) ?_
  simp only [Act.put, List.setIfInBounds_toArray, List.set_cons_zero, List.set_cons_succ]
  refine wpAnyH_done (by kernel_rfl) ?_ _
  go_wp2_with fail
  refine bodyPost_ret (v := .slice (some ⟨g4, 0, none⟩) (0 + n1 + n2) c4) (by kernel_rfl) rfl ?_
  simp only [Nat.zero_add, List.nil_append, ← List.flatMap_append] at hown2 ⊢
  refine ⟨g4, c4, rfl, hown2, grown_step (grown_step (grown_trans (row := some gd) ⟨hw0.os, hw0.tape, hw0.output, hw0.size, fun q hq _ => hw0.block q hq (by simp)⟩ (World.grownBy.refl w0 _)) hgr1 (fun q hq => .inl hq)) hgr2 (fun q hq => ?_), ?_⟩
  · cases hq; rcases hat1 with h | h
    · left; rw [h]
    · right; omega
  · rcases hat2 with h | h <;> rcases hat1 with h' | h' <;> omega

/-! ### What was heard last of a node -/
def hearF (x : Int) (acc : Tid × Bool) (t : Tid) : Tid × Bool := if t.n = x then (t, true) else acc
def hear (hs : List Tid) (x : Int) : Tid × Bool := hs.foldl (hearF x) (tid0, false)
theorem hear_take (hs : List Tid) (x : Int) {j : Nat} {t : Tid} (h : hs[j]? = some t) : hear (hs.take (j + 1)) x = if t.n = x then (t, true) else hear (hs.take j) x := by
  have e : hs.take (j + 1) = hs.take j ++ [t] := by
    obtain ⟨hj, rfl⟩ := List.getElem?_eq_some_iff.1 h
    simp
  rw [e, hear, List.foldl_append]
  rfl

theorem alloc45 (w : World) : (Instr.alloc 45 true (.tuple #[])).run Yba.prog w = .ok (.pointer (some ⟨w.heap.size, 0, none⟩)) (w.alloc (.cells (tc tid0).toArray 45)) := by kernel_rfl
theorem wpList_alloc45 {ops : Array Oper} {rest : List Oper} {op : Oper} {a : Act} {w : World} {Q : Exit → Act → World → Prop} (hgd : op.guard = none) (ho : op.op = .alloc 45)
    (h : wpList Yba.prog ops Q rest (a.put op.dst (.pointer (some ⟨w.heap.size, 0, none⟩))) (w.alloc (.cells (tc tid0).toArray 45))) : wpList Yba.prog ops Q (op :: rest) a w := by
  refine wpList_plain hgd fun K hK => ?_
  unfold Oper.wp execOp
  simp only [ho, Sem.run_bind, alloc45, Result.andThen_ok, Sem.run_pure]
  exact hK _ _ h
theorem build45z (w : World) : (Instr.build 45 #[]).run Yba.prog w = .ok (.agg (tc tid0).toArray) w := by kernel_rfl
theorem wpList_build45z {ops : Array Oper} {rest : List Oper} {op : Oper} {a : Act} {w : World} {Q : Exit → Act → World → Prop} (hgd : op.guard = none) (ho : op.op = .build 45 #[])
    (h : wpList Yba.prog ops Q rest (a.put op.dst (.agg (tc tid0).toArray)) w) : wpList Yba.prog ops Q (op :: rest) a w := by
  refine wpList_plain hgd fun K hK => ?_
  unfold Oper.wp execOp
  simp only [ho, List.map_toArray, List.map_nil, Sem.run_bind, build45z, Result.andThen_ok, Sem.run_pure]
  exact hK _ _ h
theorem wpList_index {ops : Array Oper} {rest : List Oper} {op : Oper} {a : Act} {w : World} {Q : Exit → Act → World → Prop} (hgd : op.guard = none) {t e : TypeId} {i : TypeInfo} {sz : Nat} (x y : Operand) (ho : op.op = .indexAddr t x y) (ht : Yba.prog.underlying t = some (.slice e)) (hi : Yba.prog.info? e = some i) (hsz : i.size = sz) (g n c k : Nat) (hk : k < n) (hx : a.eval x = .slice (some ⟨g, 0, none⟩) n c) (hy : a.eval y = .int .i64 (k : Int))
    (h : wpList Yba.prog ops Q rest (a.put op.dst (.pointer (some ⟨g, k * sz, none⟩))) w) : wpList Yba.prog ops Q (op :: rest) a w :=
  wpList_exec hgd _ (exec_index x y ho ht hi hsz g n c k hk hx hy) h
theorem newsc_heard (h : Value) : (newsc h)[1]? = some h := rfl

set_option maxRecDepth 100000 in
theorem heard_any {w : World} {nb g n c : Nat} {hs : List Tid} {x : Int} (hn : hs.length = n) (hm : n ≤ 65536) (hnews : w.heap[nb]? = some (.cells (newsc (.slice (some ⟨g, 0, none⟩) n c)).toArray 41 (0, 0))) (hr : ∀ i t, hs[i]? = some t → w.rangeAt g (i * 23) (tc t)) (hb : 0 < n → g < w.heap.size) :
    Calls Yba.prog 21 #[.pointer (some ⟨nb, 0, none⟩), .int .i64 x] w fun e w' => e = .returned (.tuple #[.agg (tc (hear hs x).1).toArray, .bool (hear hs x).2]) ∧ w.grownBy w' none := by
  obtain ⟨ti, hti, _, hts, _⟩ := info_parts info45
  go_enter Yba.func21, Yba.ntmps21
  go_upto_region 1 with (refine wpList_is (.alloc 45) rfl ?_; refine wpList_alloc45 rfl rfl ?_)
  have hg1 : w.grownBy (w.alloc (.cells (tc tid0).toArray 45)) none := World.grownBy_alloc _ _ none
  have hnews1 := keep_blk hg1 hnews (by simp)
  have hrb : (w.alloc (.cells (tc tid0).toArray 45)).heap[w.heap.size]? = some (.cells (tc tid0).toArray 45 (0, 0)) := heap_alloc_new w _
  have hr1 : ∀ i t, hs[i]? = some t → (w.alloc (.cells (tc tid0).toArray 45)).rangeAt g (i * 23) (tc t) := fun i t hx => range_keep hg1 (hr i t hx) (hb (by have := (List.getElem?_eq_some_iff.1 hx).1; omega)) (by simp)
  have hs1 : (w.alloc (.cells (tc tid0).toArray 45)).heap.size = w.heap.size + 1 := by simp
  generalize w.alloc (.cells (tc tid0).toArray 45) = w1 at *
  have hfin : ∀ (w2 : World) (t : Tid), w1.grownBy w2 (some w.heap.size) → w.grownBy w2 none := fun w2 t k => grown_step hg1 k (fun q hq => by cases hq; exact .inr (Nat.le_refl _))
  have hn' : (n : Int) ≤ 65536 := by omega
  go_wp2_with (refine wpList_is (.load 37 (.tmp 9)) rfl ?_; refine wpList_load_cell rfl 37 (.tmp 9) rfl nb 1 rfl _ _ hnews1 _ Yba.underlying37 rfl _ (newsc_heard _) ?_)
  go_loopg [6] n (fun g v wr => ∃ j : Nat, j = g ∧ j ≤ n ∧ v = .int .i64 ((j : Int) - 1) ∧ wr = w1 ∧ hear hs x = hear (hs.take j) x)
  case atStart => exact ⟨n, rfl, Nat.le_refl _, by go_num, rfl, by rw [← hn, List.take_length]⟩
  case round =>
    obtain ⟨j, hj, hjn, rfl, hwr, he⟩ := hrel
    subst hwr
    subst hj
    cases j with
    | zero =>
      go_wp2_with (first
        | (refine wpList_is (.build 45 #[]) rfl ?_; refine wpList_build45z rfl rfl ?_)
        | (refine wpList_is (.store 45 (.tmp 4) (.tmp 34)) rfl ?_; refine wpList_store_blk rfl 45 (.tmp 4) (.tmp 34) rfl w.heap.size (tc tid0) rfl rfl _ _ hrb rfl (size45 _) (tc_one _) ?_; intro w2 hb2 hg2))
      have hld := run_load_blk (P := Yba.prog) hb2 Yba.underlying45 rfl (size45 tid0)
      refine bodyPost_ret (v := .tuple #[.agg (tc tid0).toArray, .bool false]) ?_ rfl ⟨?_, hfin w2 tid0 hg2⟩
      · simp only [results, Yba.results21]
        simp [asAddr, Result.andThen, Act.put, hld]
      · rw [he]; rfl
    | succ k =>
      obtain ⟨t, ht⟩ : ∃ t, hs[k]? = some t := ⟨_, List.getElem?_eq_getElem (by omega)⟩
      have hrt := hr1 k t ht
      have hcell : wr.cell? ⟨g, k * 23 + 20, none⟩ = some (.int .i64 t.n) := hrt 20 _ rfl
      have ek : ((k + 1 : Nat) : Int) - 1 = (k : Int) := by omega
      have hkn : (k : Int) < (n : Int) := by omega
      simp only [ek]
      rw [hear_take hs x ht] at he
      by_cases htx : t.n = x
      · subst htx
        rw [if_pos rfl] at he
        clear ek
        go_wp2_with (first
          | (refine wpList_is (.load 37 (.tmp 19)) rfl ?_; refine wpList_load_cell rfl 37 (.tmp 19) rfl nb 1 rfl _ _ hnews1 _ Yba.underlying37 rfl _ (newsc_heard _) ?_)
          | (refine wpList_is (.indexAddr 37 (.tmp 20) (.tmp 21)) rfl ?_; refine wpList_index rfl (.tmp 20) (.tmp 21) rfl Yba.underlying37 hti hts g n c k (by omega) rfl rfl ?_)
          | (refine wpList_is (.load 37 (.tmp 29)) rfl ?_; refine wpList_load_cell rfl 37 (.tmp 29) rfl nb 1 rfl _ _ hnews1 _ Yba.underlying37 rfl _ (newsc_heard _) ?_)
          | (refine wpList_is (.indexAddr 37 (.tmp 30) (.tmp 31)) rfl ?_; refine wpList_index rfl (.tmp 30) (.tmp 31) rfl Yba.underlying37 hti hts g n c k (by omega) rfl rfl ?_)
          | (refine wpList_is (.load 45 (.tmp 32)) rfl ?_; refine wpList_load_mid rfl 45 (.tmp 32) rfl g (k * 23) rfl (tc t) _ hrt Yba.underlying45 rfl (size45 t) ?_)
          | (refine wpList_is (.store 45 (.tmp 4) (.tmp 33)) rfl ?_; refine wpList_store_blk rfl 45 (.tmp 4) (.tmp 33) rfl w.heap.size (tc t) rfl rfl _ _ hrb rfl (size45 _) (tc_one _) ?_; intro w2 hb2 hg2))
        have hld := run_load_blk (P := Yba.prog) hb2 Yba.underlying45 rfl (size45 t)
        refine bodyPost_ret (v := .tuple #[.agg (tc t).toArray, .bool true]) ?_ rfl ⟨?_, hfin w2 t hg2⟩
        · simp only [results, Yba.results21]
          simp [asAddr, Result.andThen, Act.put, hld]
        · rw [he]
      · rw [if_neg htx] at he
        have hne : ¬ (t.n = x) := htx
        clear ek
        go_wp2_with (first
          | (refine wpList_is (.load 37 (.tmp 19)) rfl ?_; refine wpList_load_cell rfl 37 (.tmp 19) rfl nb 1 rfl _ _ hnews1 _ Yba.underlying37 rfl _ (newsc_heard _) ?_)
          | (refine wpList_is (.indexAddr 37 (.tmp 20) (.tmp 21)) rfl ?_; refine wpList_index rfl (.tmp 20) (.tmp 21) rfl Yba.underlying37 hti hts g n c k (by omega) rfl rfl ?_))
        go_roundg k
        case measure => omega
        case rel => exact ⟨k, rfl, by omega, by go_num, rfl, he⟩

end Go.Proofs.Ybulkdspq
