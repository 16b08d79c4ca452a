/-
  LawS5970AWhole: the walk of Push (12).
-/
import Derived.Test.YbulkdspqAReg2
import Derived.Test.YbulkdspqAReg9
namespace Go.Proofs.Ybulkdspq
open Go.RowKit
set_option linter.unusedSimpArgs false
set_option linter.unusedVariables false

/-- The word about a byte's node. -/
def wd8 (hs : List Tid) (b : Int) : Int := word (hear hs (n8 b)).1.r (hear hs (n8 b)).2

/-- Push's memory as it begins. -/
structure PP (w : World) (fb nb sb lb cb tb ib mb vb g1 n1 g2 n2 gh nh np I N V A : Nat) (ms rs : List Int) (hs : List Tid) (nf x1 x2 x3 x4 : Value) : Prop where
  l1 : ms.length = n1
  l2 : rs.length = n2
  lh : hs.length = nh
  small : n1 + n2 + nh + np ≤ 8192
  set : w.heap[sb]? = some (.cells (setc (.slice (some ⟨g1, 0, none⟩) n1 n1) (.slice (some ⟨g2, 0, none⟩) n2 n2)).toArray 34 (0, 0))
  b1 : Blk idc w g1 26 ms
  b2 : Blk idc w g2 26 rs
  news : w.heap[nb]? = some (.cells (newsc (.slice (some ⟨gh, 0, none⟩) nh nh)).toArray 41 (0, 0))
  bh : Blk tc w gh 45 hs
  fan : w.heap[fb]? = some (.cells (fanc (.func (.func 8) #[] #[.pointer (some ⟨lb, 0, none⟩)]) nf (.slice (some ⟨I, 0, none⟩) np np) (.slice (some ⟨N, 0, none⟩) np np) (.slice (some ⟨V, 0, none⟩) np np) (.slice (some ⟨A, 0, none⟩) np np)).toArray 53 (0, 0))
  o1 : w.ownsRow 0 26 20 (.slice (some ⟨I, 0, none⟩) 0 np) 0 []
  o2 : w.ownsRow 0 3 1 (.slice (some ⟨N, 0, none⟩) 0 np) 0 []
  o3 : w.ownsRow 0 54 1 (.slice (some ⟨V, 0, none⟩) 0 np) 0 []
  oa : w.ownsRow 0 26 20 (.slice (some ⟨A, 0, none⟩) 0 np) 0 []
  log : w.heap[lb]? = some (.cells [.slice none 0 0].toArray 31 (0, 0))
  c : w.heap[cb]? = some (.cells [.int .i64 0].toArray 3 (0, 0))
  t : w.heap[tb]? = some (.cells [x1].toArray 3 (0, 0))
  i : w.heap[ib]? = some (.cells [x2].toArray 31 (0, 0))
  m : w.heap[mb]? = some (.cells [x3].toArray 38 (0, 0))
  v : w.heap[vb]? = some (.cells [x4].toArray 51 (0, 0))
  ne1 : lb ≠ ib ∧ cb ≠ tb ∧ N ≠ cb ∧ N ≠ tb
  ne2 : I ≠ A ∧ I ≠ g1 ∧ I ≠ g2 ∧ A ≠ g1 ∧ A ≠ g2
  wf1 : ∀ b ∈ ms, (Lit.int .u8 b).wf = true

/-- What Push may change. -/
def PS (fb lb I N V A : Nat) (q : Nat) : Prop := q = fb ∨ q = lb ∨ q = I ∨ q = N ∨ q = V ∨ q = A

/-- The state of Push's loop. -/
structure PI (w wr : World) (fb lb I N V A A' cA : Nat) (nf : Value) (m : Nat) (W : List Int) (hs : List Tid) (sB sf : Int) (i j : Nat) (I' d1 N' d2 V' d3 : Nat) (lv : Value) : Prop where
  fan : wr.heap[fb]? = some (.cells (fanc (.func (.func 8) #[] #[.pointer (some ⟨lb, 0, none⟩)]) nf (.slice (some ⟨I', 0, none⟩) (i + 1) d1) (.slice (some ⟨N', 0, none⟩) (i + 1) d2) (.slice (some ⟨V', 0, none⟩) (i + 1) d3) (.slice (some ⟨A', 0, none⟩) m cA)).toArray 53 (0, 0))
  o1 : wr.ownsRow 0 26 20 (.slice (some ⟨I', 0, none⟩) (i + 1) d1) (i + 1) ((sB :: W.take i).flatMap idc)
  o2 : wr.ownsRow 0 3 1 (.slice (some ⟨N', 0, none⟩) (i + 1) d2) (i + 1) ((sf :: (W.take i).map n8).flatMap ic)
  o3 : wr.ownsRow 0 54 1 (.slice (some ⟨V', 0, none⟩) (i + 1) d3) (i + 1) ((0 :: (W.take i).map (wd8 hs)).flatMap vc)
  oa : wr.ownsRow 0 26 20 (.slice (some ⟨A', 0, none⟩) m cA) m (W.flatMap idc)
  log : wr.heap[lb]? = some (.cells [lv].toArray 31 (0, 0))
  ol : wr.ownsRow 0 26 20 lv j ((W.take j).flatMap idc)
  sep : I' ≠ A' ∧ lv.ownBlock ≠ some A' ∧ lv.ownBlock ≠ some I'
  old : (I' = I ∨ w.heap.size ≤ I') ∧ (N' = N ∨ w.heap.size ≤ N') ∧ (V' = V ∨ w.heap.size ≤ V') ∧ (A' = A ∨ w.heap.size ≤ A') ∧ ∀ q, lv.ownBlock = some q → w.heap.size ≤ q
  chg : Chg (PS fb lb I N V A) w wr
def PIx (w wr : World) (fb lb I N V A A' cA : Nat) (nf : Value) (m : Nat) (W : List Int) (hs : List Tid) (sB sf : Int) (i : Nat) : Prop := ∃ I' d1 N' d2 V' d3 lv, PI w wr fb lb I N V A A' cA nf m W hs sB sf i i I' d1 N' d2 V' d3 lv

/-- What Push leaves behind. -/
def Pushed (w w' : World) (fb lb cb tb ib mb vb I N V A m : Nat) (W : List Int) (hs : List Tid) (sB sf succ : Int) : Prop :=
  ∃ g1 c1 g2 c2 g3 c3 lv, w'.heap[cb]? = some (.cells [.int .i64 1].toArray 3 (0, 0)) ∧ w'.heap[tb]? = some (.cells [.int .i64 succ].toArray 3 (0, 0)) ∧ w'.heap[ib]? = some (.cells [.slice (some ⟨g1, 0, none⟩) (m + 1) c1].toArray 31 (0, 0)) ∧ w'.heap[mb]? = some (.cells [.slice (some ⟨g2, 0, none⟩) (m + 1) c2].toArray 38 (0, 0)) ∧ w'.heap[vb]? = some (.cells [.slice (some ⟨g3, 0, none⟩) (m + 1) c3].toArray 51 (0, 0)) ∧
    w'.ownsRow 0 26 20 (.slice (some ⟨g1, 0, none⟩) (m + 1) c1) (m + 1) ((sB :: W).flatMap idc) ∧ w'.ownsRow 0 3 1 (.slice (some ⟨g2, 0, none⟩) (m + 1) c2) (m + 1) ((sf :: W.map n8).flatMap ic) ∧ w'.ownsRow 0 54 1 (.slice (some ⟨g3, 0, none⟩) (m + 1) c3) (m + 1) ((0 :: W.map (wd8 hs)).flatMap vc) ∧
    w'.heap[lb]? = some (.cells [lv].toArray 31 (0, 0)) ∧ w'.ownsRow 0 26 20 lv m (W.flatMap idc) ∧ Chg (fun q => PS fb lb I N V A q ∨ q = cb ∨ q = tb ∨ q = ib ∨ q = mb ∨ q = vb) w w'

theorem ne_or {x y z H : Nat} (h : x = y ∨ H ≤ x) (h1 : y ≠ z) (h2 : z < H) : x ≠ z := by omega
theorem own_ne {g n c r : Nat} (h : g ≠ r) : ∀ q, (Value.slice (some ⟨g, 0, none⟩) n c).ownBlock = some q → some r ≠ some q := fun q hq e => by cases hq; cases e; exact h rfl
theorem some_ne {g r : Nat} (h : g ≠ r) : some g ≠ some r := fun e => by cases e; exact h rfl
theorem Chg.blk {S : Nat → Prop} {w w' : World} {α : Type} {f : α → List Value} {g : Nat} {e : TypeId} {xs : List α} (h : Chg S w w') (hb : Blk f w g e xs) (hn : ¬ S g) : Blk f w' g e xs := h.keep hb hn


section
variable {w wr w1 w2 : World} {fb lb I N V A A' cA m i j I' d1 N' d2 V' d3 : Nat} {nf lv lv' : Value} {W : List Int} {hs : List Tid} {sB sf : Int}
theorem PI.kept (h : PI w wr fb lb I N V A A' cA nf m W hs sB sf i j I' d1 N' d2 V' d3 lv) (k : wr.grownBy w1 none) : PI w w1 fb lb I N V A A' cA nf m W hs sB sf i j I' d1 N' d2 V' d3 lv :=
  ⟨keep_blk k h.fan (by simp), own_kept h.o1 k (by simp), own_kept h.o2 k (by simp), own_kept h.o3 k (by simp), own_kept h.oa k (by simp), keep_blk k h.log (by simp), own_kept h.ol k (by simp), h.sep, h.old, h.chg.grown k (by simp)⟩
theorem PI.logged (h : PI w wr fb lb I N V A A' cA nf m W hs sB sf i j I' d1 N' d2 V' d3 lv) {b : Int} (hb : W[j]? = some b) (hl : w2.heap[lb]? = some (.cells [lv'].toArray 31 (0, 0))) (ho : w2.ownsRow 0 26 20 lv' (j + 1) ((W.take j ++ [b]).flatMap idc)) (hc : Chg (fun q => q = lb ∨ lv.ownBlock = some q) wr w2)
    (hv : lv'.ownBlock = lv.ownBlock ∨ ∃ q, lv'.ownBlock = some q ∧ wr.heap.size ≤ q) : PI w w2 fb lb I N V A A' cA nf m W hs sB sf i (j + 1) I' d1 N' d2 V' d3 lv' := by
  have hsz := h.chg.size
  obtain ⟨s1, s2, s3⟩ := h.sep
  have n1 : ¬ (fb = lb ∨ lv.ownBlock = some fb) := by
    rintro (e | e)
    · exact blk_ne h.fan h.log (by decide) e
    · rcases h.ol.2 with ⟨rfl, _⟩ | ⟨g, cap, cur, rfl, _, hg, _⟩
      · cases e
      · cases e; exact blk_ne hg h.fan (by decide) rfl
  have n2 : ∀ {e size g n c : Nat} {xs : List Value}, wr.ownsRow 0 e size (.slice (some ⟨g, 0, none⟩) n c) n xs → e ≠ 31 → (e ≠ 26 ∨ lv.ownBlock ≠ some g) → ∀ q, (Value.slice (some ⟨g, 0, none⟩) n c).ownBlock = some q → ¬ (q = lb ∨ lv.ownBlock = some q) := by
    intro e size g n c xs ho he h2 q hq
    cases hq
    obtain ⟨_, hg⟩ := own_blk ho
    rintro (e' | e')
    · exact blk_ne hg h.log he e'
    · rcases h2 with h2 | h2
      · rcases h.ol.2 with ⟨rfl, _⟩ | ⟨g', cap, cur, rfl, _, hg', _⟩
        · cases e'
        · cases e'; exact blk_ne hg hg' h2 rfl
      · exact h2 e'
  have e : W.take (j + 1) = W.take j ++ [b] := by obtain ⟨hj, rfl⟩ := List.getElem?_eq_some_iff.1 hb; simp
  have bI : I' < wr.heap.size := (own_base h.o1 rfl).2
  have bA : A' < wr.heap.size := (own_base h.oa rfl).2
  refine ⟨hc.keep h.fan n1, hc.own h.o1 (n2 h.o1 (by decide) (.inr s3)), hc.own h.o2 (n2 h.o2 (by decide) (.inl (by decide))), hc.own h.o3 (n2 h.o3 (by decide) (.inl (by decide))), hc.own h.oa (n2 h.oa (by decide) (.inr s2)), hl, by rw [e]; exact ho, ⟨s1, ?_, ?_⟩, ⟨h.old.1, h.old.2.1, h.old.2.2.1, h.old.2.2.2.1, ?_⟩, ?_⟩
  · rcases hv with hv | ⟨q, hv, hq⟩
    · rw [hv]; exact s2
    · rw [hv]; intro e; cases e; omega
  · rcases hv with hv | ⟨q, hv, hq⟩
    · rw [hv]; exact s3
    · rw [hv]; intro e; cases e; omega
  · intro q hq
    rcases hv with hv | ⟨q', hv, hq'⟩
    · exact h.old.2.2.2.2 q (hv ▸ hq)
    · rw [hv] at hq; cases hq; omega
  · refine h.chg.trans hc (fun q e => ?_)
    rcases e with e | e
    · left; right; left; exact e
    · right; exact h.old.2.2.2.2 q e
theorem PI.done (h : PI w wr fb lb I N V A A' cA nf m W hs sB sf i (i + 1) I' d1 N' d2 V' d3 lv) {b : Int} (hb : W[i]? = some b) {fn : Value}
    (hd : Done3 wr w2 fb (.func (.func 8) #[] #[.pointer (some ⟨lb, 0, none⟩)]) nf (.slice (some ⟨A', 0, none⟩) m cA) I' N' V' (i + 1) ((sB :: W.take i).flatMap idc) ((sf :: (W.take i).map n8).flatMap ic) ((0 :: (W.take i).map (wd8 hs)).flatMap vc) b (n8 b) (wd8 hs b)) : PIx w w2 fb lb I N V A A' cA nf m W hs sB sf (i + 1) := by
  obtain ⟨I2, f1, N2, f2, V2, f3, hf, p1, p2, p3, l1, l2, l3, hc⟩ := hd
  obtain ⟨s1, s2, s3⟩ := h.sep
  have hsz := h.chg.size
  have e : W.take (i + 1) = W.take i ++ [b] := by obtain ⟨hj, rfl⟩ := List.getElem?_eq_some_iff.1 hb; simp
  have bA : A' < wr.heap.size := (own_base h.oa rfl).2
  have bl : ∀ q, lv.ownBlock = some q → q < wr.heap.size := fun q hq => (own_base h.ol hq).2
  obtain ⟨_, bI⟩ := own_blk h.o1
  obtain ⟨_, bN⟩ := own_blk h.o2
  obtain ⟨_, bV⟩ := own_blk h.o3
  obtain ⟨_, bAA⟩ := own_blk h.oa
  have nA : ¬ (A' = fb ∨ A' = I' ∨ A' = N' ∨ A' = V') := by
    rintro (e | e | e | e)
    · exact blk_ne bAA h.fan (by decide) e
    · exact s1 e.symm
    · exact blk_ne bAA bN (by decide) e
    · exact blk_ne bAA bV (by decide) e
  have nl : ¬ (lb = fb ∨ lb = I' ∨ lb = N' ∨ lb = V') := by
    rintro (e | e | e | e)
    · exact blk_ne h.log h.fan (by decide) e
    · exact blk_ne h.log bI (by decide) e
    · exact blk_ne h.log bN (by decide) e
    · exact blk_ne h.log bV (by decide) e
  have nlv : ∀ q, lv.ownBlock = some q → ¬ (q = fb ∨ q = I' ∨ q = N' ∨ q = V') := by
    intro q hq
    rcases h.ol.2 with ⟨rfl, _⟩ | ⟨g', cap, cur, rfl, _, hg', _⟩
    · cases hq
    · cases hq
      rintro (e | e | e | e)
      · exact blk_ne hg' h.fan (by decide) e
      · exact s3 (by rw [← e]; rfl)
      · exact blk_ne hg' bN (by decide) e
      · exact blk_ne hg' bV (by decide) e
  refine ⟨I2, f1, N2, f2, V2, f3, lv, hf, ?_, ?_, ?_, hc.own h.oa (fun q hq => by cases hq; exact nA), hc.keep h.log nl, hc.own h.ol nlv, ⟨?_, s2, ?_⟩, ⟨?_, ?_, ?_, h.old.2.2.2.1, h.old.2.2.2.2⟩, ?_⟩
  · rw [e]; simpa using p1
  · rw [e]; simpa using p2
  · rw [e]; simpa using p3
  · rcases l1 with l | l
    · rw [l]; exact s1
    · intro e; omega
  · rcases l1 with l | l
    · rw [l]; exact s3
    · intro e; have := bl _ e; omega
  · rcases l1 with l | l
    · rw [l]; exact h.old.1
    · right; omega
  · rcases l2 with l | l
    · rw [l]; exact h.old.2.1
    · right; omega
  · rcases l3 with l | l
    · rw [l]; exact h.old.2.2.1
    · right; omega
  · refine h.chg.trans hc (fun q e => ?_)
    rcases e with e | e | e | e
    · left; left; exact e
    · rw [e]; rcases h.old.1 with l | l
      · left; right; right; left; exact l
      · right; exact l
    · rw [e]; rcases h.old.2.1 with l | l
      · left; right; right; right; left; exact l
      · right; exact l
    · rw [e]; rcases h.old.2.2.1 with l | l
      · left; right; right; right; right; left; exact l
      · right; exact l
end

theorem PP.not {w : World} {fb nb sb lb cb tb ib mb vb g1 n1 g2 n2 gh nh np I N V A : Nat} {ms rs : List Int} {hs : List Tid} {nf x1 x2 x3 x4 : Value} (p : PP w fb nb sb lb cb tb ib mb vb g1 n1 g2 n2 gh nh np I N V A ms rs hs nf x1 x2 x3 x4) {q : Nat} {c : Array Value} {t : TypeId} (hq : w.heap[q]? = some (.cells c t (0, 0))) (h1 : t ≠ 53) (h2 : t ≠ 31 ∨ q ≠ lb) (h3 : t ≠ 26) (h4 : t ≠ 3 ∨ q ≠ N) (h5 : t ≠ 54) : ¬ PS fb lb I N V A q := by
  obtain ⟨_, bI⟩ := own_blk p.o1
  obtain ⟨_, bN⟩ := own_blk p.o2
  obtain ⟨_, bV⟩ := own_blk p.o3
  obtain ⟨_, bA⟩ := own_blk p.oa
  rintro (h | h | h | h | h | h)
  · exact blk_ne hq p.fan h1 h
  · exact h2.elim (fun h2 => blk_ne hq p.log h2 h) (fun h2 => h2 h)
  · exact blk_ne hq bI h3 h
  · exact h4.elim (fun h4 => blk_ne hq bN h4 h) (fun h4 => h4 h)
  · exact blk_ne hq bV h5 h
  · exact blk_ne hq bA h3 h

set_option maxRecDepth 1000000 in
set_option maxHeartbeats 8000000 in
theorem push_any {w : World} {fb nb sb lb cb tb ib mb vb g1 n1 g2 n2 gh nh np I N V A : Nat} {ms rs : List Int} {hs : List Tid} {nf x1 x2 x3 x4 : Value} (p : PP w fb nb sb lb cb tb ib mb vb g1 n1 g2 n2 gh nh np I N V A ms rs hs nf x1 x2 x3 x4) {sB sf succ uB : Int} (hu : (Lit.int .u8 uB).wf = true) :
    Calls Yba.prog 12 #[.pointer (some ⟨fb, 0, none⟩), .pointer (some ⟨nb, 0, none⟩), .pointer (some ⟨sb, 0, none⟩), .int .i64 sf, .agg (idc sB).toArray, .int .i64 succ, .agg (idc uB).toArray, .func (.func 9) #[] #[.pointer (some ⟨cb, 0, none⟩), .pointer (some ⟨tb, 0, none⟩), .pointer (some ⟨ib, 0, none⟩), .pointer (some ⟨mb, 0, none⟩), .pointer (some ⟨vb, 0, none⟩)]] w
      fun e w' => (∃ v, e = .returned v) ∧ ((hands ms uB = false ∧ w.grownBy w' none) ∨ (hands ms uB = true ∧ Pushed w w' fb lb cb tb ib mb vb I N V A (n1 + n2) (ms ++ rs) hs sB sf succ)) := by
  have hsm := p.small
  go_enter Yba.func12, Yba.ntmps12
  go_upto_region 1 with (first
    | (refine wpList_is (.box 26 (.tmp 4)) rfl ?_; refine wpList_box26 rfl (.tmp 4) rfl sB rfl ?_)
    | (refine wpList_is (.box 26 (.tmp 6)) rfl ?_; refine wpList_box26 rfl (.tmp 6) rfl uB rfl ?_))
  have k0 : w.grownBy ((w.alloc (.cells (idc sB).toArray 26)).alloc (.cells (idc uB).toArray 26)) none := grown_trans (World.grownBy_alloc _ _ none) (World.grownBy_alloc _ _ none)
  have h12 : ((w.alloc (.cells (idc sB).toArray 26)).alloc (.cells (idc uB).toArray 26)).heap[w.heap.size]? = some (.cells (idc sB).toArray 26 (0, 0)) := blk_alloc (heap_alloc_new w _) _
  have h14 : ((w.alloc (.cells (idc sB).toArray 26)).alloc (.cells (idc uB).toArray 26)).heap[w.heap.size + 1]? = some (.cells (idc uB).toArray 26 (0, 0)) := blk_new _ _ _ _ (by simp)
  have hsz0 : ((w.alloc (.cells (idc sB).toArray 26)).alloc (.cells (idc uB).toArray 26)).heap.size = w.heap.size + 2 := by simp
  generalize (w.alloc (.cells (idc sB).toArray 26)).alloc (.cells (idc uB).toArray 26) = u0 at *
  go_wp2_with (refine wpList_is (.load 26 (.tmp 14)) rfl ?_; refine wpList_load_blk rfl 26 (.tmp 14) rfl (w.heap.size + 1) rfl (idc uB) 26 h14 _ Yba.underlying26 rfl (size26 uB) ?_)
  have lg1 : g1 < w.heap.size := (Array.getElem?_eq_some_iff.1 p.b1).1
  have lg2 : g2 < w.heap.size := (Array.getElem?_eq_some_iff.1 p.b2).1
  refine (hands_any p.l1 (keep_blk k0 p.set (by simp)) (fun i x hx => (p.b1.kept k0 (by simp)).range idc_len hx) (fun _ => by omega) p.wf1 hu).mono ?_
  rintro e u1 ⟨rfl, k1'⟩
  have k1 : w.grownBy u1 none := grown_trans k0 k1'
  have h12a := keep_blk k1' h12 (by simp)
  have hs1 := k1'.size
  clear k1' h12 h14
  by_cases hh : hands ms uB = false
  · simp only [hh]
    go_wp2_with fail
    refine bodyPost_ret (v := .tuple #[]) (by kernel_rfl) rfl ⟨⟨_, rfl⟩, .inl ⟨?_, k1⟩⟩
    first | rfl | exact hh
  · have hh' : hands ms uB = true := by simpa using hh
    simp only [hh']
    clear hh
    go_upto_region 2 with fail
    have hlv : ∀ q, q < w.heap.size → q < u1.heap.size := fun q hq => by omega
    have lI : I < w.heap.size := (own_base p.o1 rfl).2
    have lA : A < w.heap.size := (own_base p.oa rfl).2
    have lN : N < w.heap.size := (own_base p.o2 rfl).2
    have lV : V < w.heap.size := (own_base p.o3 rfl).2
    have lf : fb < w.heap.size := (Array.getElem?_eq_some_iff.1 p.fan).1
    have ll : lb < w.heap.size := (Array.getElem?_eq_some_iff.1 p.log).1
    refine reg2 fb w.heap.size np I N V _ nf _ sB sf u1 (keep_blk k1 p.fan (by simp)) h12a (own_kept p.o1 k1 (by simp)) (own_kept p.o2 k1 (by simp)) (own_kept p.o3 k1 (by simp)) (by omega) _ _ _ _ _ _ _ _ _ _ _ _ _ _ _ _ _ _ _ _ _ _ _ _ _ _ _ _ _ _ _ _ _ _ _ _ _ _ _ _ _ _ _ _ _ _ _ _ _ _ _ _ _ _ _ _ _ _ _ _ _ _ _ _ _ _ _ _ _ _ _ _ _ _ _ _ _ _ _ _ _ _ _ _ _ _ _ _ _ _ _ _ _ _ _ _ _ _ _ _ _ _ _ _ _ _ _ _ _ _ _ _ _ _ _ _ _ _ _ _ _ _ _ _ _ _ _ _ _ _ _ _ _ (fun c a d v w h => by cases d <;> exact h) ?_
    intro u2 t25 t26 t27 t28 t29 t30 t31 t32 t33 t34 t35 t36 t37 t38 t39 t40 t41 t42 t43 t44 t45 t46 t47 t48 t49 t50 t51 t52 t53 t54 t55 t56 hd
    obtain ⟨I', d1, N', d2, V', d3, hf2, q1, q2, q3, m1, m2, m3, hc2⟩ := hd
    have hc0 : Chg (PS fb lb I N V A) w u2 := ((Chg.refl _ w).grown k1 (by simp)).grown (grown_drew u1) (by simp) |>.trans hc2 (fun q e => by unfold PS; rcases e with h | h | h | h <;> simp [h])
    have hs2 : u1.heap.size ≤ u2.heap.size := hc2.size
    replace m1 : I' = I ∨ u1.heap.size ≤ I' := m1
    replace m2 : N' = N ∨ u1.heap.size ≤ N' := m2
    replace m3 : V' = V ∨ u1.heap.size ≤ V' := m3
    have nps : ∀ (q : Nat) (c : Array Value) (t : TypeId), w.heap[q]? = some (.cells c t (0, 0)) → t ≠ 53 → t ≠ 31 → t ≠ 26 → t ≠ 3 → t ≠ 54 → ¬ PS fb lb I N V A q := by
      intro q c t hq h1 h2 h3 h4 h5 hP
      obtain ⟨_, bI⟩ := own_blk p.o1
      obtain ⟨_, bN⟩ := own_blk p.o2
      obtain ⟨_, bV⟩ := own_blk p.o3
      obtain ⟨_, bA⟩ := own_blk p.oa
      rcases hP with h | h | h | h | h | h
      · exact blk_ne hq p.fan h1 h
      · exact blk_ne hq p.log h2 h
      · exact blk_ne hq bI h3 h
      · exact blk_ne hq bN h4 h
      · exact blk_ne hq bV h5 h
      · exact blk_ne hq bA h3 h
    have nfl : fb ≠ lb := blk_ne p.fan p.log (by decide)
    have nfI : fb ≠ I := by obtain ⟨_, b⟩ := own_blk p.o1; exact blk_ne p.fan b (by decide)
    have nfN : fb ≠ N := by obtain ⟨_, b⟩ := own_blk p.o2; exact blk_ne p.fan b (by decide)
    have nfV : fb ≠ V := by obtain ⟨_, b⟩ := own_blk p.o3; exact blk_ne p.fan b (by decide)
    have nfA : fb ≠ A := by obtain ⟨_, b⟩ := own_blk p.oa; exact blk_ne p.fan b (by decide)
    have nlI : lb ≠ I := by obtain ⟨_, b⟩ := own_blk p.o1; exact blk_ne p.log b (by decide)
    have nlN : lb ≠ N := by obtain ⟨_, b⟩ := own_blk p.o2; exact blk_ne p.log b (by decide)
    have nlV : lb ≠ V := by obtain ⟨_, b⟩ := own_blk p.o3; exact blk_ne p.log b (by decide)
    have nlA : lb ≠ A := by obtain ⟨_, b⟩ := own_blk p.oa; exact blk_ne p.log b (by decide)
    have nAN : A ≠ N := by obtain ⟨_, b⟩ := own_blk p.oa; obtain ⟨_, b'⟩ := own_blk p.o2; exact blk_ne b b' (by decide)
    have nAV : A ≠ V := by obtain ⟨_, b⟩ := own_blk p.oa; obtain ⟨_, b'⟩ := own_blk p.o3; exact blk_ne b b' (by decide)
    have gps : ∀ q, Blk idc w q 26 ms ∨ Blk idc w q 26 rs → q ≠ I → q ≠ A → ¬ PS fb lb I N V A q := by
      intro q hq h1 h2 hP
      obtain ⟨c, hq'⟩ : ∃ c, w.heap[q]? = some (.cells c 26 (0, 0)) := hq.elim (fun h => ⟨_, h⟩) (fun h => ⟨_, h⟩)
      obtain ⟨_, bN⟩ := own_blk p.o2
      obtain ⟨_, bV⟩ := own_blk p.o3
      rcases hP with h | h | h | h | h | h
      · exact blk_ne hq' p.fan (by decide) h
      · exact blk_ne hq' p.log (by decide) h
      · exact h1 h
      · exact blk_ne hq' bN (by decide) h
      · exact blk_ne hq' bV (by decide) h
      · exact h2 h
    obtain ⟨nIA, nIg1, nIg2, nAg1, nAg2⟩ := p.ne2
    have ng1 : ¬ PS fb lb I N V A g1 := gps g1 (.inl p.b1) (Ne.symm nIg1) (Ne.symm nAg1)
    have ng2 : ¬ PS fb lb I N V A g2 := gps g2 (.inr p.b2) (Ne.symm nIg2) (Ne.symm nAg2)
    have nsb := nps sb _ _ p.set (by decide) (by decide) (by decide) (by decide) (by decide)
    have nnb := nps nb _ _ p.news (by decide) (by decide) (by decide) (by decide) (by decide)
    have ngh := nps gh _ _ p.bh (by decide) (by decide) (by decide) (by decide) (by decide)
    have oa2 : u2.ownsRow 0 26 20 (.slice (some ⟨A, 0, none⟩) 0 np) 0 [] := hc2.own (own_kept (own_kept p.oa k1 (by simp)) (grown_drew u1) (by simp)) (fun q hq => by cases hq; exact fun e => e.elim (fun h => nfA h.symm) (fun e => e.elim (fun h => nIA h.symm) (fun e => e.elim (fun h => nAN h) (fun h => nAV h))))
    have log2 : u2.heap[lb]? = some (.cells [.slice none 0 0].toArray 31 (0, 0)) := hc2.keep (keep_blk (grown_drew u1) (keep_blk k1 p.log (by simp)) (by simp)) (fun e => e.elim (fun h => nfl h.symm) (fun e => e.elim (fun h => nlI h) (fun e => e.elim (fun h => nlN h) (fun h => nlV h))))
    obtain ⟨i26, hi26, _, hsz26, _⟩ := info_parts info26
    clear h12a
    go_wp2_with (first
      | (refine wpList_is (.load 31 (.tmp 61)) rfl ?_; refine wpList_load_cell rfl 31 (.tmp 61) rfl fb 5 rfl _ _ hf2 _ Yba.underlying31 rfl (.slice (some ⟨A, 0, none⟩) np np) rfl ?_)
      | (refine wpList_is (.slice 31 (.tmp 62) none (some (.const (.int .i64 0))) none) rfl ?_; refine wpList_exec rfl _ (exec_slice0 (.tmp 62) rfl Yba.underlying31 hi26 A np np rfl) ?_))
    refine (watched_any p.l1 p.l2 (by omega) (hc0.keep p.set nsb) (hc0.blk p.b1 ng1) (hc0.blk p.b2 ng2) oa2 (Ne.symm nAg2)).mono ?_
    rintro e u3 ⟨A', cA, rfl, oa3, k3, lA'⟩
    have hs3 := k3.size
    go_upto_region 4 with (refine wpList_is (.store 31 (.tmp 66) (.tmp 64)) rfl ?_; refine wpList_store_cell rfl 31 (.tmp 66) (.tmp 64) rfl fb 5 (.slice (some ⟨A', 0, none⟩) (n1 + n2) cA) rfl rfl _ _ (keep_blk k3 hf2 (by simpa using nfA)) size31 (by simp [fanc]) rfl (fanc (.func (.func 8) #[] #[.pointer (some ⟨lb, 0, none⟩)]) nf (.slice (some ⟨I', 0, none⟩) (0 + 1) d1) (.slice (some ⟨N', 0, none⟩) (0 + 1) d2) (.slice (some ⟨V', 0, none⟩) (0 + 1) d3) (.slice (some ⟨A', 0, none⟩) (n1 + n2) cA)) rfl ?_; intro u4 hf4 k4)
    have hI'A : I' ≠ A := ne_or m1 nIA (hlv A lA)
    have hk1 := k1.size
    have hpi : PIx w u4 fb lb I N V A A' cA nf (n1 + n2) (ms ++ rs) hs sB sf 0 := by
      have nI' : I' ≠ fb := by obtain ⟨_, b⟩ := own_blk q1; exact blk_ne b hf2 (by decide)
      have nN' : N' ≠ fb := by obtain ⟨_, b⟩ := own_blk q2; exact blk_ne b hf2 (by decide)
      have nV' : V' ≠ fb := by obtain ⟨_, b⟩ := own_blk q3; exact blk_ne b hf2 (by decide)
      have nN'A : N' ≠ A := by obtain ⟨_, b⟩ := own_blk q2; obtain ⟨_, b'⟩ := own_blk oa2; exact blk_ne b b' (by decide)
      have nV'A : V' ≠ A := by obtain ⟨_, b⟩ := own_blk q3; obtain ⟨_, b'⟩ := own_blk oa2; exact blk_ne b b' (by decide)
      have bI' : I' < u2.heap.size := (own_base q1 rfl).2
      have nA' : A' ≠ fb := by obtain ⟨_, b⟩ := own_blk oa3; exact blk_ne b (keep_blk k3 hf2 (by simpa using nfA)) (by decide)
      have ini1 : ((sB :: (ms ++ rs).take 0).flatMap idc) = [] ++ idc sB := by simp
      have ini2 : ((sf :: ((ms ++ rs).take 0).map n8).flatMap ic) = [] ++ ic sf := by simp
      have ini3 : ((0 :: ((ms ++ rs).take 0).map (wd8 hs)).flatMap vc) = [] ++ vc 0 := by simp
      refine ⟨I', d1, N', d2, V', d3, .slice none 0 0, hf4, ?_, ?_, ?_, ?_, ?_, ?_, ?_, ?_, ?_⟩
      · rw [ini1]; exact own_kept (own_kept q1 k3 (own_ne hI'A)) k4 (own_ne nI')
      · rw [ini2]; exact own_kept (own_kept q2 k3 (own_ne nN'A)) k4 (own_ne nN')
      · rw [ini3]; exact own_kept (own_kept q3 k3 (own_ne nV'A)) k4 (own_ne nV')
      · exact own_kept oa3 k4 (own_ne nA')
      · exact keep_blk k4 (keep_blk k3 log2 (some_ne nlA)) (some_ne (Ne.symm nfl))
      · exact World.ownsRow_nil u4 0 26 20
      · exact ⟨(ne_or lA' (Ne.symm hI'A) bI').symm, by simp [Value.ownBlock], by simp [Value.ownBlock]⟩
      · exact ⟨m1.imp id (fun h => Nat.le_trans hk1 h), m2.imp id (fun h => Nat.le_trans hk1 h), m3.imp id (fun h => Nat.le_trans hk1 h), lA'.imp id (fun h => Nat.le_trans (Nat.le_trans hk1 hs2) h), fun q hq => by simp [Value.ownBlock] at hq⟩
      · exact (hc0.grown k3 (fun q e => by cases e; exact .inl (by simp [PS]))).grown k4 (fun q e => by cases e; exact .inl (by simp [PS]))
    clear oa2 log2 oa3 hf2 q1 q2 q3 m1 m2 m3 hc2 hc0 nps gps nfl nfI nfN nfV nfA nlI nlN nlV nlA nAN nAV nIA nIg1 nIg2 nAg1 nAg2 hI'A lA' k3 k4 hs3 hs2 hk1 hs1 hlv k0 hsz0 ng1 ng2 nsb
    have hW : (ms ++ rs).length = n1 + n2 := by rw [List.length_append, p.l1, p.l2]
    obtain ⟨i45, hi45, _, hsz45, _⟩ := info_parts info45
    have pnews := p.news
    have pbh := p.bh
    have plh := p.lh
    have psend : w.heap[cb]? = some (.cells [.int .i64 0].toArray 3 (0, 0)) ∧ w.heap[tb]? = some (.cells [x1].toArray 3 (0, 0)) ∧ w.heap[ib]? = some (.cells [x2].toArray 31 (0, 0)) ∧ w.heap[mb]? = some (.cells [x3].toArray 38 (0, 0)) ∧ w.heap[vb]? = some (.cells [x4].toArray 51 (0, 0)) := ⟨p.c, p.t, p.i, p.m, p.v⟩
    have HP : Hid (PP w fb nb sb lb cb tb ib mb vb g1 n1 g2 n2 gh nh np I N V A ms rs hs nf x1 x2 x3 x4) := p
    clear p
    go_wp2_with (refine wpList_is (.load 31 (.tmp 69)) rfl ?_; refine wpList_load_cell rfl 31 (.tmp 69) rfl fb 5 rfl _ _ hf4 _ Yba.underlying31 rfl (.slice (some ⟨A', 0, none⟩) (n1 + n2) cA) rfl ?_)
    clear hf4
    go_loopg [72] (n1 + n2) (fun g v wr => ∃ i : Nat, i + g = n1 + n2 ∧ v = .int .i64 i ∧ PIx w wr fb lb I N V A A' cA nf (n1 + n2) (ms ++ rs) hs sB sf i)
    case atStart => exact ⟨0, by omega, rfl, hpi⟩
    case round =>
      clear hpi
      obtain ⟨i, hi, rfl, hP⟩ := hrel
      obtain ⟨I', d1, N', d2, V', d3, lv, h⟩ := hP
      by_cases him : i < n1 + n2
      · obtain ⟨b, hb⟩ : ∃ b, (ms ++ rs)[i]? = some b := ⟨_, List.getElem?_eq_getElem (by omega)⟩
        have him' : (i : Int) < ((n1 + n2 : Nat) : Int) := by omega
        have hr := own_range h.oa idc_len hb
        have H0 : Hid (PI w wr fb lb I N V A A' cA nf (n1 + n2) (ms ++ rs) hs sB sf i i I' d1 N' d2 V' d3 lv) := h
        clear h
        go_upto_region 6 with fail
        go_upto_region 7 with (first
          | (refine wpList_is (.indexAddr 31 (.tmp 70) (.tmp 72)) rfl ?_; refine wpList_index rfl (.tmp 70) (.tmp 72) rfl Yba.underlying31 hi26 hsz26 A' (n1 + n2) cA i him rfl rfl ?_)
          | (refine wpList_is (.load 26 (.tmp 74)) rfl ?_; refine wpList_load_mid rfl 26 (.tmp 74) rfl A' (i * 20) rfl (idc b) _ hr Yba.underlying26 rfl (size26 b) ?_)
          | (refine wpList_is (.alloc 26) rfl ?_; refine wpList_alloc26 rfl rfl ?_)
          | (refine wpList_is (.store 26 (.tmp 17) (.tmp 75)) rfl ?_; refine wpList_store_blk rfl 26 (.tmp 17) (.tmp 75) rfl wr.heap.size (idc b) rfl rfl _ _ (blk_new _ _ _ _ rfl) rfl (size26 b) (idc_one b) ?_; intro v1 hb1 kk1))
        have h1 : PI w v1 fb lb I N V A A' cA nf (n1 + n2) (ms ++ rs) hs sB sf i i I' d1 N' d2 V' d3 lv := PI.kept H0 (grown_new kk1)
        have bp : ∀ q, q < wr.heap.size → q ≠ wr.heap.size := fun q hq => by omega
        have bI : I' < wr.heap.size := (own_base (PI.o1 H0) rfl).2
        have blv : ∀ q, lv.ownBlock = some q → q < wr.heap.size := fun q hq => (own_base (PI.ol H0) hq).2
        have bsz : wr.heap.size < v1.heap.size := by have := kk1.size; simp at this; omega
        have blb : lb < wr.heap.size := (Array.getElem?_eq_some_iff.1 (PI.log H0)).1
        clear H0 kk1 hr
        have h1d : PI w { v1 with drawn := v1.drawn + 1 } fb lb I N V A A' cA nf (n1 + n2) (ms ++ rs) hs sB sf i i I' d1 N' d2 V' d3 lv := h1.kept (grown_drew v1)
        have hb1d : ({ v1 with drawn := v1.drawn + 1 } : World).heap[wr.heap.size]? = some (.cells (idc b).toArray 26 (0, 0)) := hb1
        have bsz' : wr.heap.size < ({ v1 with drawn := v1.drawn + 1 } : World).heap.size := bsz
        refine wp_region_held (S := fun w' : World => w'.heap[fb]? = some (.cells (fanc (.func (.func 8) #[] #[.pointer (some ⟨lb, 0, none⟩)]) nf (.slice (some ⟨I', 0, none⟩) (i + 1) d1) (.slice (some ⟨N', 0, none⟩) (i + 1) d2) (.slice (some ⟨V', 0, none⟩) (i + 1) d3) (.slice (some ⟨A', 0, none⟩) (n1 + n2) cA)).toArray 53 (0, 0)) ∧ w'.heap[wr.heap.size]? = some (.cells (idc b).toArray 26 (0, 0))) (by kernel_rfl) ?_
        clear h1 hb1 bsz
        generalize ({ v1 with drawn := v1.drawn + 1 } : World) = v1 at *
        have hS : (fun w' : World => w'.heap[fb]? = some (.cells (fanc (.func (.func 8) #[] #[.pointer (some ⟨lb, 0, none⟩)]) nf (.slice (some ⟨I', 0, none⟩) (i + 1) d1) (.slice (some ⟨N', 0, none⟩) (i + 1) d2) (.slice (some ⟨V', 0, none⟩) (i + 1) d3) (.slice (some ⟨A', 0, none⟩) (n1 + n2) cA)).toArray 53 (0, 0)) ∧ w'.heap[wr.heap.size]? = some (.cells (idc b).toArray 26 (0, 0))) v1 := ⟨h1d.fan, hb1d⟩
        refine any_take 0 (some 76) (.pointer (some ⟨fb, 0, none⟩)) rfl rfl (by kernel_rfl) (by kernel_rfl) (by kernel_rfl) (fun _ _ _ h => h) (.inl ⟨by kernel_rfl, fun _ _ => by kernel_rfl⟩) (by assumption) ?_
        simp only [Act.put, List.setIfInBounds_toArray, List.set_cons_zero, List.set_cons_succ]
        refine any_take 1 (some 77) (.pointer (some ⟨fb, 0, none⟩)) rfl rfl (by kernel_rfl) (by kernel_rfl) (by kernel_rfl) (fun _ _ _ h => h) (.inl ⟨by kernel_rfl, fun _ _ => by kernel_rfl⟩) (by assumption) ?_
        simp only [Act.put, List.setIfInBounds_toArray, List.set_cons_zero, List.set_cons_succ]
        refine any_take 2 (some 78) (.pointer (some ⟨fb, 0, none⟩)) rfl rfl (by kernel_rfl) (by kernel_rfl) (by kernel_rfl) (fun _ _ _ h => h) (.inl ⟨by kernel_rfl, fun _ _ => by kernel_rfl⟩) (by assumption) ?_
        simp only [Act.put, List.setIfInBounds_toArray, List.set_cons_zero, List.set_cons_succ]
        refine any_take 3 (some 79) (.func (.func 8) #[] #[.pointer (some ⟨lb, 0, none⟩)]) rfl rfl (by kernel_rfl) (by kernel_rfl) (by kernel_rfl) (fun _ _ _ h => h) (yld_cell (by kernel_rfl) 49 (.tmp 78) rfl fb 0 (by kernel_rfl) _ 53 (fun w' e => e.1) _ Yba.underlying49 rfl _ rfl) (by assumption) ?_
        simp only [Act.put, List.setIfInBounds_toArray, List.set_cons_zero, List.set_cons_succ]
        refine any_take 4 (some 80) (.agg (idc b).toArray) rfl rfl (by kernel_rfl) (by kernel_rfl) (by kernel_rfl) (fun _ _ _ h => h) (yld_blk (by kernel_rfl) 26 (.tmp 17) rfl wr.heap.size (by kernel_rfl) (idc b) 26 (fun w' e => e.2) _ Yba.underlying26 rfl (size26 b)) (by assumption) ?_
        simp only [Act.put, List.setIfInBounds_toArray, List.set_cons_zero, List.set_cons_succ]
        refine any_call 5 (some 81) 8 #[.agg (idc b).toArray, .pointer (some ⟨lb, 0, none⟩)] rfl rfl (by kernel_rfl) (by kernel_rfl) (by kernel_rfl) ?_
        refine (node_any h1d.log h1d.ol (by omega)).mono ?_
        rintro e v2 ⟨rfl, lv', hl', ho', hc', hv'⟩
        have h2 : PI w v2 fb lb I N V A A' cA nf (n1 + n2) (ms ++ rs) hs sB sf i (i + 1) I' d1 N' d2 V' d3 lv' := PI.logged h1d hb hl' ho' hc' hv'
        have hb2 : v2.heap[wr.heap.size]? = some (.cells (idc b).toArray 26 (0, 0)) := hc'.keep hb1d (fun e => e.elim (fun e => by omega) (fun e => by have := blv _ e; omega))
        have bsz2 : wr.heap.size < v2.heap.size := Nat.lt_of_lt_of_le bsz' hc'.size
        refine ⟨_, rfl, ⟨h2.fan, hb2⟩, ?_⟩
        simp only [Act.put, List.setIfInBounds_toArray, List.set_cons_zero, List.set_cons_succ]
        clear hS h1d hb1d bsz' hl' ho' hc' hv'
        have hS : (fun w' : World => w'.heap[fb]? = some (.cells (fanc (.func (.func 8) #[] #[.pointer (some ⟨lb, 0, none⟩)]) nf (.slice (some ⟨I', 0, none⟩) (i + 1) d1) (.slice (some ⟨N', 0, none⟩) (i + 1) d2) (.slice (some ⟨V', 0, none⟩) (i + 1) d3) (.slice (some ⟨A', 0, none⟩) (n1 + n2) cA)).toArray 53 (0, 0)) ∧ w'.heap[wr.heap.size]? = some (.cells (idc b).toArray 26 (0, 0))) v2 := ⟨h2.fan, hb2⟩
        refine any_take 6 (some 18) (.int .i64 (n8 b)) rfl rfl (by kernel_rfl) (by kernel_rfl) (by kernel_rfl) (fun _ _ _ h => h) (.inl ⟨by kernel_rfl, fun _ _ => by kernel_rfl⟩) (by assumption) ?_
        simp only [Act.put, List.setIfInBounds_toArray, List.set_cons_zero, List.set_cons_succ]
        refine wpAnyH_done (by kernel_rfl) ?_ _
        clear hS
        have hn2 := h2.chg.keep pnews nnb
        have hr2 := h2.chg.blk pbh ngh
        have lgh : gh < v2.heap.size := (Array.getElem?_eq_some_iff.1 hr2).1
        have H2 : Hid (PI w v2 fb lb I N V A A' cA nf (n1 + n2) (ms ++ rs) hs sB sf i (i + 1) I' d1 N' d2 V' d3 lv') := h2
        clear h2
        go_wp2_with fail
        refine (heard_any plh (by omega) hn2 (fun i t ht => hr2.range tc_len ht) (fun _ => lgh)).mono ?_
        rintro e v3 ⟨rfl, k3⟩
        have hb3 := keep_blk k3 hb2 (by simp)
        have h3 : PI w v3 fb lb I N V A A' cA nf (n1 + n2) (ms ++ rs) hs sB sf i (i + 1) I' d1 N' d2 V' d3 lv' := PI.kept H2 k3
        clear H2 hn2 hr2 lgh hb2 k3
        have H3 : Hid (PI w v3 fb lb I N V A A' cA nf (n1 + n2) (ms ++ rs) hs sB sf i (i + 1) I' d1 N' d2 V' d3 lv') := h3
        clear h3
        go_upto_region 9 with (first
          | (refine wpList_is (.alloc 45) rfl ?_; refine wpList_alloc45 rfl rfl ?_)
          | (refine wpList_is (.store 45 (.tmp 19) (.tmp 86)) rfl ?_; refine wpList_store_blk rfl 45 (.tmp 19) (.tmp 86) rfl v3.heap.size (tc (hear hs (n8 b)).1) rfl rfl _ _ (blk_new _ _ _ _ rfl) rfl (size45 _) (tc_one _) ?_; intro v4 hb4 k4))
        have k4' := grown_new k4
        have h4 : PI w v4 fb lb I N V A A' cA nf (n1 + n2) (ms ++ rs) hs sB sf i (i + 1) I' d1 N' d2 V' d3 lv' := PI.kept H3 k4'
        refine reg9 fb wr.heap.size v3.heap.size (i + 1) d1 d2 d3 I' N' V' _ nf _ b (n8 b) (hear hs (n8 b)).1 (hear hs (n8 b)).2 _ _ _ v4 (by omega) h4.fan (keep_blk k4' hb3 (by simp)) hb4 h4.o1 h4.o2 h4.o3 (by omega) _ _ _ _ _ _ _ _ _ _ _ _ _ _ _ _ _ _ _ _ _ _ _ _ _ _ _ _ _ _ _ _ _ _ _ _ _ _ _ _ _ _ _ _ _ _ _ _ _ _ _ _ _ _ _ _ _ _ _ _ _ _ _ _ _ _ _ _ _ _ _ _ _ _ _ _ _ _ _ _ _ _ _ _ _ _ _ _ _ _ _ _ _ _ _ _ _ _ _ _ _ _ _ _ _ _ _ _ _ _ _ _ _ _ _ _ _ _ _ _ _ _ _ _ _ _ _ _ _ _ _ (fun c a d v w h => by cases d <;> exact h) ?_
        intro v5 t88 t89 t90 t91 t92 t93 t94 t95 t96 t97 t98 t99 t100 t101 t102 t103 t104 t105 t106 t107 t108 t109 t110 t111 t112 t113 t114 t115 t116 t117 t118 t119 hd
        have h4d : PI w { v4 with drawn := v4.drawn + 1 } fb lb I N V A A' cA nf (n1 + n2) (ms ++ rs) hs sB sf i (i + 1) I' d1 N' d2 V' d3 lv' := h4.kept (grown_drew v4)
        have h5 : PIx w v5 fb lb I N V A A' cA nf (n1 + n2) (ms ++ rs) hs sB sf (i + 1) := PI.done (fn := nf) h4d hb hd
        clear h4 h4d hd k4 k4' hb4 H3 hb3
        go_wp2_with fail
        go_roundg (n1 + n2 - (i + 1))
        case measure => omega
        case rel => exact ⟨i + 1, by omega, by go_num, h5⟩
      · have hin : n1 + n2 = i := by omega
        subst hin
        clear him hi
        have p : PP w fb nb sb lb cb tb ib mb vb g1 n1 g2 n2 gh nh np I N V A ms rs hs nf x1 x2 x3 x4 := HP
        obtain ⟨pc, pt, pi, pm, pv⟩ := psend
        obtain ⟨e1, e2, e3, e4⟩ := p.ne1
        have ncb : ¬ PS fb lb I N V A cb := p.not pc (by decide) (.inl (by decide)) (by decide) (.inr (Ne.symm e3)) (by decide)
        have ntb : ¬ PS fb lb I N V A tb := p.not pt (by decide) (.inl (by decide)) (by decide) (.inr (Ne.symm e4)) (by decide)
        have nib : ¬ PS fb lb I N V A ib := p.not pi (by decide) (.inr (Ne.symm e1)) (by decide) (.inl (by decide)) (by decide)
        have nmb : ¬ PS fb lb I N V A mb := p.not pm (by decide) (.inl (by decide)) (by decide) (.inl (by decide)) (by decide)
        have nvb : ¬ PS fb lb I N V A vb := p.not pv (by decide) (.inl (by decide)) (by decide) (.inl (by decide)) (by decide)
        have lc : cb < w.heap.size := (Array.getElem?_eq_some_iff.1 pc).1
        have lt : tb < w.heap.size := (Array.getElem?_eq_some_iff.1 pt).1
        have nN1 : N' ≠ cb := ne_or h.old.2.1 e3 lc
        have nN2 : N' ≠ tb := ne_or h.old.2.1 e4 lt
        have eW : (ms ++ rs).take (n1 + n2) = ms ++ rs := by rw [← hW, List.take_length]
        clear p e1 e3 e4 lc lt
        have H0 : Hid (PI w wr fb lb I N V A A' cA nf (n1 + n2) (ms ++ rs) hs sB sf (n1 + n2) (n1 + n2) I' d1 N' d2 V' d3 lv) := h
        clear h HP
        go_upto_region 11 with fail
        have h : PI w { wr with drawn := wr.drawn + 1 } fb lb I N V A A' cA nf (n1 + n2) (ms ++ rs) hs sB sf (n1 + n2) (n1 + n2) I' d1 N' d2 V' d3 lv := PI.kept H0 (grown_drew wr)
        refine wp_region_held (S := fun w' : World => w'.heap[fb]? = some (.cells (fanc (.func (.func 8) #[] #[.pointer (some ⟨lb, 0, none⟩)]) nf (.slice (some ⟨I', 0, none⟩) (n1 + n2 + 1) d1) (.slice (some ⟨N', 0, none⟩) (n1 + n2 + 1) d2) (.slice (some ⟨V', 0, none⟩) (n1 + n2 + 1) d3) (.slice (some ⟨A', 0, none⟩) (n1 + n2) cA)).toArray 53 (0, 0))) (by kernel_rfl) ?_
        clear H0
        generalize ({ wr with drawn := wr.drawn + 1 } : World) = wr at *
        have hS : (fun w' : World => w'.heap[fb]? = some (.cells (fanc (.func (.func 8) #[] #[.pointer (some ⟨lb, 0, none⟩)]) nf (.slice (some ⟨I', 0, none⟩) (n1 + n2 + 1) d1) (.slice (some ⟨N', 0, none⟩) (n1 + n2 + 1) d2) (.slice (some ⟨V', 0, none⟩) (n1 + n2 + 1) d3) (.slice (some ⟨A', 0, none⟩) (n1 + n2) cA)).toArray 53 (0, 0))) wr := h.fan
        refine any_take 0 (some 121) (.func (.func 9) #[] #[.pointer (some ⟨cb, 0, none⟩), .pointer (some ⟨tb, 0, none⟩), .pointer (some ⟨ib, 0, none⟩), .pointer (some ⟨mb, 0, none⟩), .pointer (some ⟨vb, 0, none⟩)]) rfl rfl (by kernel_rfl) (by kernel_rfl) (by kernel_rfl) (fun _ _ _ h => h) (.inl ⟨by kernel_rfl, fun _ _ => by kernel_rfl⟩) (by assumption) ?_
        simp only [Act.put, List.setIfInBounds_toArray, List.set_cons_zero, List.set_cons_succ]
        refine any_take 1 (some 122) (.int .i64 succ) rfl rfl (by kernel_rfl) (by kernel_rfl) (by kernel_rfl) (fun _ _ _ h => h) (.inl ⟨by kernel_rfl, fun _ _ => by kernel_rfl⟩) (by assumption) ?_
        simp only [Act.put, List.setIfInBounds_toArray, List.set_cons_zero, List.set_cons_succ]
        refine any_take 2 (some 123) (.pointer (some ⟨fb, 0, none⟩)) rfl rfl (by kernel_rfl) (by kernel_rfl) (by kernel_rfl) (fun _ _ _ h => h) (.inl ⟨by kernel_rfl, fun _ _ => by kernel_rfl⟩) (by assumption) ?_
        simp only [Act.put, List.setIfInBounds_toArray, List.set_cons_zero, List.set_cons_succ]
        refine any_take 3 (some 124) (.pointer (some ⟨fb, 0, none⟩)) rfl rfl (by kernel_rfl) (by kernel_rfl) (by kernel_rfl) (fun _ _ _ h => h) (.inl ⟨by kernel_rfl, fun _ _ => by kernel_rfl⟩) (by assumption) ?_
        simp only [Act.put, List.setIfInBounds_toArray, List.set_cons_zero, List.set_cons_succ]
        refine any_take 4 (some 125) (.pointer (some ⟨fb, 2, none⟩)) rfl rfl (by kernel_rfl) (by kernel_rfl) (by kernel_rfl) (fun _ _ _ h => h) (.inl ⟨by kernel_rfl, fun _ _ => by kernel_rfl⟩) (by assumption) ?_
        simp only [Act.put, List.setIfInBounds_toArray, List.set_cons_zero, List.set_cons_succ]
        refine any_take 5 (some 126) (.slice (some ⟨I', 0, none⟩) (n1 + n2 + 1) d1) rfl rfl (by kernel_rfl) (by kernel_rfl) (by kernel_rfl) (fun _ _ _ h => h) (yld_cell (by kernel_rfl) 31 (.tmp 125) rfl fb 2 (by kernel_rfl) _ 53 (fun w' e => e) _ Yba.underlying31 rfl _ rfl) (by assumption) ?_
        simp only [Act.put, List.setIfInBounds_toArray, List.set_cons_zero, List.set_cons_succ]
        refine any_take 6 (some 127) (.pointer (some ⟨fb, 0, none⟩)) rfl rfl (by kernel_rfl) (by kernel_rfl) (by kernel_rfl) (fun _ _ _ h => h) (.inl ⟨by kernel_rfl, fun _ _ => by kernel_rfl⟩) (by assumption) ?_
        simp only [Act.put, List.setIfInBounds_toArray, List.set_cons_zero, List.set_cons_succ]
        refine any_take 7 (some 128) (.pointer (some ⟨fb, 0, none⟩)) rfl rfl (by kernel_rfl) (by kernel_rfl) (by kernel_rfl) (fun _ _ _ h => h) (.inl ⟨by kernel_rfl, fun _ _ => by kernel_rfl⟩) (by assumption) ?_
        simp only [Act.put, List.setIfInBounds_toArray, List.set_cons_zero, List.set_cons_succ]
        refine any_take 8 (some 129) (.pointer (some ⟨fb, 3, none⟩)) rfl rfl (by kernel_rfl) (by kernel_rfl) (by kernel_rfl) (fun _ _ _ h => h) (.inl ⟨by kernel_rfl, fun _ _ => by kernel_rfl⟩) (by assumption) ?_
        simp only [Act.put, List.setIfInBounds_toArray, List.set_cons_zero, List.set_cons_succ]
        refine any_take 9 (some 130) (.slice (some ⟨N', 0, none⟩) (n1 + n2 + 1) d2) rfl rfl (by kernel_rfl) (by kernel_rfl) (by kernel_rfl) (fun _ _ _ h => h) (yld_cell (by kernel_rfl) 38 (.tmp 129) rfl fb 3 (by kernel_rfl) _ 53 (fun w' e => e) _ Yba.underlying38 rfl _ rfl) (by assumption) ?_
        simp only [Act.put, List.setIfInBounds_toArray, List.set_cons_zero, List.set_cons_succ]
        refine any_take 10 (some 131) (.pointer (some ⟨fb, 0, none⟩)) rfl rfl (by kernel_rfl) (by kernel_rfl) (by kernel_rfl) (fun _ _ _ h => h) (.inl ⟨by kernel_rfl, fun _ _ => by kernel_rfl⟩) (by assumption) ?_
        simp only [Act.put, List.setIfInBounds_toArray, List.set_cons_zero, List.set_cons_succ]
        refine any_take 11 (some 132) (.pointer (some ⟨fb, 0, none⟩)) rfl rfl (by kernel_rfl) (by kernel_rfl) (by kernel_rfl) (fun _ _ _ h => h) (.inl ⟨by kernel_rfl, fun _ _ => by kernel_rfl⟩) (by assumption) ?_
        simp only [Act.put, List.setIfInBounds_toArray, List.set_cons_zero, List.set_cons_succ]
        refine any_take 12 (some 133) (.pointer (some ⟨fb, 4, none⟩)) rfl rfl (by kernel_rfl) (by kernel_rfl) (by kernel_rfl) (fun _ _ _ h => h) (.inl ⟨by kernel_rfl, fun _ _ => by kernel_rfl⟩) (by assumption) ?_
        simp only [Act.put, List.setIfInBounds_toArray, List.set_cons_zero, List.set_cons_succ]
        refine any_take 13 (some 134) (.slice (some ⟨V', 0, none⟩) (n1 + n2 + 1) d3) rfl rfl (by kernel_rfl) (by kernel_rfl) (by kernel_rfl) (fun _ _ _ h => h) (yld_cell (by kernel_rfl) 51 (.tmp 133) rfl fb 4 (by kernel_rfl) _ 53 (fun w' e => e) _ Yba.underlying51 rfl _ rfl) (by assumption) ?_
        simp only [Act.put, List.setIfInBounds_toArray, List.set_cons_zero, List.set_cons_succ]
        refine any_call 14 (some 135) 9 #[.int .i64 succ, .slice (some ⟨I', 0, none⟩) (n1 + n2 + 1) d1, .slice (some ⟨N', 0, none⟩) (n1 + n2 + 1) d2, .slice (some ⟨V', 0, none⟩) (n1 + n2 + 1) d3, .pointer (some ⟨cb, 0, none⟩), .pointer (some ⟨tb, 0, none⟩), .pointer (some ⟨ib, 0, none⟩), .pointer (some ⟨mb, 0, none⟩), .pointer (some ⟨vb, 0, none⟩)] rfl rfl (by kernel_rfl) (by kernel_rfl) (by kernel_rfl) ?_
        refine (send_any (s := succ) (by omega) (h.chg.keep pc ncb) (h.chg.keep pt ntb) (h.chg.keep pi nib) (h.chg.keep pm nmb) (h.chg.keep pv nvb) e2 h.o1 h.o2 h.o3 ⟨nN1, nN2⟩ (flat_one idc_one _) (flat_one ic_one _) (flat_one vc_one _)).mono ?_
        rintro e w9 ⟨⟨v, rfl⟩, g1', c1', g2', c2', g3', c3', z1, z2, z3, z4, z5, r1, r2, r3, hc9⟩
        have nfs : ¬ (fb = cb ∨ fb = tb ∨ fb = ib ∨ fb = mb ∨ fb = vb) := by
          rintro (e | e | e | e | e)
          · exact blk_ne h.fan (h.chg.keep pc ncb) (by decide) e
          · exact blk_ne h.fan (h.chg.keep pt ntb) (by decide) e
          · exact blk_ne h.fan (h.chg.keep pi nib) (by decide) e
          · exact blk_ne h.fan (h.chg.keep pm nmb) (by decide) e
          · exact blk_ne h.fan (h.chg.keep pv nvb) (by decide) e
        have nls : ¬ (lb = cb ∨ lb = tb ∨ lb = ib ∨ lb = mb ∨ lb = vb) := by
          have p : PS fb lb I N V A lb := .inr (.inl rfl)
          rintro (e | e | e | e | e)
          · exact ncb (e ▸ p)
          · exact ntb (e ▸ p)
          · exact nib (e ▸ p)
          · exact nmb (e ▸ p)
          · exact nvb (e ▸ p)
        have nvs : ∀ q, lv.ownBlock = some q → ¬ (q = cb ∨ q = tb ∨ q = ib ∨ q = mb ∨ q = vb) := by
          intro q hq
          have hq' := h.old.2.2.2.2 q hq
          have lc : cb < w.heap.size := (Array.getElem?_eq_some_iff.1 pc).1
          have lt : tb < w.heap.size := (Array.getElem?_eq_some_iff.1 pt).1
          have li : ib < w.heap.size := (Array.getElem?_eq_some_iff.1 pi).1
          have lm : mb < w.heap.size := (Array.getElem?_eq_some_iff.1 pm).1
          have lv : vb < w.heap.size := (Array.getElem?_eq_some_iff.1 pv).1
          clear nN1 nN2 e2
          omega
        have hfin : Pushed w w9 fb lb cb tb ib mb vb I N V A (n1 + n2) (ms ++ rs) hs sB sf succ := by
          rw [eW] at r1 r2 r3
          have ol := hc9.own h.ol nvs
          rw [eW] at ol
          exact ⟨g1', c1', g2', c2', g3', c3', lv, z1, z2, z3, z4, z5, r1, r2, r3, hc9.keep h.log nls, ol, (h.chg.mono (fun q e => .inl e)).trans hc9 (fun q e => .inl (.inr e))⟩
        refine ⟨_, rfl, hc9.keep h.fan nfs, ?_⟩
        simp only [Act.put, List.setIfInBounds_toArray, List.set_cons_zero, List.set_cons_succ]
        refine wpAnyH_done (by kernel_rfl) ?_ _
        clear hS
        go_wp2_with fail
        exact bodyPost_end (v := .tuple #[]) (by kernel_rfl) rfl ⟨⟨_, rfl⟩, .inr ⟨by first | rfl | exact hh', hfin⟩⟩

end Go.Proofs.Ybulkdspq
