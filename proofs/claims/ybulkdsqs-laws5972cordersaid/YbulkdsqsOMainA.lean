/-
  LawS5972COrder: the states of the law's two loops.
-/
import Derived.Test.YbulkdsqsOHq
import Derived.Test.YbulkdsqsOWant
namespace Go.Proofs.Ybulkdsqs
open Go.RowKit Go.Sort
set_option linter.unusedSimpArgs false
set_option linter.unusedVariables false

theorem row_keep {S : Nat → Prop} {w w' : World} {b : Nat} {t : TypeId} {n : Nat} {f : Nat → Value} (c : Chg S w w') (h : w.rowIs b t n f) (hn : ¬ S b) : w'.rowIs b t n f := by
  refine h.of_block ?_
  have hlt := h.lt
  have e : w.heap[b]? = some w.heap[b] := Array.getElem?_eq_some_iff.2 ⟨hlt, rfl⟩
  rw [e]
  exact c.keep e hn
theorem Hv.keep {S : Nat → Prop} {w w' : World} {hb base : Nat} {v : Value} {A : Array Nat} (h : Hv w hb base v A) (c : Chg S w w') (h1 : ¬ S hb) (h2 : ∀ q, v.ownBlock = some q → ¬ S q) : Hv w' hb base v A := ⟨c.keep h.var h1, c.own h.own h2⟩
theorem own_low {w : World} {base : Nat} {e : TypeId} {size : Nat} {v : Value} {n : Nat} {xs : List Value} (h : w.ownsRow base e size v n xs) {q : Nat} (hq : v.ownBlock = some q) : base ≤ q ∧ q < w.heap.size := by
  rcases h.2 with ⟨rfl, _⟩ | ⟨g, cap, cur, rfl, hb, hg, _⟩
  · cases hq
  · cases hq
    exact ⟨hb, (Array.getElem?_eq_some_iff.1 hg).1⟩
/-- What is kept from w on: new blocks alone are written. -/
theorem grown_chg {w wr w' : World} {S : Nat → Prop} (h : w.grownBy wr none) (c : Chg S wr w') (hS : ∀ q, S q → w.heap.size ≤ q) : w.grownBy w' none :=
  ⟨c.os.trans h.os, c.tape.trans h.tape, c.output.trans h.output, Nat.le_trans h.size c.size, fun k hk _ => by
    have e := h.block k hk (by simp)
    have e2 : w.heap[k]? = some w.heap[k] := Array.getElem?_eq_some_iff.2 ⟨hk, rfl⟩
    rw [e2] at e ⊢
    exact c.keep e (fun hs => by have := hS k hs; omega)⟩

/-- A new wait's number. -/
def kup (kf : Nat → Int) (b : Nat) (z : Int) : Nat → Int := fun y => if y = b then z else kf y
theorem kup_ne {kf : Nat → Int} {b : Nat} {z : Int} {y : Nat} (h : y ≠ b) : kup kf b z y = kf y := if_neg h
theorem kup_eq {kf : Nat → Int} {b : Nat} {z : Int} : kup kf b z b = z := if_pos rfl

/-- The cell of a wait that may not be there yet. -/
def pcOr : Option Nat → Value
  | some b => pc b
  | none => .pointer none

/-- i waits are made and pushed. -/
structure M1 (w wr : World) (hb wsb n i : Nat) (Z : Nat → Int) (v : Value) (A : Array Nat) (xs : List Nat) (kf : Nat → Int) : Prop where
  bel : w.grownBy wr none
  hv : Hv wr hb w.heap.size v A
  apart : v.ownBlock ≠ some wsb
  ws : wr.rowIs wsb 25 n (fun t => pcOr xs[t]?)
  len : xs.length = i
  perm : A.toList.Perm xs
  nd : xs.Nodup
  heap : Heap (ks kf A) A.size
  wt : ∀ x ∈ xs, Wt wr kf x
  key : ∀ t x, xs[t]? = some x → kf x = Z t
  low : w.heap.size ≤ hb ∧ w.heap.size ≤ wsb ∧ hb ≠ wsb
def M1x (w wr : World) (hb wsb n i : Nat) (Z : Nat → Int) : Prop := ∃ v A xs kf, M1 w wr hb wsb n i Z v A xs kf

theorem M1.size {w wr : World} {hb wsb n i : Nat} {Z : Nat → Int} {v : Value} {A : Array Nat} {xs : List Nat} {kf : Nat → Int} (h : M1 w wr hb wsb n i Z v A xs kf) : A.size = i := by
  rw [← h.len, ← h.perm.length_eq, Array.length_toList]

/-- One more wait is made: ahead of the push. -/
theorem M1.mid {w wr wr1 : World} {hb wsb n i b : Nat} {Z : Nat → Int} {v : Value} {A : Array Nat} {xs : List Nat} {kf : Nat → Int} (h : M1 w wr hb wsb n i Z v A xs kf) (hi : i < n) (c : Chg (fun q => q = wsb) wr wr1) (hb' : wr.heap.size ≤ b) (hw : Wt wr1 (kup kf b (Z i)) b)
    (hr : wr1.rowIs wsb 25 n (fun t => if t = i then pc b else pcOr xs[t]?)) :
    Hv wr1 hb w.heap.size v A ∧ A.size = i ∧ Heap (ks (kup kf b (Z i)) A) A.size ∧ (∀ x ∈ A.toList ++ [b], Wt wr1 (kup kf b (Z i)) x) := by
  have hne : ∀ x ∈ xs, x ≠ b := fun x hx => by have := (h.wt x hx).lt; omega
  refine ⟨h.hv.keep c h.low.2.2 (fun q hq e => h.apart (by rw [hq, e])), h.size, ?_, ?_⟩
  · intro k k0 kn
    have g : ∀ t, t < A.size → ks (kup kf b (Z i)) A t = ks kf A t := fun t ht => by
      unfold ks
      refine kup_ne (hne _ ((h.perm.mem_iff).1 ?_))
      rw [getElem!_pos A t ht, ← Array.mem_def]
      exact Array.getElem_mem _
    rw [g _ (by omega), g _ kn]
    exact h.heap k k0 kn
  · intro x hx
    rcases List.mem_append.1 hx with hx | hx
    · have hx' := (h.perm.mem_iff).1 hx
      obtain ⟨c0, hc0, _⟩ := h.ws
      obtain ⟨cs, c1, c2⟩ := (h.wt x hx').keep c (fun e => (h.wt x hx').ne hc0 (by decide) e)
      exact ⟨cs, c1, by rw [kup_ne (hne x hx')]; exact c2⟩
    · obtain rfl : x = b := by simpa using hx
      exact hw
/-- It is pushed. -/
theorem M1.next {w wr wr1 wr2 : World} {hb wsb n i b : Nat} {Z : Nat → Int} {v : Value} {A : Array Nat} {xs : List Nat} {kf : Nat → Int} (h : M1 w wr hb wsb n i Z v A xs kf) (hi : i < n) (c : Chg (fun q => q = wsb) wr wr1) (hb' : wr.heap.size ≤ b) (hw : Wt wr1 (kup kf b (Z i)) b)
    (hr : wr1.rowIs wsb 25 n (fun t => if t = i then pc b else pcOr xs[t]?)) (hp : HPu wr1 hb w.heap.size v A b (kup kf b (Z i)) wr2) : M1x w wr2 hb wsb n (i + 1) Z := by
  obtain ⟨v', A', hv', p', q', o', c'⟩ := hp
  obtain ⟨m1, m2, m3, m4⟩ := h.mid hi c hb' hw hr
  have hne : ∀ x ∈ xs, x ≠ b := fun x hx => by have := (h.wt x hx).lt; omega
  have hws : ¬ (wsb = hb ∨ v.ownBlock = some wsb) := by
    rintro (e | e)
    · exact h.low.2.2 e.symm
    · exact h.apart e
  refine ⟨v', A', xs ++ [b], kup kf b (Z i), ⟨?_, hv', ?_, ?_, by simp [h.len], ?_, ?_, q', ?_, ?_, h.low⟩⟩
  · refine grown_chg (grown_chg h.bel c (fun q e => by rw [e]; exact h.low.2.1)) c' (fun q e => ?_)
    rcases e with e | e
    · rw [e]; exact h.low.1
    · exact (own_low h.hv.own e).1
  · rcases o' with e | ⟨q, e, hq⟩
    · rw [e]; exact h.apart
    · rw [e]
      intro e'
      cases e'
      have := hr.lt
      omega
  · refine (row_keep c' hr hws).congr (fun t ht => ?_)
    by_cases e : t = i
    · rw [if_pos e, e, ← h.len, List.getElem?_concat_length]
      rfl
    · rw [if_neg e]
      by_cases e2 : t < i
      · rw [List.getElem?_append_left (by rw [h.len]; exact e2)]
      · rw [List.getElem?_eq_none (by rw [h.len]; omega), List.getElem?_eq_none (by simp [h.len]; omega)]
  · exact p'.trans (h.perm.append_right [b])
  · rw [List.nodup_append]
    exact ⟨h.nd, by simp, fun x hx y hy => by rw [List.mem_singleton.1 hy]; exact hne x hx⟩
  · intro x hx
    have hx' : x ∈ A.toList ++ [b] := by
      rcases List.mem_append.1 hx with h1 | h1
      · exact List.mem_append_left _ ((h.perm.mem_iff).2 h1)
      · exact List.mem_append_right _ h1
    exact (m4 x hx').keep c' (m1.noWait (m4 x hx'))
  · intro t x ht
    by_cases e : t = i
    · rw [e, ← h.len, List.getElem?_concat_length] at ht
      cases ht
      rw [kup_eq, e]
    · by_cases e2 : t < i
      · rw [List.getElem?_append_left (by rw [h.len]; exact e2)] at ht
        rw [kup_ne (hne x (List.mem_of_getElem? ht))]
        exact h.key t x ht
      · rw [List.getElem?_eq_none (by simp [h.len]; omega)] at ht
        cases ht

/-- i waits are popped again. -/
structure M2 (w wr : World) (hb wsb ub n i : Nat) (v vw : Value) (A : Array Nat) (xs : List Nat) (kf : Nat → Int) (R : List Int) (us : Nat → Bool) : Prop where
  bel : w.grownBy wr none
  hv : Hv wr hb w.heap.size v A
  apart : v.ownBlock ≠ some wsb
  ws : wr.rowIs wsb 25 n (fun t => pcOr xs[t]?)
  used : wr.rowIs ub 4 n (fun t => .bool (us t))
  want : wr.ownsRow w.heap.size 26 1 vw n (R.map (Value.int .u64))
  len : xs.length = n
  nd : xs.Nodup
  sub : ∀ x ∈ A.toList, x ∈ xs
  ndA : A.toList.Nodup
  keys : (A.toList.map kf).Perm (R.drop i)
  srt : R.Pairwise (· ≤ ·)
  heap : Heap (ks kf A) A.size
  wt : ∀ x ∈ xs, Wt wr kf x
  mark : ∀ t x, xs[t]? = some x → (us t = true ↔ x ∉ A.toList)
  low : w.heap.size ≤ hb ∧ w.heap.size ≤ wsb ∧ w.heap.size ≤ ub ∧ hb ≠ wsb
def M2x (w wr : World) (hb wsb ub n i : Nat) (vw : Value) (xs : List Nat) (kf : Nat → Int) (R : List Int) : Prop := ∃ v A us, M2 w wr hb wsb ub n i v vw A xs kf R us
section
variable {w wr wr1 : World} {hb wsb ub n i : Nat} {v vw : Value} {A : Array Nat} {xs : List Nat} {kf : Nat → Int} {R : List Int} {us : Nat → Bool}
theorem M2.lenR (h : M2 w wr hb wsb ub n i v vw A xs kf R us) : R.length = n := by have := h.want.1; simpa using this
theorem M2.size (h : M2 w wr hb wsb ub n i v vw A xs kf R us) : A.size = n - i := by
  have := h.keys.length_eq
  rw [List.length_map, Array.length_toList, List.length_drop, h.lenR] at this
  exact this
/-- The one that comes is the least that is left. -/
theorem M2.least (h : M2 w wr hb wsb ub n i v vw A xs kf R us) (hi : i < n) : R[i]? = some (kf A[0]!) ∧ A[0]! ∈ A.toList := by
  have hz := h.size
  have hm : ∀ t, t < A.size → A[t]! ∈ A.toList := fun t ht => by
    rw [getElem!_pos A t ht, ← Array.mem_def]; exact Array.getElem_mem _
  have h0 : A[0]! ∈ A.toList := hm 0 (by omega)
  refine ⟨?_, h0⟩
  have hlt : i < R.length := by rw [h.lenR]; exact hi
  rw [List.getElem?_eq_some_iff.2 ⟨hlt, rfl⟩]
  congr 1
  have hd : R.drop i = R[i] :: R.drop (i + 1) := List.drop_eq_getElem_cons hlt
  have p := h.keys
  have srt : (R.drop i).Pairwise (· ≤ ·) := h.srt.sublist (List.drop_sublist i R)
  rw [hd] at p srt
  have k1 : kf A[0]! ∈ R[i] :: R.drop (i + 1) := (p.mem_iff).1 (List.mem_map_of_mem h0)
  have k2 : R[i] ∈ A.toList.map kf := (p.mem_iff).2 List.mem_cons_self
  obtain ⟨y, hy, ey⟩ := List.mem_map.1 k2
  obtain ⟨t, ht, et⟩ := List.getElem_of_mem hy
  have ht' : t < A.size := by simpa using ht
  have g1 : kf A[0]! ≤ R[i] := by
    rw [← ey, ← et]
    have := h.heap.root t t (Nat.le_refl _) ht'
    unfold ks at this
    rw [getElem!_pos A t ht'] at this
    simpa using this
  have g2 : R[i] ≤ kf A[0]! := by
    rcases List.mem_cons.1 k1 with e | e
    · rw [e]; exact Int.le_refl _
    · exact (List.pairwise_cons.1 srt).1 _ e
  omega
/-- Where it stands among the waits made. -/
theorem M2.place (h : M2 w wr hb wsb ub n i v vw A xs kf R us) (hi : i < n) : ∃ j0, j0 < n ∧ xs[j0]? = some A[0]! ∧ us j0 = false ∧ ∀ t y, xs[t]? = some y → t ≠ j0 → y ≠ A[0]! := by
  obtain ⟨_, h0⟩ := h.least hi
  obtain ⟨j0, hj, e⟩ := List.getElem_of_mem (h.sub _ h0)
  have e' : xs[j0]? = some A[0]! := List.getElem?_eq_some_iff.2 ⟨hj, e⟩
  refine ⟨j0, by rw [← h.len]; exact hj, e', ?_, fun t y ht hne ey => ?_⟩
  · cases hu : us j0 with
    | false => rfl
    | true => exact absurd h0 ((h.mark j0 _ e').1 hu)
  · obtain ⟨ht', e2⟩ := List.getElem?_eq_some_iff.1 ht
    exact hne ((List.getElem_inj h.nd).1 (e2.trans (ey.trans e.symm)))
/-- One is popped and marked. -/
theorem M2.next {wr2 wr3 : World} {j0 : Nat} (h : M2 w wr hb wsb ub n i v vw A xs kf R us) (hi : i < n) (hp : HPo wr hb w.heap.size v A kf wr2) (hj : xs[j0]? = some A[0]!) (hoth : ∀ t y, xs[t]? = some y → t ≠ j0 → y ≠ A[0]!) (c : Chg (fun q => q = ub) wr2 wr3)
    (hr : wr3.rowIs ub 4 n (fun t => if t = j0 then .bool true else .bool (us t))) : M2x w wr3 hb wsb ub n (i + 1) vw xs kf R := by
  obtain ⟨v', A', hv', z', p', q', o', c'⟩ := hp
  obtain ⟨hk, h0⟩ := h.least hi
  have nub : ∀ q, (q = hb ∨ v.ownBlock = some q) → q ≠ ub := by
    rintro q (e | e) e2
    · obtain ⟨c0, hc0, _⟩ := h.used
      have := h.hv.var
      rw [← e, e2, hc0] at this
      simp at this
    · subst e2
      obtain ⟨c0, hc0, _⟩ := h.used
      rcases h.hv.own.2 with ⟨rfl, _⟩ | ⟨g, cap, cur, rfl, _, hg, _⟩
      · cases e
      · cases e
        rw [hc0] at hg
        simp at hg
  have nws : ¬ (wsb = hb ∨ v.ownBlock = some wsb) := by
    rintro (e | e)
    · exact h.low.2.2.2 e.symm
    · exact h.apart e
  have wsub : wsb ≠ ub := by
    intro e
    obtain ⟨c0, hc0, _⟩ := h.used
    obtain ⟨c1, hc1, _⟩ := h.ws
    rw [e, hc0] at hc1
    simp at hc1
  have wnv : ∀ q, vw.ownBlock = some q → ¬ (q = hb ∨ v.ownBlock = some q) ∧ q ≠ ub := by
    intro q hq
    rcases h.want.2 with ⟨rfl, _⟩ | ⟨g, cap, cur, rfl, _, hg, _⟩
    · cases hq
    · cases hq
      refine ⟨?_, ?_⟩
      · rintro (e | e)
        · have := h.hv.var
          rw [← e, hg] at this
          simp at this
        · rcases h.hv.own.2 with ⟨rfl, _⟩ | ⟨g2, cap2, cur2, rfl, _, hg2, _⟩
          · cases e
          · cases e
            rw [hg] at hg2
            simp at hg2
      · intro e
        obtain ⟨c0, hc0, _⟩ := h.used
        have e' : g = ub := e
        rw [e', hc0] at hg
        simp at hg
  have hnd : (A'.toList ++ [A[0]!]).Nodup := (p'.nodup_iff).2 h.ndA
  have hnd2 := List.nodup_append.1 hnd
  have hwt2 : ∀ x ∈ xs, Wt wr2 kf x := fun x hx => (h.wt x hx).keep c' (h.hv.noWait (h.wt x hx))
  have hcv : wr3.heap.size ≥ wr2.heap.size := c.size
  refine ⟨v', A', fun t => if t = j0 then true else us t, ⟨?_, hv'.keep c (fun e => nub hb (.inl rfl) e) (fun q hq e => nub q (.inr (by rw [← o']; exact hq)) e), by rw [o']; exact h.apart, row_keep c (row_keep c' h.ws nws) wsub, ?_, c.own (c'.own h.want (fun q hq => (wnv q hq).1)) (fun q hq => (wnv q hq).2), h.len, h.nd, ?_, hnd2.1, ?_, h.srt, q', ?_, ?_, h.low⟩⟩
  · refine grown_chg (grown_chg h.bel c' (fun q e => ?_)) c (fun q e => by rw [e]; exact h.low.2.2.1)
    rcases e with e | e
    · rw [e]; exact h.low.1
    · exact (own_low h.hv.own e).1
  · refine hr.congr (fun t _ => ?_)
    by_cases e : t = j0
    · rw [if_pos e, if_pos e]
    · rw [if_neg e, if_neg e]
  · exact fun x hx => h.sub x ((p'.mem_iff).1 (List.mem_append_left _ hx))
  · have hlt : i < R.length := by rw [h.lenR]; exact hi
    have hd : R.drop i = R[i] :: R.drop (i + 1) := List.drop_eq_getElem_cons hlt
    have p := (p'.map kf).trans h.keys
    rw [hd, List.map_append] at p
    rw [List.getElem?_eq_some_iff.2 ⟨hlt, rfl⟩] at hk
    have hk' : R[i] = kf A[0]! := by simpa using hk
    have p2 : (R[i] :: A'.toList.map kf).Perm (R[i] :: R.drop (i + 1)) := by
      refine List.Perm.trans ?_ p
      rw [hk']
      exact (List.perm_append_singleton _ _).symm
    exact (List.perm_cons _).1 p2
  · intro x hx
    refine (hwt2 x hx).keep c (fun e => ?_)
    obtain ⟨c0, hc0, _⟩ := row_keep c' h.used (fun e => nub ub e rfl)
    exact (hwt2 x hx).ne hc0 (by decide) e
  · intro t x ht
    by_cases e : t = j0
    · subst e
      rw [hj] at ht
      cases ht
      simp only [if_true, true_iff]
      intro hx
      exact hnd2.2.2 _ hx _ (by simp) rfl
    · rw [if_neg e, h.mark t x ht]
      have hne := hoth t x ht e
      rw [← (p'.mem_iff)]
      simp [hne]
end
end Go.Proofs.Ybulkdsqs
