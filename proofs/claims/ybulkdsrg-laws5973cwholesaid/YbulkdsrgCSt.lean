/-
  LawS5973CWhole: the state of the fragments' list, and what opening and removing make of it (no Go in sight).
-/
import Derived.Test.YbulkdsrgCNode
namespace Go.Proofs.Ybulkdsrg
open Go.RowKit
set_option linter.unusedSimpArgs false
set_option linter.unusedVariables false

structure Nd where
  b : Nat
  x : Int
  t : Int

def pv (L : List Nd) (i : Nat) : Option Nat := if i = 0 then none else (L[i - 1]?).map (·.b)
def nx (L : List Nd) (i : Nat) : Option Nat := (L[i + 1]?).map (·.b)
def hd (L : List Nd) : Option Nat := (L[0]?).map (·.b)
def lt (L : List Nd) : Option Nat := pv L L.length

/-- Nothing but the blocks lo .. hi - 1 has turned. -/
structure Out (lo hi : Nat) (w w' : World) : Prop where
  os : w'.os = w.os
  tape : w'.tape = w.tape
  output : w'.output = w.output
  size : w.heap.size ≤ w'.heap.size
  block : ∀ q, q < w.heap.size → (q < lo ∨ hi ≤ q) → w'.heap[q]? = w.heap[q]?

theorem Out.of {lo hi : Nat} {w w' : World} {row : Option Nat} (h : w.grownBy w' row) (hr : ∀ q, row = some q → lo ≤ q ∧ q < hi) : Out lo hi w w' :=
  ⟨h.os, h.tape, h.output, h.size, fun q hq hne => h.block q hq (fun e => by have := hr q e.symm; omega)⟩
theorem Out.trans {lo hi hi' : Nat} {a b c : World} (h : Out lo hi a b) (k : Out lo hi' b c) (hh : hi ≤ a.heap.size) (hh' : hi' = hi ∨ a.heap.size ≤ hi' ∧ ∀ q, hi ≤ q → q < a.heap.size → c.heap[q]? = b.heap[q]?) : Out lo hi a c :=
  ⟨k.os.trans h.os, k.tape.trans h.tape, k.output.trans h.output, Nat.le_trans h.size k.size, fun q hq hne => by
    have h1 := h.block q hq hne
    have h2 := h.size
    rcases hh' with rfl | ⟨_, hb⟩
    · exact (k.block q (by omega) hne).trans h1
    · rcases hne with hne | hne
      · exact (k.block q (by omega) (.inl hne)).trans h1
      · exact (hb q hne hq).trans h1⟩
/-- Steps that turn blocks of lo .. hi - 1 or blocks that are new. -/
theorem Out.step {lo hi : Nat} {a b c : World} {row : Option Nat} (h : Out lo hi a b) (k : b.grownBy c row) (hr : ∀ q, row = some q → lo ≤ q ∧ (q < hi ∨ a.heap.size ≤ q)) : Out lo hi a c :=
  ⟨k.os.trans h.os, k.tape.trans h.tape, k.output.trans h.output, Nat.le_trans h.size k.size, fun q hq hne => by
    have h1 := h.block q hq hne
    have h2 := h.size
    exact (k.block q (by omega) (fun e => by have := hr q e.symm; omega)).trans h1⟩
theorem Out.refl (lo hi : Nat) (w : World) : Out lo hi w w := ⟨rfl, rfl, rfl, Nat.le_refl _, fun _ _ _ => rfl⟩

structure St (w : World) (k : Ky) (lo hi f : Nat) (L : List Nd) (m : Option Nat) (D : DataW Unit) (n : Nat) : Prop where
  fs : w.heap[f]? = some (.cells (fc m (hd L) (lt L)).toArray 29 (0, 0))
  fr : lo ≤ f ∧ f < hi
  node : ∀ (i : Nat) (nd : Nd), L[i]? = some nd → w.heap[nd.b]? = some (.cells (dc k nd.x nd.t (pv L i) (nx L i)).toArray 60 (0, 0))
  nr : ∀ (i : Nat) (nd : Nd), L[i]? = some nd → lo ≤ nd.b ∧ nd.b < hi ∧ (Lit.int .u32 nd.x).wf = true
  dif : ∀ (i j : Nat) (a c : Nd), L[i]? = some a → L[j]? = some c → a.b = c.b → i = j
  map : (m = none ∧ L = [] ∧ D = .map []) ∨ ∃ mb, m = some mb ∧ lo ≤ mb ∧ mb < hi ∧ w.ownsMap Yba.prog 34 Re mb n D

theorem St.fs_node {w : World} {k : Ky} {lo hi f : Nat} {L : List Nd} {m : Option Nat} {D : DataW Unit} {n : Nat} (h : St w k lo hi f L m D n) {i : Nat} {nd : Nd} (hi' : L[i]? = some nd) : f ≠ nd.b := fun e => by
  have h1 := h.fs
  rw [e, h.node i nd hi'] at h1
  simp at h1

theorem own_ne {w : World} {b q n : Nat} {D : DataW Unit} {cs : Array Value} {t : TypeId} (h : w.ownsMap Yba.prog 34 Re b n D) (hq : w.heap[q]? = some (.cells cs t (0, 0))) : q ≠ b := fun e => by
  obtain ⟨es, cl, hb, _⟩ := h
  rw [e, hb] at hq
  simp at hq

theorem lt_nil : lt [] = none := rfl
theorem lt_snoc (L : List Nd) (nd : Nd) : lt (L ++ [nd]) = some nd.b := by simp [lt, pv]
theorem hd_snoc (L : List Nd) (nd : Nd) : hd (L ++ [nd]) = if L = [] then some nd.b else hd L := by cases L <;> simp [hd]
theorem hd_nil_iff (L : List Nd) : hd L = none ↔ L = [] := by cases L <;> simp [hd]
theorem lt_some {L : List Nd} (h : L ≠ []) : ∃ nd, L[L.length - 1]? = some nd ∧ lt L = some nd.b := by
  have : 0 < L.length := List.length_pos_iff.2 h
  have hl : L.length - 1 < L.length := by omega
  exact ⟨L[L.length - 1], List.getElem?_eq_getElem hl, by simp [lt, pv, Nat.ne_of_gt this, List.getElem?_eq_getElem hl]⟩
theorem pv_snoc (L : List Nd) (nd : Nd) {i : Nat} (hi : i ≤ L.length) : pv (L ++ [nd]) i = pv L i := by
  unfold pv
  split
  · rfl
  · rw [List.getElem?_append_left (by omega)]
theorem nx_snoc (L : List Nd) (nd : Nd) {i : Nat} (hi : i < L.length) : nx (L ++ [nd]) i = if i + 1 = L.length then some nd.b else nx L i := by
  unfold nx
  split
  · rename_i h; rw [List.getElem?_append_right (by omega)]; simp [h]
  · rw [List.getElem?_append_left (by omega)]

/-- The state behind 'open', out of the facts that its walk leaves. -/
theorem St.opened {w : World} {k : Ky} {lo hi f : Nat} {L : List Nd} {m : Option Nat} {D : DataW Unit} {n : Nat} (h : St w k lo hi f L m D n) {w' : World} {b mb : Nat} {x t : Int} {D' : DataW Unit} {hi' : Nat} (hx : (Lit.int .u32 x).wf = true) (hhi : hi ≤ b) (hhi' : b < hi')
    (hfs : w'.heap[f]? = some (.cells (fc (some mb) (if L = [] then some b else hd L) (some b)).toArray 29 (0, 0)))
    (hnew : w'.heap[b]? = some (.cells (dc k x t (lt L) none).toArray 60 (0, 0)))
    (hlast : ∀ nd : Nd, L[L.length - 1]? = some nd → w'.heap[nd.b]? = some (.cells (dc k nd.x nd.t (pv L (L.length - 1)) (some b)).toArray 60 (0, 0)))
    (hkeep : ∀ (i : Nat) (nd : Nd), L[i]? = some nd → i + 1 < L.length → w'.heap[nd.b]? = w.heap[nd.b]?)
    (hm : lo ≤ mb ∧ mb < hi') (hmap : w'.ownsMap Yba.prog 34 Re mb (n + 1) D') : St w' k lo hi' f (L ++ [⟨b, x, t⟩]) (some mb) D' (n + 1) := by
  have hlo := h.fr
  refine ⟨?_, ⟨hlo.1, by omega⟩, ?_, ?_, ?_, .inr ⟨mb, rfl, hm.1, hm.2, hmap⟩⟩
  · rw [hd_snoc, lt_snoc]; exact hfs
  · intro i nd hi
    rcases Nat.lt_trichotomy i L.length with hl | hl | hl
    · rw [List.getElem?_append_left hl] at hi
      rw [pv_snoc L _ (by omega), nx_snoc L _ hl]
      split
      · rename_i he
        have hi2 : i = L.length - 1 := by omega
        subst hi2
        exact hlast nd hi
      · rename_i he
        rw [hkeep i nd hi (by omega)]; exact h.node i nd hi
    · subst hl
      simp at hi
      subst hi
      rw [pv_snoc L _ (Nat.le_refl _)]
      have : nx (L ++ [⟨b, x, t⟩]) L.length = none := by simp [nx]
      rw [this]
      exact hnew
    · rw [List.getElem?_eq_none (by simp; omega)] at hi; cases hi
  · intro i nd hi
    rcases Nat.lt_trichotomy i L.length with hl | hl | hl
    · rw [List.getElem?_append_left hl] at hi
      have := h.nr i nd hi
      exact ⟨this.1, by omega, this.2.2⟩
    · subst hl
      simp at hi
      subst hi
      exact ⟨by simp; omega, hhi', hx⟩
    · rw [List.getElem?_eq_none (by simp; omega)] at hi; cases hi
  · intro i j a c hia hj hab
    have key : ∀ (i : Nat) (a : Nd), (L ++ [(⟨b, x, t⟩ : Nd)])[i]? = some a → (i < L.length ∧ L[i]? = some a ∧ a.b < hi) ∨ (i = L.length ∧ a.b = b) := by
      intro i a hia
      rcases Nat.lt_trichotomy i L.length with hl | hl | hl
      · rw [List.getElem?_append_left hl] at hia
        exact .inl ⟨hl, hia, (h.nr i a hia).2.1⟩
      · subst hl; simp at hia; subst hia; exact .inr ⟨rfl, rfl⟩
      · rw [List.getElem?_eq_none (by simp; omega)] at hia; cases hia
    rcases key i a hia with ⟨_, h1, h2⟩ | ⟨h1, h2⟩ <;> rcases key j c hj with ⟨_, h3, h4⟩ | ⟨h3, h4⟩
    · exact h.dif i j a c h1 h3 hab
    · omega
    · omega
    · omega

/-- The state behind 'remove' of the node i. -/
theorem St.removed {w : World} {k : Ky} {lo hi f : Nat} {L : List Nd} {m : Option Nat} {D : DataW Unit} {n : Nat} (h : St w k lo hi f L m D n) {w' : World} {i : Nat} {nd : Nd} (hir : L[i]? = some nd) {D' : DataW Unit} {mb : Nat} (hm : m = some mb)
    (hfs : w'.heap[f]? = some (.cells (fc m (if i = 0 then nx L 0 else hd L) (if i + 1 = L.length then pv L i else lt L)).toArray 29 (0, 0)))
    (hp : ∀ a : Nd, i ≠ 0 → L[i - 1]? = some a → w'.heap[a.b]? = some (.cells (dc k a.x a.t (pv L (i - 1)) (nx L i)).toArray 60 (0, 0)))
    (hn : ∀ a : Nd, L[i + 1]? = some a → w'.heap[a.b]? = some (.cells (dc k a.x a.t (pv L i) (nx L (i + 1))).toArray 60 (0, 0)))
    (hkeep : ∀ (j : Nat) (a : Nd), L[j]? = some a → j ≠ i → j + 1 ≠ i → j ≠ i + 1 → w'.heap[a.b]? = w.heap[a.b]?)
    (hmap : w'.ownsMap Yba.prog 34 Re mb n D') : St w' k lo hi f (L.eraseIdx i) m D' n := by
  have hil : i < L.length := (List.getElem?_eq_some_iff.1 hir).1
  have hlen : (L.eraseIdx i).length = L.length - 1 := List.length_eraseIdx_of_lt hil
  have get : ∀ j : Nat, (L.eraseIdx i)[j]? = if j < i then L[j]? else L[j + 1]? := fun j => List.getElem?_eraseIdx
  have e1 : hd (L.eraseIdx i) = if i = 0 then nx L 0 else hd L := by
    unfold hd nx
    rw [get]
    by_cases h0 : i = 0
    · simp [h0]
    · simp [h0, Nat.pos_of_ne_zero h0]
  have e2 : lt (L.eraseIdx i) = if i + 1 = L.length then pv L i else lt L := by
    unfold lt pv
    rw [hlen]
    by_cases h0 : i + 1 = L.length
    · have : L.length - 1 = i := by omega
      simp only [h0, if_true, this]
      by_cases h2 : i = 0
      · simp [h2]
      · simp only [h2, if_false]; rw [get, if_pos (by omega)]
    · simp only [h0, if_false]
      rw [if_neg (by omega), if_neg (by omega), get, if_neg (by omega)]
      congr 2
      omega
  refine ⟨by rw [e1, e2]; exact hfs, h.fr, ?_, ?_, ?_, .inr ⟨mb, hm, ?_⟩⟩
  · intro j a hj
    rw [get] at hj
    by_cases hji : j < i
    · rw [if_pos hji] at hj
      have e3 : pv (L.eraseIdx i) j = pv L j := by
        unfold pv
        split
        · rfl
        · rw [get, if_pos (by omega)]
      by_cases hj1 : j + 1 = i
      · have e4 : nx (L.eraseIdx i) j = nx L i := by unfold nx; rw [get, if_neg (by omega), hj1]
        rw [e3, e4]
        have := hp a (by omega) (by rw [← hj1]; simpa using hj)
        rwa [show i - 1 = j by omega] at this
      · have e4 : nx (L.eraseIdx i) j = nx L j := by unfold nx; rw [get, if_pos (by omega)]
        rw [e3, e4, hkeep j a hj (by omega) hj1 (by omega)]
        exact h.node j a hj
    · rw [if_neg hji] at hj
      have e4 : nx (L.eraseIdx i) j = nx L (j + 1) := by unfold nx; rw [get, if_neg (by omega)]
      by_cases hj1 : j = i
      · have e3 : pv (L.eraseIdx i) j = pv L i := by
          unfold pv
          rw [hj1]
          split
          · rfl
          · rw [get, if_pos (by omega)]
        rw [e3, e4, hj1]
        rw [hj1] at hj
        exact hn a hj
      · have e3 : pv (L.eraseIdx i) j = pv L (j + 1) := by
          unfold pv
          rw [if_neg (by omega), if_neg (by omega), get, if_neg (by omega)]
          congr 2
          omega
        rw [e3, e4, hkeep (j + 1) a hj (by omega) (by omega) (by omega)]
        exact h.node (j + 1) a hj
  · intro j a hj
    rw [get] at hj
    split at hj
    · exact h.nr _ a hj
    · exact h.nr _ a hj
  · intro j j' a c hj hj' hab
    rw [get] at hj hj'
    split at hj <;> split at hj'
    · exact h.dif _ _ a c hj hj' hab
    · have := h.dif _ _ a c hj hj' hab; omega
    · have := h.dif _ _ a c hj hj' hab; omega
    · have := h.dif _ _ a c hj hj' hab; omega
  · rcases h.map with ⟨e, _⟩ | ⟨mb', e, h1, h2, _⟩
    · rw [hm] at e; cases e
    · rw [hm] at e; cases e; exact ⟨h1, h2, hmap⟩

/-- The state behind steps that turn none of its blocks. -/
theorem St.out {w : World} {k : Ky} {lo hi f : Nat} {L : List Nd} {m : Option Nat} {D : DataW Unit} {n : Nat} (h : St w k lo hi f L m D n) {w' : World} {hi' : Nat} (hb : ∀ q, lo ≤ q → q < hi → w'.heap[q]? = w.heap[q]?) (hhi : hi ≤ hi') (hw : hi ≤ w.heap.size) : St w' k lo hi' f L m D n := by
  have hlo := h.fr
  refine ⟨by rw [hb f hlo.1 hlo.2]; exact h.fs, ⟨hlo.1, by omega⟩, fun i nd e => ?_, fun i nd e => ?_, h.dif, ?_⟩
  · have := h.nr i nd e
    rw [hb _ this.1 this.2.1]; exact h.node i nd e
  · have := h.nr i nd e
    exact ⟨this.1, by omega, this.2.2⟩
  · rcases h.map with e | ⟨mb, e, h1, h2, h3⟩
    · exact .inl e
    · refine .inr ⟨mb, e, h1, by omega, ?_⟩
      obtain ⟨es, cl, hq, r⟩ := h3
      exact ⟨es, cl, by rw [hb mb h1 h2]; exact hq, r⟩

end Go.Proofs.Ybulkdsrg
