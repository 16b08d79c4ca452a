/-
  LawS5970AWhole: the memory that the law lays out, as a list of blocks; rows that are made and filled.
-/
import Derived.Test.YbulkdspqAPush
import Derived.Laws.MakeOwn
namespace Go.Proofs.Ybulkdspq
open Go.RowKit
set_option linter.unusedSimpArgs false
set_option linter.unusedVariables false

/-- What the law has laid out (the newest block first), and that nothing older has changed. -/
structure Hs (B : Nat) (w0 w : World) (L : List (Nat × Obj)) : Prop where
  below : Below B w0 w
  has : ∀ (k : Nat) (p : Nat × Obj), L[k]? = some p → w.heap[p.1]? = some p.2
  srt : ∀ (i j : Nat) (p q : Nat × Obj), L[i]? = some p → L[j]? = some q → i < j → q.1 < p.1
  lo : ∀ (k : Nat) (p : Nat × Obj), L[k]? = some p → B ≤ p.1
  size : B ≤ w.heap.size
section
variable {B : Nat} {w0 w w' : World} {L : List (Nat × Obj)}
theorem Hs.start (w : World) : Hs w.heap.size w w [] := ⟨Below.refl _ _, fun k p h => by simp at h, fun i j p q h => by simp at h, fun k p h => by simp at h, Nat.le_refl _⟩
theorem Hs.new (h : Hs B w0 w L) (o : Obj) : Hs B w0 (w.alloc o) ((w.heap.size, o) :: L) := by
  refine ⟨h.below.alloc h.size o, ?_, ?_, ?_, by have := h.size; simp; omega⟩
  · intro k p hk
    cases k with
    | zero => simp at hk; subst hk; exact heap_alloc_new w o
    | succ k =>
      have := h.has k p (by simpa using hk)
      exact (Below.heap_alloc w o p.1 (Array.getElem?_eq_some_iff.1 this).1).trans this
  · intro i j p q hi hj hij
    cases j with
    | zero => omega
    | succ j =>
      have hj' : L[j]? = some q := by simpa using hj
      cases i with
      | zero => simp at hi; subst hi; exact (Array.getElem?_eq_some_iff.1 (h.has j q hj')).1
      | succ i => exact h.srt i j p q (by simpa using hi) hj' (by omega)
  · intro k p hk
    cases k with
    | zero => simp at hk; subst hk; exact h.size
    | succ k => exact h.lo k p (by simpa using hk)
theorem Hs.grow (h : Hs B w0 w L) (k : w.grownBy w' none) : Hs B w0 w' L :=
  ⟨h.below.grown k h.size (by simp), fun i p hp => keep_blk k (h.has i p hp) (by simp), h.srt, h.lo, Nat.le_trans h.size k.size⟩
theorem Hs.chg {S : Nat → Prop} (h : Hs B w0 w L) (k : Chg S w w') (hS : ∀ q, S q → B ≤ q) (hL : ∀ (i : Nat) (p : Nat × Obj), L[i]? = some p → ¬ S p.1) : Hs B w0 w' L :=
  ⟨k.below h.below hS h.size, fun i p hp => k.keep (h.has i p hp) (hL i p hp), h.srt, h.lo, Nat.le_trans h.size k.size⟩
theorem Hs.get (h : Hs B w0 w L) (k : Nat) {q : Nat} {o : Obj} (hk : L[k]? = some (q, o)) : w.heap[q]? = some o := h.has k _ hk
theorem Hs.base (h : Hs B w0 w L) (k : Nat) {q : Nat} {o : Obj} (hk : L[k]? = some (q, o)) : B ≤ q := h.lo k _ hk
theorem Hs.lt (h : Hs B w0 w L) (k : Nat) {q : Nat} {o : Obj} (hk : L[k]? = some (q, o)) : q < w.heap.size := (Array.getElem?_eq_some_iff.1 (h.has k _ hk)).1
theorem Hs.ne (h : Hs B w0 w L) (i j : Nat) {p q : Nat} {o o' : Obj} (hi : L[i]? = some (p, o)) (hj : L[j]? = some (q, o')) (hij : i ≠ j) : p ≠ q := by
  rcases Nat.lt_or_gt_of_ne hij with hl | hl
  · have : q < p := h.srt i j _ _ hi hj hl
    omega
  · have : p < q := h.srt j i _ _ hj hi hl
    omega
theorem Hs.upd (h : Hs B w0 w L) (k : Nat) {q : Nat} {o o' : Obj} (hk : L[k]? = some (q, o)) (g : w.grownBy w' (some q)) (hb : w'.heap[q]? = some o') : Hs B w0 w' (L.set k (q, o')) := by
  have hkl : k < L.length := (List.getElem?_eq_some_iff.1 hk).1
  have old : ∀ (i : Nat) (p : Nat × Obj), (L.set k (q, o'))[i]? = some p → (i = k ∧ p = (q, o')) ∨ (i ≠ k ∧ L[i]? = some p) := by
    intro i p hp
    rw [List.getElem?_set] at hp
    by_cases e : k = i
    · subst e; simp [hkl] at hp; exact .inl ⟨rfl, hp.symm⟩
    · simp [e] at hp; exact .inr ⟨Ne.symm e, hp⟩
  have fst : ∀ (i : Nat) (p : Nat × Obj), (L.set k (q, o'))[i]? = some p → ∃ p' : Nat × Obj, L[i]? = some p' ∧ p'.1 = p.1 := by
    intro i p hp
    rcases old i p hp with ⟨rfl, rfl⟩ | ⟨_, hp⟩
    · exact ⟨_, hk, rfl⟩
    · exact ⟨p, hp, rfl⟩
  refine ⟨h.below.grown g h.size (fun r e => by cases e; exact h.base k hk), ?_, ?_, ?_, Nat.le_trans h.size g.size⟩
  · intro i p hp
    rcases old i p hp with ⟨rfl, rfl⟩ | ⟨hne, hp2⟩
    · exact hb
    · have hnq : p.1 ≠ q := h.ne i k (p := p.1) (o := p.2) hp2 hk hne
      exact keep_blk g (h.has i p hp2) (fun e => hnq (Option.some.inj e))
  · intro i j p r hi hj hij
    obtain ⟨p', h1, e1⟩ := fst i p hi
    obtain ⟨r', h2, e2⟩ := fst j r hj
    have := h.srt i j p' r' h1 h2 hij
    omega
  · intro i p hp
    obtain ⟨p', h1, e1⟩ := fst i p hp
    have := h.lo i p' h1
    omega
end

/-! ### Rows that are made and filled -/
section
variable {α : Type}
/-- The first i of xs, then z. -/
def pre (z : α) (xs : List α) (i : Nat) : List α := xs.take i ++ List.replicate (xs.length - i) z
theorem pre_len (z : α) (xs : List α) {i : Nat} (hi : i ≤ xs.length) : (pre z xs i).length = xs.length := by simp [pre]; omega
theorem pre_zero (z : α) (xs : List α) : pre z xs 0 = List.replicate xs.length z := by simp [pre]
theorem pre_full (z : α) (xs : List α) : pre z xs xs.length = xs := by simp [pre]
theorem pre_set (z : α) (xs : List α) {i : Nat} {x : α} (hx : xs[i]? = some x) : (pre z xs i).set i x = pre z xs (i + 1) := by
  obtain ⟨hi, rfl⟩ := List.getElem?_eq_some_iff.1 hx
  have e : xs.length - i = (xs.length - (i + 1)) + 1 := by omega
  unfold pre
  rw [e, List.replicate_succ, List.set_append]
  have hl : (xs.take i).length = i := by simp; omega
  rw [hl, if_neg (by omega), Nat.sub_self, List.set_cons_zero]
  have : xs.take (i + 1) = xs.take i ++ [xs[i]] := by simp
  rw [this, List.append_assoc]
  rfl

theorem made_flat {f : α → List Value} {sz : Nat} (hf : ∀ a, (f a).length = sz) (hsz : 0 < sz) (z : α) (n : Nat) : madeCells (f z).toArray (n * sz) = ((List.replicate n z).flatMap f).toArray := by
  apply Array.ext_getElem?
  intro k
  by_cases hk : k < n * sz
  · have e : k = (k / sz) * sz + k % sz := by rw [Nat.mul_comm]; exact (Nat.div_add_mod k sz).symm
    have hq : k / sz < n := Nat.div_lt_of_lt_mul (by rw [Nat.mul_comm]; exact hk)
    have h1 : ((List.replicate n z).flatMap f)[k]? = (f z)[k % sz]? := by
      conv => lhs; rw [e]
      exact flat_get hf _ _ z _ (by simp [hq]) (Nat.mod_lt _ hsz)
    simp only [List.getElem?_toArray, h1]
    simp [madeCells, hk, hf]
    have hlt : k % sz < (f z).length := by rw [hf]; exact Nat.mod_lt _ hsz
    simp [hlt]
  · rw [Array.getElem?_eq_none (by simp [madeCells]; omega), Array.getElem?_eq_none (by simp [flat_len hf]; omega)]
end

theorem exec_make {a : Act} {o : Oper} {w : World} {t e : TypeId} {z : Value} {size bytes : Nat} (ht : Yba.prog.underlying t = some (.slice e)) (hinfo : (Yba.prog.info? e).map (fun i => (i.zero, i.size, i.bytes)) = some (some z, size, bytes)) (hby : bytes ≤ 48) (x : Operand) (ho : o.op = .makeSlice t x x) (n : Nat) (hn : n ≤ 1000000) (hx : a.eval x = .int .i64 (n : Int)) :
    (execOp a.eval o).run Yba.prog w = .ok (.value (.slice (some ⟨w.heap.size, 0, none⟩) n n)) (w.alloc (.cells (madeCells z.cells (n * size)) e)) := by
  obtain ⟨i, hi, hz, hs, hb⟩ := info_parts hinfo
  have hbb : (i.bytes : Int) * (n : Int) ≤ 281474976710656 := by
    rw [hb]
    have : bytes * n ≤ 48 * 1000000 := Nat.mul_le_mul hby hn
    have h2 : ((bytes * n : Nat) : Int) ≤ 48000000 := by omega
    rw [Int.natCast_mul] at h2
    omega
  have hr := run_make (P := Yba.prog) w t e i z ht hi hz .i64 .i64 n n (by omega) (by omega) hbb (by omega)
  simp only [Int.toNat_natCast, hs] at hr
  unfold execOp
  simp only [ho, hx, Sem.run_bind, hr, Result.andThen_ok, Sem.run_pure]
theorem wpList_make {ops : Array Oper} {rest : List Oper} {op : Oper} {a : Act} {w : World} {Q : Exit → Act → World → Prop} (hgd : op.guard = none) {t e : TypeId} {z : Value} {size bytes : Nat} (ht : Yba.prog.underlying t = some (.slice e)) (hinfo : (Yba.prog.info? e).map (fun i => (i.zero, i.size, i.bytes)) = some (some z, size, bytes)) (hby : bytes ≤ 48) (x : Operand) (ho : op.op = .makeSlice t x x) (n : Nat) (hn : n ≤ 1000000) (hx : a.eval x = .int .i64 (n : Int)) (cs : Array Value) (hcs : madeCells z.cells (n * size) = cs)
    (h : wpList Yba.prog ops Q rest (a.put op.dst (.slice (some ⟨w.heap.size, 0, none⟩) n n)) (w.alloc (.cells cs e))) : wpList Yba.prog ops Q (op :: rest) a w := by
  subst hcs
  exact wpList_exec hgd _ (exec_make ht hinfo hby x ho n hn hx) h

/-- A store of some cells into a block whose contents do not matter. -/
theorem run_store_sz {P : Program} {w : World} {g o : Nat} {e ty : TypeId} {cur : Array Value} (hb : w.heap[g]? = some (.cells cur e (0, 0))) (v : Value) (cs : List Value) (hv : v.cells = cs.toArray) (hsz : (P.info? ty).map (·.size) = some cs.length) (h1 : ∀ u ∈ cs, u.oneCell' = true) (hl : o + cs.length ≤ cur.size) :
    ∃ cur', (storeVar ty ⟨g, o, none⟩ v).run P w = .ok () (w.setRow g cur') ∧ cur'.size = cur.size := by
  have hst := run_storeCells_at P g o e cs 0 cur w hb (by omega) h1
  cases hq : P.info? ty with
  | none => simp [hq] at hsz
  | some j =>
    have hs' : j.size = cs.length := by simpa [hq] using hsz
    refine ⟨_, by simp [storeVar, sizeOf, typeInfo, hq, hv, hs', hst]; rfl, ?_⟩
    simp
    omega

end Go.Proofs.Ybulkdspq
