/-
  SMALL LAWS that the walk of LawS5968AWhole wants and that the library lacks: where the slice that append hands back lies; copy of elements of several cells; rows of waitingLock (three cells an element).
-/
import Derived.Test.YbulkdsooProg
import Derived.WalkKit
import Derived.WalkSpells
import Derived.Below
import Derived.BigQuiet
import Derived.BigRegion
import Derived.Deep.QuietTactic
import Derived.Deep.LoopGhost
import Derived.Deep.OwnRows
namespace Go.Proofs.Ybulkdsoo
open Go.RowKit
set_option linter.unusedSimpArgs false
set_option linter.unusedVariables false

section
variable {P : Program} (w : World)

/-- append of m > 0 elements onto a row of the call's own: as 'run_append_own', AND the new value lies in the old block or in the block at the heap's end. -/
theorem run_append_where (base : Nat) (t ty e : TypeId) (i : TypeInfo) (z : Value) (size bytes : Nat) (ht : P.underlying t = some (.slice e)) (hi : P.info? e = some i) (hz : i.zero = some z)
    (hsize : i.size = size) (hby : i.bytes = bytes) (hzs : z.cells.size = size) (hsz : 0 < size)
    (v : Value) (n : Nat) (xs : List Value) (hown : w.ownsRow base e size v n xs)
    (a : Addr) (m c : Nat) (news : List Value) (hl : news.length = m * size) (hnews : ∀ j u, news[j]? = some u → w.cell? (a.add j) = some u) (h1 : ∀ u ∈ news, u.oneCell' = true)
    (h63 : n + m ≤ maxLen) (hbytes : (n + m) * bytes ≤ 140737488355328) (hbase : base ≤ w.heap.size) (hm : 0 < m) :
    ∃ v' w', (Builtin.append_ #[t, t] ty #[v, .slice (some a) m c]).run P w = .ok v' w' ∧ w'.ownsRow base e size v' (n + m) (xs ++ news) ∧ w.grownBy w' v.ownBlock ∧
      (v'.ownBlock = v.ownBlock ∧ v.ownBlock ≠ none ∨ v'.ownBlock = some w.heap.size) := by
  obtain ⟨v', w', hr, h2, h3, _⟩ := run_append_own (P := P) w base t ty e i z size bytes ht hi hz hsize hby hzs hsz v n xs hown a m c news hl hnews h1 h63 hbytes hbase
  refine ⟨v', w', hr, h2, h3, ?_⟩
  subst hsize
  subst hby
  have hsmall : n + m ≤ 9223372036854775807 := by simp only [maxLen] at h63; omega
  rcases hown.2 with ⟨rfl, rfl⟩ | ⟨g, cap, cur, rfl, hbg, hg, hnc, hcm, hcs, htake⟩
  · have hx : xs = [] := List.eq_nil_of_length_eq_zero (by simpa using hown.1)
    subst hx
    have hr2 := run_append_nil (P := P) w t ty e i z ht hi hz a m c news hl hnews (by omega) (by omega) (by have hb := hbytes; simp only [Nat.zero_add] at hb; omega)
    rw [hr] at hr2
    injection hr2 with e1 e2
    right
    rw [e1]; rfl
  · by_cases hroom : n + m ≤ cap
    · have hfit : n * i.size + news.length ≤ cur.size := by rw [hl, hcs, ← Nat.add_mul]; exact Nat.mul_le_mul_right _ hroom
      have hr2 := run_append_room (P := P) w t ty e i ht hi g n cap cur hg a m c news hl hnews h1 hroom hfit
      rw [hr] at hr2
      injection hr2 with e1 e2
      left
      rw [e1]; exact ⟨rfl, by simp [Value.ownBlock]⟩
    · have holds : ∀ j u, xs[j]? = some u → w.cell? ((⟨g, 0, none⟩ : Addr).add j) = some u := hown.cells (g := g) rfl
      have hr2 := run_append_grow (P := P) w t ty e i z ht hi hz ⟨g, 0, none⟩ n cap xs hown.1 holds a m c news hl hnews (by omega) (by omega) (growslice_fits (by omega) hbytes)
      rw [hr] at hr2
      injection hr2 with e1 e2
      right
      rw [e1]; rfl

/-- .. as a law of the walk. -/
theorem wpList_append_where {ops : Array Oper} {rest : List Oper} {o : Oper} {a : Act} {Q : Exit → Act → World → Prop} (hgd : o.guard = none) (s x : Operand) (t : TypeId)
    (ho : o.op = .call { callee := .builtin .append, args := #[s, x], argTypes := #[t, t] })
    (base : Nat) (e : TypeId) (i : TypeInfo) (z : Value) (size bytes : Nat) (ht : P.underlying t = some (.slice e)) (hi : P.info? e = some i) (hz : i.zero = some z)
    (hsize : i.size = size) (hby : i.bytes = bytes) (hzs : z.cells.size = size) (hsz : 0 < size)
    (v : Value) (n : Nat) (xs : List Value) (hs : a.eval s = v) (hown : w.ownsRow base e size v n xs)
    (ad : Addr) (m c : Nat) (news : List Value) (hx : a.eval x = .slice (some ad) m c) (hl : news.length = m * size) (hnews : ∀ j u, news[j]? = some u → w.cell? (ad.add j) = some u) (h1 : ∀ u ∈ news, u.oneCell' = true)
    (h63 : n + m ≤ maxLen) (hbytes : (n + m) * bytes ≤ 140737488355328) (hbase : base ≤ w.heap.size) (hm : 0 < m)
    (h : ∀ v' w', w'.ownsRow base e size v' (n + m) (xs ++ news) → w.grownBy w' v.ownBlock → (v'.ownBlock = v.ownBlock ∧ v.ownBlock ≠ none ∨ v'.ownBlock = some w.heap.size) → wpList P ops Q rest (a.put o.dst v') w') : wpList P ops Q (o :: rest) a w := by
  obtain ⟨v', w', hr, h2, h3, h4⟩ := run_append_where (P := P) w base t o.type e i z size bytes ht hi hz hsize hby hzs hsz v n xs hown ad m c news hl hnews h1 h63 hbytes hbase hm
  refine wpList_plain hgd fun K hK => ?_
  unfold Oper.wp execOp
  simp only [ho, resolve, invoke, builtin, Sem.run_bind, Sem.run_pure, Result.andThen_ok, List.map_toArray, List.map_cons, List.map_nil, hs, hx, hr]
  exact hK _ _ (h v' w' h2 h3 h4)

/-- copy, the elements of 'size' cells each, both slices of one length, the destination a whole row. -/
theorem run_copy_whole (dT sT ty elem : TypeId) (g n dCap : Nat) (a : Addr) (sCap size : Nat) (cur : Array Value) (t : TypeId) (cs : List Value)
    (hu : P.underlying dT = some (.slice elem)) (hs : (P.info? elem).map (·.size) = some size)
    (hg : w.heap[g]? = some (.cells cur t (0, 0))) (hn : cs.length = n * size)
    (hsrc : ∀ j v, cs[j]? = some v → w.cell? (a.add j) = some v) (hfit : cs.length = cur.size) (h1 : ∀ v ∈ cs, v.oneCell' = true) :
    (Builtin.copy_ #[dT, sT] ty #[.slice (some ⟨g, 0, none⟩) n dCap, .slice (some a) n sCap]).run P w = .ok (goInt n) (w.setRow g cs.toArray) := by
  have hl := run_loadCells_list (P := P) w a cs hsrc
  have hst := run_storeCells_at P g 0 t cs 0 cur w hg (by simp; omega) h1
  cases hq : P.info? elem with
  | none => simp [hq] at hs
  | some i =>
    have hi : i.size = size := by simpa [hq] using hs
    have hmin : Nat.min n n = n := Nat.min_self n
    have e : cur.toList.drop cs.length = [] := List.drop_eq_nil_of_le (by simp; omega)
    simp [Builtin.copy_, run_underlying hu, Builtin.lenOf, Builtin.firstCells, sizeOf, typeInfo, hq, hi, hmin, ← hn, hl, hst, e]

theorem wpList_copy_whole {ops : Array Oper} {rest : List Oper} {o : Oper} {act : Act} {Q : Exit → Act → World → Prop} (hgd : o.guard = none) (d s : Operand) (dT sT : TypeId)
    (ho : o.op = .call { callee := .builtin .copy, args := #[d, s], argTypes := #[dT, sT] }) (elem : TypeId) (size : Nat) (hu : P.underlying dT = some (.slice elem)) (hsz : (P.info? elem).map (·.size) = some size)
    (g n dCap : Nat) (ad : Addr) (sCap : Nat) (hd : act.eval d = .slice (some ⟨g, 0, none⟩) n dCap) (hs : act.eval s = .slice (some ad) n sCap)
    (cur : Array Value) (t : TypeId) (hg : w.heap[g]? = some (.cells cur t (0, 0))) (cs : List Value) (hn : cs.length = n * size)
    (hsrc : ∀ j v, cs[j]? = some v → w.cell? (ad.add j) = some v) (hfit : cs.length = cur.size) (h1 : ∀ v ∈ cs, v.oneCell' = true)
    (h : wpList P ops Q rest (act.put o.dst (goInt n)) (w.setRow g cs.toArray)) : wpList P ops Q (o :: rest) act w := by
  refine wpList_plain hgd fun K hK => ?_
  have hrun := run_copy_whole (P := P) w dT sT o.type elem g n dCap ad sCap size cur t cs hu hsz hg hn hsrc hfit h1
  unfold Oper.wp
  simp [execOp, ho, resolve, invoke, builtin, hd, hs, hrun, Result.andThen]
  exact hK _ _ h

end

theorem Yba.info40 : (Yba.prog.info? 40).map (fun i => (i.zero, i.size, i.bytes)) = some (some (.agg #[.pointer none, .int .i32 0, .int .i32 0]), 3, 16) := by kernel_rfl
theorem Yba.zero40 (w : World) : (zeroValue 40).run Yba.prog w = .ok (.agg #[.pointer none, .int .i32 0, .int .i32 0]) w := by kernel_rfl

/-! ### Rows of waitingLock -/

/-- The cells of a row of waitingLock: session, mode, place among the session's shared. -/
def wl (p : Nat → Option Addr) (md sh : Nat → Int) : Nat → Value := fun c => if c % 3 = 0 then .pointer (p (c / 3)) else if c % 3 = 1 then .int .i32 (md (c / 3)) else .int .i32 (sh (c / 3))

theorem wl0 (p : Nat → Option Addr) (md sh : Nat → Int) (t : Nat) : wl p md sh (t * 3) = .pointer (p t) := by
  have h1 : t * 3 % 3 = 0 := by omega
  have h2 : t * 3 / 3 = t := by omega
  simp [wl, h2]
theorem wl1 (p : Nat → Option Addr) (md sh : Nat → Int) (t : Nat) : wl p md sh (t * 3 + 1) = .int .i32 (md t) := by
  have h1 : (t * 3 + 1) % 3 = 1 := by omega
  have h2 : (t * 3 + 1) / 3 = t := by omega
  simp [wl, h1, h2]
theorem wl2 (p : Nat → Option Addr) (md sh : Nat → Int) (t : Nat) : wl p md sh (t * 3 + 2) = .int .i32 (sh t) := by
  have h1 : (t * 3 + 2) % 3 = 2 := by omega
  have h2 : (t * 3 + 2) / 3 = t := by omega
  simp [wl, h1, h2]

def up {α : Type} (f : Nat → α) (t : Nat) (x : α) : Nat → α := fun j => if j = t then x else f j

theorem up_same {α : Type} (f : Nat → α) (t : Nat) (x : α) : up f t x t = x := by simp [up]
theorem up_other {α : Type} (f : Nat → α) (t : Nat) (x : α) (j : Nat) (h : j ≠ t) : up f t x j = f j := by simp [up, h]

/-- Block b is a row of m waitingLocks. -/
def W3 (w : World) (b m : Nat) (p : Nat → Option Addr) (md sh : Nat → Int) : Prop := w.rowIs b 40 (m * 3) (wl p md sh)

namespace W3
variable {w : World} {b m : Nat} {p : Nat → Option Addr} {md sh : Nat → Int}

theorem c0 (h : W3 w b m p md sh) {t : Nat} (ht : t < m) : w.cell? ⟨b, t * 3, none⟩ = some (.pointer (p t)) := by
  rw [← wl0 p md sh t]; exact World.rowIs.cell h (by omega)
theorem c1 (h : W3 w b m p md sh) {t : Nat} (ht : t < m) : w.cell? ⟨b, t * 3 + 1, none⟩ = some (.int .i32 (md t)) := by
  rw [← wl1 p md sh t]; exact World.rowIs.cell h (by omega)
theorem c2 (h : W3 w b m p md sh) {t : Nat} (ht : t < m) : w.cell? ⟨b, t * 3 + 2, none⟩ = some (.int .i32 (sh t)) := by
  rw [← wl2 p md sh t]; exact World.rowIs.cell h (by omega)
theorem fr (h : W3 w b m p md sh) (i : Nat) : w.frozen? ⟨b, i, none⟩ = false := World.rowIs.frozen h i

/-- One element stored, cell by cell. -/
theorem store (h : W3 w b m p md sh) (t : Nat) (x : Option Addr) (y z : Int) :
    W3 (((w.setCell ⟨b, t * 3, none⟩ (.pointer x)).setCell ⟨b, t * 3 + 1, none⟩ (.int .i32 y)).setCell ⟨b, t * 3 + 2, none⟩ (.int .i32 z)) b m (up p t x) (up md t y) (up sh t z) := by
  refine (((World.rowIs.set h _ _).set _ _).set _ _).congr fun c hc => ?_
  by_cases e2 : c = t * 3 + 2
  · subst e2; rw [wl2 (up p t x) (up md t y) (up sh t z) t, up_same]; simp
  · by_cases e1 : c = t * 3 + 1
    · subst e1; rw [wl1 (up p t x) (up md t y) (up sh t z) t, up_same]; simp
    · by_cases e0 : c = t * 3
      · subst e0; rw [wl0 (up p t x) (up md t y) (up sh t z) t, up_same]; simp
      · have hne : c / 3 ≠ t := by omega
        rw [if_neg e2, if_neg e1, if_neg e0]
        simp only [wl, up, if_neg hne]

theorem congr (h : W3 w b m p md sh) {p' : Nat → Option Addr} {md' sh' : Nat → Int} (e : ∀ t, t < m → p t = p' t ∧ md t = md' t ∧ sh t = sh' t) : W3 w b m p' md' sh' := by
  refine World.rowIs.congr h fun c hc => ?_
  obtain ⟨a1, a2, a3⟩ := e (c / 3) (by omega)
  simp only [wl, a1, a2, a3]

theorem of_block {w' : World} (h : W3 w b m p md sh) (e : w'.heap[b]? = w.heap[b]?) : W3 w' b m p md sh := World.rowIs.of_block h e

end W3

theorem grownBy_setCell (w : World) (b o : Nat) (v : Value) : w.grownBy (w.setCell ⟨b, o, none⟩ v) (some b) :=
  ⟨rfl, rfl, rfl, by simp [World.setCell], fun k _ hk => Below.heap_setCell _ _ _ _ (fun e => hk (by rw [e]))⟩

theorem grownBy_trans {a b c : World} {row : Option Nat} (h : a.grownBy b row) (k : b.grownBy c row) : a.grownBy c row :=
  ⟨k.os.trans h.os, k.tape.trans h.tape, k.output.trans h.output, Nat.le_trans h.size k.size, fun i hi hne => (k.block i (Nat.lt_of_lt_of_le hi h.size) hne).trans (h.block i hi hne)⟩

/-- 'clear(ls[t:t+1])'. -/
theorem run_clear_one {w : World} (ty : TypeId) (b m t c : Nat) (p : Nat → Option Addr) (md sh : Nat → Int) (hr : W3 w b m p md sh) (ht : t < m) (L : Nat) (hL : L = 1) :
    ∃ w', (Builtin.clear_ #[34] ty #[.slice (some ⟨b, t * 3, none⟩) L c]).run Yba.prog w = .ok (.tuple #[]) w' ∧ W3 w' b m (up p t none) (up md t 0) (up sh t 0) ∧ w.grownBy w' (some b) := by
  subst hL
  have hst : (storeCells ⟨b, t * 3, none⟩ [.pointer none, .int .i32 0, .int .i32 0] 0).run Yba.prog w = .ok () _ := run_storeCells_cells (P := Yba.prog) b (t * 3) [.pointer none, .int .i32 0, .int .i32 0] 0 w
    (fun j hj => by
      match j, hj with
      | 0, _ => simp [hr.c0 ht]
      | 1, _ => simp [hr.c1 ht]
      | 2, _ => simp [hr.c2 ht])
    (fun j hj => hr.fr _) (by decide)
  simp only [Nat.add_zero] at hst
  have hrun : (Builtin.clear_ #[34] ty #[.slice (some ⟨b, t * 3, none⟩) 1 c]).run Yba.prog w = .ok (.tuple #[]) (((w.setCell ⟨b, t * 3, none⟩ (.pointer none)).setCell ⟨b, t * 3 + 1, none⟩ (.int .i32 0)).setCell ⟨b, t * 3 + 2, none⟩ (.int .i32 0)) := by
    have hz : (Builtin.zeroCells (Value.agg #[.pointer none, .int .i32 0, .int .i32 0]).cells 1).toList = [.pointer none, .int .i32 0, .int .i32 0] := by kernel_rfl
    simp [Builtin.clear_, run_underlying Yba.underlying34, hz, hst, World.setCells]
  exact ⟨_, hrun, hr.store t none 0 0, grownBy_trans (grownBy_trans (grownBy_setCell _ _ _ _) (grownBy_setCell _ _ _ _)) (grownBy_setCell _ _ _ _)⟩

end Go.Proofs.Ybulkdsoo
