/-
  THE MEMORY OF LawS5968AWhole from the copy on.
-/
import Derived.Test.YbulkdsooAInv
import Derived.LaidEqlPtr
namespace Go.Proofs.Ybulkdsoo
open Go.RowKit
set_option linter.unusedSimpArgs false
set_option linter.unusedVariables false

theorem eq_ptr_same (p : Option Addr) (w : World) : (Op.equalIn 9999 25 (.pointer p) (.pointer p)).run Yba.prog w = .ok true w := by
  have h : ∀ d : Nat, (Op.equalIn (d + 1) 25 (.pointer p) (.pointer p)).run Yba.prog w = .ok true w := fun d => by
    cases p with
    | none => simp [Op.equalIn, run_underlying Yba.underlying25]
    | some a =>
      obtain ⟨j, hj⟩ : ∃ j, Yba.prog.info? 33 = some j := Option.isSome_iff_exists.1 (by kernel_rfl)
      simp [Op.equalIn, run_underlying Yba.underlying25, sizeOf, typeInfo, hj, run_sameAddr_same]
  exact h 9998

def pw (w : World) (o : Nat → Nat) : Nat → Option Addr := fun t => some ⟨w.heap.size + 1 + o t, 0, none⟩
def rk (o : Nat → Nat) : Nat → Int := fun t => (rank o t : Int)

/-- Behind the copy: ws is full, old is its like in block bo. -/
structure Fin (w wf : World) (m : Nat) (o : Nat → Nat) (M : Nat → Int) (V : Nat → Value) (bo : Nat) : Prop where
  inv : Inv w wf m m m o M V
  ws : W3 wf (w.heap.size + 4) m (pw w o) M (rk o)
  old : W3 wf bo m (pw w o) M (rk o)
  lo : w.heap.size + 5 ≤ bo
  hi : bo < wf.heap.size
  off : ∀ j, j < 3 → (V j).ownBlock ≠ some bo

theorem Inv.ws' {w wr : World} {m kl : Nat} {o : Nat → Nat} {M : Nat → Int} {V : Nat → Value} (h : Inv w wr m kl m o M V) : W3 wr (w.heap.size + 4) m (pw w o) M (rk o) :=
  h.ws.congr fun t ht => by simp [ht, pw, rk]

theorem W3_cells {w : World} {b m : Nat} {p : Nat → Option Addr} {md sh : Nat → Int} (h : W3 w b m p md sh) :
    ∀ j v, ((List.range (m * 3)).map (wl p md sh))[j]? = some v → w.cell? ((⟨b, 0, none⟩ : Addr).add j) = some v := by
  intro j v hj
  rw [List.getElem?_map] at hj
  obtain ⟨t, ht, rfl⟩ := Option.map_eq_some_iff.1 hj
  obtain ⟨hlt, ht'⟩ := List.getElem?_eq_some_iff.1 ht
  simp only [List.length_range] at hlt
  simp only [List.getElem_range] at ht'
  subst ht'
  rw [Addr.add_lit, Nat.zero_add]
  exact World.rowIs.cell h hlt

theorem wl_oneCell (p : Nat → Option Addr) (md sh : Nat → Int) (n : Nat) : ∀ v ∈ (List.range n).map (wl p md sh), v.oneCell' = true := by
  intro v hv
  obtain ⟨t, _, rfl⟩ := List.mem_map.1 hv
  unfold wl
  split
  · rfl
  · split <;> rfl

theorem Inv_copy {w wr : World} {m : Nat} {o : Nat → Nat} {M : Nat → Int} {V : Nat → Value} (h : Inv w wr m m m o M V) (ty : TypeId) :
    ∃ W2, (Builtin.copy_ #[34, 34] ty #[.slice (some ⟨wr.heap.size, 0, none⟩) m m, .slice (some ⟨w.heap.size + 4, 0, none⟩) m m]).run Yba.prog (wr.alloc (.cells (madeCells #[.pointer none, .int .i32 0, .int .i32 0] (m * 3)) 40)) = .ok (goInt m) W2 ∧
      Fin w W2 m o M V wr.heap.size ∧ W2.heap.size = wr.heap.size + 1 := by
  have hsz := h.size
  have hI := h.of_blocks (World.grownBy_alloc wr (.cells (madeCells #[.pointer none, .int .i32 0, .int .i32 0] (m * 3)) 40) none)
  have hw := hI.ws'
  have hcs : ((List.range (m * 3)).map (wl (pw w o) M (rk o))).length = m * 3 := by simp
  have hi40 : (Yba.prog.info? 40).map (·.size) = some 3 := by kernel_rfl
  have hnew : (wr.alloc (.cells (madeCells #[.pointer none, .int .i32 0, .int .i32 0] (m * 3)) 40)).heap[wr.heap.size]? = some (.cells (madeCells #[.pointer none, .int .i32 0, .int .i32 0] (m * 3)) 40 (0, 0)) := heap_alloc_new wr _
  have hr := run_copy_whole (P := Yba.prog) (wr.alloc (.cells (madeCells #[.pointer none, .int .i32 0, .int .i32 0] (m * 3)) 40)) 34 34 ty 40 wr.heap.size m m ⟨w.heap.size + 4, 0, none⟩ m 3 _ 40 _ Yba.underlying34 hi40 hnew hcs (W3_cells hw) (by rw [hcs, size_madeCells]) (wl_oneCell _ _ _ _)
  refine ⟨_, hr, ?_, by simp [World.setRow]⟩
  have hg : (wr.alloc (.cells (madeCells #[.pointer none, .int .i32 0, .int .i32 0] (m * 3)) 40)).grownBy ((wr.alloc (.cells (madeCells #[.pointer none, .int .i32 0, .int .i32 0] (m * 3)) 40)).setRow wr.heap.size ((List.range (m * 3)).map (wl (pw w o) M (rk o))).toArray) (some wr.heap.size) :=
    ⟨rfl, rfl, rfl, by simp [World.setRow], fun k _ hk => setRow_other _ _ _ _ (fun e => hk (by rw [e]))⟩
  have hg0 : wr.grownBy ((wr.alloc (.cells (madeCells #[.pointer none, .int .i32 0, .int .i32 0] (m * 3)) 40)).setRow wr.heap.size ((List.range (m * 3)).map (wl (pw w o) M (rk o))).toArray) none :=
    ⟨rfl, rfl, rfl, by simp [World.setRow], fun k hk _ => (hg.block k (by simp; omega) (by simp; omega)).trans (Below.heap_alloc wr _ k hk)⟩
  have hfin := h.of_blocks hg0
  refine ⟨hfin, hfin.ws', ?_, by omega, by simp [World.setRow], fun j hj e => ?_⟩
  · refine ⟨_, setRow_heap _ _ _ _ _ _ hnew, by simp, fun t ht => by simp [ht]⟩
  · have := ((h.own j hj).lt _ e).2
    omega

theorem Fin.of_blocks {w wf wf' : World} {m : Nat} {o : Nat → Nat} {M : Nat → Int} {V : Nat → Value} {bo : Nat} (h : Fin w wf m o M V bo) (hg : wf.grownBy wf' none) : Fin w wf' m o M V bo :=
  ⟨h.inv.of_blocks hg, (h.inv.of_blocks hg).ws', h.old.of_block (hg.block _ h.hi (by simp)), h.lo, Nat.lt_of_lt_of_le h.hi hg.size, h.off⟩

/-- The third loop: j of the three lengths are written down. -/
structure L3 (w W2 wr : World) (m : Nat) (o : Nat → Nat) (j : Nat) : Prop where
  grown : W2.grownBy wr none
  size : wr.heap.size = W2.heap.size + 1
  row : wr.rowIs W2.heap.size 41 3 (fun t => if t < j then .int .i64 ((Ls o t m).length : Nat) else .int .i64 0)

theorem L3_start (w W2 : World) (m : Nat) (o : Nat → Nat) : L3 w W2 (W2.alloc (.cells #[.int .i64 0, .int .i64 0, .int .i64 0] 41)) m o 0 :=
  ⟨World.grownBy_alloc _ _ _, by simp, World.rowIs_alloc W2 _ 41 _ (fun i hi => by
    match i, hi with
    | 0, _ => rfl
    | 1, _ => rfl
    | 2, _ => rfl)⟩

theorem L3_step {w W2 wr : World} {m : Nat} {o : Nat → Nat} {j : Nat} (h : L3 w W2 wr m o j) :
    L3 w W2 (wr.setCell ⟨W2.heap.size, j, none⟩ (.int .i64 ((Ls o j m).length : Nat))) m o (j + 1) := by
  refine ⟨?_, by simp [World.setCell, h.size], (h.row.set j _).congr fun t _ => ?_⟩
  · exact ⟨h.grown.os, h.grown.tape, h.grown.output, by simp [World.setCell, h.size], fun k hk hne => (Below.heap_setCell _ _ _ _ (by show k ≠ W2.heap.size; omega)).trans (h.grown.block k hk hne)⟩
  · by_cases e : t = j
    · subst e; simp
    · have e' : (t < j + 1) = (t < j) := by rw [eq_iff_iff]; omega
      simp [e, e']

/-- Behind stopWaiting(i). -/
structure Done (w wf : World) (m i : Nat) (o : Nat → Nat) (M : Nat → Int) (V : Nat → Value) (bo bl bc : Nat) : Prop where
  below : Below w.heap.size w wf
  low : w.heap.size + 5 ≤ wf.heap.size
  ltc : bc < wf.heap.size
  ltl : bl < wf.heap.size
  lto : bo < wf.heap.size
  arr : ∀ j, j < 3 → wf.cell? ⟨w.heap.size, j, none⟩ = some (.pointer (some ⟨w.heap.size + 1 + j, 0, none⟩))
  ses : ∀ j, j < 3 → wf.cell? ⟨w.heap.size + 1 + j, 6, none⟩ = some (V j)
  ws : W3 wf (w.heap.size + 4) m (up (up (pw w o) i (pw w o (m - 1))) (m - 1) none) (up (up M i (M (m - 1))) (m - 1) 0) (up (up (rk o) i (rk o (m - 1))) (m - 1) 0)
  cr : wf.cell? ⟨bc, 3, none⟩ = some (.slice (some ⟨w.heap.size + 4, 0, none⟩) (m - 1) m)
  old : W3 wf bo m (pw w o) M (rk o)
  lens : ∀ j, j < 3 → wf.cell? ⟨bl, j, none⟩ = some (.int .i64 ((Ls o j m).length : Nat))
  own : ∀ j, j < 3 → wf.ownsRow (w.heap.size + 5) 38 4 (V j) (Ls o j m).length (shc (After o m i j))

theorem Done.of_blocks {w wf wf' : World} {m i : Nat} {o : Nat → Nat} {M : Nat → Int} {V : Nat → Value} {bo bl bc : Nat} (h : Done w wf m i o M V bo bl bc) (hg : wf.grownBy wf' none) : Done w wf' m i o M V bo bl bc := by
  have hlow := h.low
  have hb : ∀ k, k < wf.heap.size → wf'.heap[k]? = wf.heap[k]? := fun k hk => hg.block k hk (by simp)
  exact ⟨h.below.trans ⟨hg.os, hg.tape, hg.output, hg.size, fun k hk => hb k (by have := h.below.size; omega)⟩, Nat.le_trans h.low hg.size, Nat.lt_of_lt_of_le h.ltc hg.size, Nat.lt_of_lt_of_le h.ltl hg.size, Nat.lt_of_lt_of_le h.lto hg.size,
    fun j hj => hg.cell (h.arr j hj) (by simp), fun j hj => hg.cell (h.ses j hj) (by simp), h.ws.of_block (hb _ (by omega)), hg.cell h.cr (by simp), h.old.of_block (hb _ h.lto), fun j hj => hg.cell (h.lens j hj) (by simp), fun j hj => (h.own j hj).kept hg (Classical.em _)⟩

theorem Done.alloc {w wf : World} {m i : Nat} {o : Nat → Nat} {M : Nat → Int} {V : Nat → Value} {bo bl bc : Nat} (h : Done w wf m i o M V bo bl bc) (ob : Obj) : Done w (wf.alloc ob) m i o M V bo bl bc := h.of_blocks (World.grownBy_alloc _ _ _)
theorem Done.drewN {w wf : World} {m i : Nat} {o : Nat → Nat} {M : Nat → Int} {V : Nat → Value} {bo bl bc : Nat} (h : Done w wf m i o M V bo bl bc) (n : Nat) : Done w (wf.drewN n) m i o M V bo bl bc :=
  h.of_blocks ⟨rfl, rfl, rfl, Nat.le_refl _, fun _ _ _ => rfl⟩

/-- What is known just ahead of stopWaiting: the crowd is the last block. -/
structure Ready (w wf : World) (m : Nat) (o : Nat → Nat) (M : Nat → Int) (V : Nat → Value) (bo bl bc : Nat) : Prop where
  fin : Fin w wf m o M V bo
  lens : ∀ j, j < 3 → wf.cell? ⟨bl, j, none⟩ = some (.int .i64 ((Ls o j m).length : Nat))
  cr : wf.cell? ⟨bc, 3, none⟩ = some (.slice (some ⟨w.heap.size + 4, 0, none⟩) m m)
  crf : wf.frozen? ⟨bc, 3, none⟩ = false
  lo : bo < bl
  lc : bl < bc
  hc : bc < wf.heap.size
  offl : ∀ j, j < 3 → ∀ q, (V j).ownBlock = some q → q < bl

theorem ready {w W2 wr : World} {m : Nat} {o : Nat → Nat} {M : Nat → Int} {V : Nat → Value} {bo : Nat} (hf : Fin w W2 m o M V bo) (h : L3 w W2 wr m o 3) :
    Ready w (wr.alloc (.cells #[.slice none 0 0, .slice none 0 0, .slice none 0 0, .slice (some ⟨w.heap.size + 4, 0, none⟩) m m, .pointer none] 46)) m o M V bo W2.heap.size (W2.heap.size + 1) := by
  have hs := h.size
  have hnew : (wr.alloc (.cells #[.slice none 0 0, .slice none 0 0, .slice none 0 0, .slice (some ⟨w.heap.size + 4, 0, none⟩) m m, .pointer none] 46)).heap[W2.heap.size + 1]? = some (.cells #[.slice none 0 0, .slice none 0 0, .slice none 0 0, .slice (some ⟨w.heap.size + 4, 0, none⟩) m m, .pointer none] 46 (0, 0)) := by
    rw [← hs]; exact heap_alloc_new wr _
  refine ⟨(hf.of_blocks h.grown).of_blocks (World.grownBy_alloc _ _ _), fun j hj => ?_, ?_, ?_, hf.hi, by omega, by simp [hs], fun j hj q e => ((hf.inv.own j hj).lt q e).2⟩
  · have := h.row.cell hj
    rw [if_pos hj] at this
    exact Lib.cell?_alloc_some _ this
  · simp [World.cell?, hnew]
  · simp [World.frozen?, hnew]

theorem done_of {w wf w' : World} {m i : Nat} {o : Nat → Nat} {M : Nat → Int} {V : Nat → Value} {bo bl bc : Nat} (h : Ready w wf m o M V bo bl bc) (gg : Nat) (hg1 : w.heap.size + 5 ≤ gg) (hg2 : gg ≠ bo) (hg3 : gg ≠ bl)
    (hos : w'.os = wf.os) (htp : w'.tape = wf.tape) (hou : w'.output = wf.output) (hsz : wf.heap.size ≤ w'.heap.size)
    (hb : ∀ q, q < wf.heap.size → q ≠ w.heap.size + 4 → q ≠ bc → q ≠ gg → w'.heap[q]? = wf.heap[q]?)
    (hws : W3 w' (w.heap.size + 4) m (up (up (pw w o) i (pw w o (m - 1))) (m - 1) none) (up (up M i (M (m - 1))) (m - 1) 0) (up (up (rk o) i (rk o (m - 1))) (m - 1) 0))
    (hcr : w'.cell? ⟨bc, 3, none⟩ = some (.slice (some ⟨w.heap.size + 4, 0, none⟩) (m - 1) m))
    (hown : ∀ j, j < 3 → w'.ownsRow (w.heap.size + 5) 38 4 (V j) (Ls o j m).length (shc (After o m i j))) : Done w w' m i o M V bo bl bc := by
  have s1 := h.fin.inv.size
  have s2 := h.fin.inv.below.size
  have s3 := h.fin.lo
  have s4 := h.lo
  have s5 := h.lc
  have s6 := h.hc
  refine ⟨h.fin.inv.below.trans ⟨hos, htp, hou, hsz, fun q hq => hb q (by omega) (by omega) (by omega) (by omega)⟩, by omega, by omega, by omega, by omega, fun j hj => ?_, fun j hj => ?_, hws, hcr, ?_, fun j hj => ?_, hown⟩
  · exact (World.cell?_of_block (a := ⟨w.heap.size, j, none⟩) (hb w.heap.size (by omega) (by omega) (by omega) (by omega))).trans (h.fin.inv.arr j hj)
  · exact (World.cell?_of_block (a := ⟨w.heap.size + 1 + j, 6, none⟩) (hb (w.heap.size + 1 + j) (by omega) (by omega) (by omega) (by omega))).trans (h.fin.inv.ses j hj)
  · exact h.fin.old.of_block (hb bo (by omega) (by omega) (by omega) (fun e => hg2 e.symm))
  · exact (World.cell?_of_block (a := ⟨bl, j, none⟩) (hb bl (by omega) (by omega) (by omega) (fun e => hg3 e.symm))).trans (h.lens j hj)

theorem setCell_cell (w : World) (b o : Nat) (v u : Value) (h : w.cell? ⟨b, o, none⟩ = some u) : (w.setCell ⟨b, o, none⟩ v).cell? ⟨b, o, none⟩ = some v := by
  simp [World.cell?_setCell_same, h]

/-- stopWaiting at the last place. -/
theorem done_last {w wf w1 : World} {m : Nat} {o : Nat → Nat} {M : Nat → Int} {V : Nat → Value} {bo bl bc : Nat} (h : Ready w wf m o M V bo bl bc) (hm : 0 < m)
    (hws : W3 w1 (w.heap.size + 4) m (up (up (pw w o) (m - 1) (pw w o (m - 1))) (m - 1) none) (up (up M (m - 1) (M (m - 1))) (m - 1) 0) (up (up (rk o) (m - 1) (rk o (m - 1))) (m - 1) 0))
    (hg : wf.grownBy w1 (some (w.heap.size + 4))) :
    Done w (w1.setCell ⟨bc, 3, none⟩ (.slice (some ⟨w.heap.size + 4, 0, none⟩) (m - 1) m)) m (m - 1) o M V bo bl bc := by
  have s1 := h.fin.inv.size
  have s3 := h.fin.lo
  have s4 := h.lo
  have s5 := h.lc
  have s6 := h.hc
  refine done_of h bc (by omega) (by omega) (by omega) hg.os hg.tape hg.output (by simpa [World.setCell] using hg.size) (fun q hq h1 h2 _ => ?_) ?_ ?_ (fun j hj => ?_)
  · exact (Below.heap_setCell _ _ _ _ h2).trans (hg.block q hq (by simpa using h1))
  · exact hws.of_block (Below.heap_setCell _ _ _ _ (by show w.heap.size + 4 ≠ bc; omega))
  · exact setCell_cell _ _ _ _ _ (hg.cell h.cr (by simp; omega))
  · have e : After o m (m - 1) j = Ls o j m := by unfold After; rw [if_neg (by omega)]
    rw [e]
    refine ownsRow_setCell_other ((h.fin.inv.own j hj).kept hg (.inr fun e => ?_)) (fun e => ?_) _
    · have := ((h.fin.inv.own j hj).lt _ e).1; omega
    · have : bc < bl := h.offl j hj bc e
      omega

/-- stopWaiting before it. -/
theorem done_mid {w wf w1 : World} {m i : Nat} {o : Nat → Nat} {M : Nat → Int} {V : Nat → Value} {bo bl bc : Nat} (h : Ready w wf m o M V bo bl bc) (hi : i < m - 1) (ho : o (m - 1) < 3) (g cap : Nat)
    (hV : V (o (m - 1)) = .slice (some ⟨g, 0, none⟩) (Ls o (o (m - 1)) m).length cap)
    (hws : W3 w1 (w.heap.size + 4) m (up (up (pw w o) i (pw w o (m - 1))) (m - 1) none) (up (up M i (M (m - 1))) (m - 1) 0) (up (up (rk o) i (rk o (m - 1))) (m - 1) 0))
    (hg : wf.grownBy w1 (some (w.heap.size + 4))) (ob : Obj) :
    Done w (((w1.setCell ⟨bc, 3, none⟩ (.slice (some ⟨w.heap.size + 4, 0, none⟩) (m - 1) m)).setCell ⟨g, rank o (m - 1) * 4 + 3, none⟩ (.int .i32 i)).alloc ob).drew m i o M V bo bl bc := by
  have s1 := h.fin.inv.size
  have s3 := h.fin.lo
  have s4 := h.lo
  have s5 := h.lc
  have s6 := h.hc
  have hgb : (V (o (m - 1))).ownBlock = some g := by rw [hV]; rfl
  have g1 := ((h.fin.inv.own _ ho).lt g hgb)
  have g2 : g < bl := h.offl _ ho g hgb
  have g3 : g ≠ bo := fun e => h.fin.off _ ho (by rw [hgb, e])
  have hz : w1.heap.size ≥ wf.heap.size := hg.size
  have hA : ∀ q, q < wf.heap.size → q ≠ bc → q ≠ g → ((((w1.setCell ⟨bc, 3, none⟩ (.slice (some ⟨w.heap.size + 4, 0, none⟩) (m - 1) m)).setCell ⟨g, rank o (m - 1) * 4 + 3, none⟩ (.int .i32 i)).alloc ob).drew).heap[q]? = w1.heap[q]? := fun q hq h1 h2 =>
    (Below.heap_alloc _ ob q (by simp [World.setCell]; omega)).trans ((Below.heap_setCell _ _ _ _ h2).trans (Below.heap_setCell _ _ _ _ h1))
  refine done_of h g (by omega) g3 (by omega) hg.os hg.tape hg.output (by simp [World.setCell]; omega) (fun q hq h1 h2 h3 => ?_) ?_ ?_ (fun j hj => ?_)
  · exact (hA q hq h2 h3).trans (hg.block q hq (by simpa using h1))
  · exact hws.of_block (hA _ (by omega) (by omega) (by omega))
  · have e : ((((w1.setCell ⟨bc, 3, none⟩ (.slice (some ⟨w.heap.size + 4, 0, none⟩) (m - 1) m)).setCell ⟨g, rank o (m - 1) * 4 + 3, none⟩ (.int .i32 i)).alloc ob).drew).heap[bc]? = (w1.setCell ⟨bc, 3, none⟩ (.slice (some ⟨w.heap.size + 4, 0, none⟩) (m - 1) m)).heap[bc]? :=
      (Below.heap_alloc _ ob bc (by simp [World.setCell]; omega)).trans (Below.heap_setCell _ _ _ _ (by show bc ≠ g; omega))
    exact (World.cell?_of_block (a := ⟨bc, 3, none⟩) e).trans (setCell_cell _ _ _ _ _ (hg.cell h.cr (by simp; omega)))
  · have own1 : (w1.setCell ⟨bc, 3, none⟩ (.slice (some ⟨w.heap.size + 4, 0, none⟩) (m - 1) m)).ownsRow (w.heap.size + 5) 38 4 (V j) (Ls o j m).length (shc (Ls o j m)) := by
      refine ownsRow_setCell_other ((h.fin.inv.own j hj).kept hg (.inr fun e => ?_)) (fun e => ?_) _
      · have := ((h.fin.inv.own j hj).lt _ e).1; omega
      · have : bc < bl := h.offl j hj bc e
        omega
    have step : ((w1.setCell ⟨bc, 3, none⟩ (.slice (some ⟨w.heap.size + 4, 0, none⟩) (m - 1) m)).setCell ⟨g, rank o (m - 1) * 4 + 3, none⟩ (.int .i32 i)).ownsRow (w.heap.size + 5) 38 4 (V j) (Ls o j m).length (shc (After o m i j)) := by
      by_cases e : o (m - 1) = j
      · subst e
        rw [hV] at own1 ⊢
        have := (own1.stored (rank o (m - 1) * 4 + 3) (.int .i32 i)).1
        rw [shc_set] at this
        unfold After
        rw [if_pos ⟨hi, rfl⟩]
        exact this
      · have e2 : After o m i j = Ls o j m := by unfold After; rw [if_neg (fun h => e h.2)]
        rw [e2]
        refine ownsRow_setCell_other own1 (fun e3 => ?_) _
        rcases h.fin.inv.apart (o (m - 1)) j ho hj e with h1 | h1
        · rw [hgb] at h1; cases h1
        · exact h1 (by rw [hgb]; exact e3.symm)
    exact step.alloc ob

theorem stop_ready {w wf : World} {m i : Nat} {o : Nat → Nat} {M : Nat → Int} {V : Nat → Value} {bo bl bc : Nat} (h : Ready w wf m o M V bo bl bc) (hi : i < m) (hm : m ≤ 65536) (ho : ∀ k, o k < 3) :
    Calls Yba.prog 5 #[.pointer (some ⟨bc, 0, none⟩), .int .i32 i] wf fun e w' => e = .returned (.tuple #[]) ∧ Done w w' m i o M V bo bl bc := by
  have s1 := h.fin.inv.size
  have s3 := h.fin.lo
  have s4 := h.lo
  have s5 := h.lc
  have s6 := h.hc
  by_cases hlast : i = m - 1
  · subst hlast
    have e : (((m - 1 : Nat) : Int)) = (m : Int) - 1 := by omega
    rw [e]
    refine (stop_last bc (w.heap.size + 4) m (pw w o) M (rk o) wf h.fin.ws (by omega) hm h.cr h.crf (by omega)).mono ?_
    rintro e w' ⟨rfl, w1, hws, hg, rfl⟩
    exact ⟨rfl, done_last h (by omega) hws hg⟩
  · have hr := rank_lt o (m - 1) m (by omega)
    have hown := h.fin.inv.own _ (ho (m - 1))
    have hlen := Ls_le o (o (m - 1)) m
    rcases hown.2 with ⟨e1, e2⟩ | ⟨g, cap, cur, hV, hbg, hgh, _⟩
    · omega
    · have hgb : (V (o (m - 1))).ownBlock = some g := by rw [hV]; rfl
      have g2 : g < bl := h.offl _ (ho _) g hgb
      have hown' := hown
      rw [hV] at hown'
      have hses := h.fin.inv.ses _ (ho (m - 1))
      rw [hV] at hses
      have hc := hown'.cellAt (rank o (m - 1) * 4 + 3) (by omega)
      rw [shc_at _ _ _ (Ls_at o (m - 1) m (by omega))] at hc
      refine (stop_mid bc (w.heap.size + 4) m i (pw w o) M (rk o) wf h.fin.ws (by omega) hm h.cr h.crf (by omega) (w.heap.size + 1 + o (m - 1)) g (rank o (m - 1)) (Ls o (o (m - 1)) m).length cap rfl rfl hses hr (by omega) _ hc
        (hown'.frozenAt _) (by have := ho (m - 1); omega) (by have := ho (m - 1); omega) (by omega) (by omega)).mono ?_
      rintro e w' ⟨rfl, w1, ob, hws, hg, rfl⟩
      exact ⟨rfl, done_mid h (by omega) (ho _) g cap hV hws hg ob⟩

end Go.Proofs.Ybulkdsoo
