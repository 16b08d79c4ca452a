/-
  THE WALK of LawS5970BWhole (4).
-/
import Derived.Test.YbulkdspqBDone
namespace Go.Proofs.Ybulkdspq
open Go.RowKit
set_option linter.unusedSimpArgs false
set_option linter.unusedVariables false

/-- The first loop: j of the n tasks are made. -/
structure Half (w wr : World) (n j : Nat) : Prop where
  below : Below w.heap.size w wr
  size : wr.heap.size = w.heap.size + 3 + 2 * j
  pool : wr.rowIs w.heap.size 64 n (fun t => if t < j then .pointer (some ⟨w.heap.size + 4 + 2 * t, 0, none⟩) else .pointer none)
  cnts : wr.rowIs (w.heap.size + 1) 3 n (fun _ => .int .i64 0)
  box : wr.cell? ⟨w.heap.size + 2, 0, none⟩ = some (.slice (some ⟨w.heap.size + 1, 0, none⟩) n n)
  js : ∀ t, t < j → wr.cell? ⟨w.heap.size + 3 + 2 * t, 0, none⟩ = some (.int .i64 t)
  tasks : ∀ t, t < j → ∃ c, wr.heap[w.heap.size + 4 + 2 * t]? = some (.cells c 80 (0, 0)) ∧ c[7]? = some (.func (.func 15) #[] #[.pointer (some ⟨w.heap.size + 2, 0, none⟩), .pointer (some ⟨w.heap.size + 3 + 2 * t, 0, none⟩)])

theorem Half_start (w : World) (n : Nat) : Half w (((w.alloc (.cells (madeCells #[.pointer none] n) 64)).alloc (.cells (madeCells #[.int .i64 0] n) 3)).alloc (.cells #[.slice (some ⟨w.heap.size + 1, 0, none⟩) n n] 38)) n 0 := by
  have h1 := World.rowIs_made w (.pointer none) n 64
  have h2 := World.rowIs_made (w.alloc (.cells (madeCells #[.pointer none] n) 64)) (.int .i64 0) n 3
  refine ⟨(((Below.refl _ _).alloc (Nat.le_refl _) _).alloc (by simp) _).alloc (by simp; omega) _, by simp, ((h1.alloc _).alloc _).congr (fun t _ => by simp), ?_, ?_, fun t ht => absurd ht (Nat.not_lt_zero _), fun t ht => absurd ht (Nat.not_lt_zero _)⟩
  · have := h2.alloc (.cells #[.slice (some ⟨w.heap.size + 1, 0, none⟩) n n] 38)
    simpa using this
  · have hb : (((w.alloc (.cells (madeCells #[.pointer none] n) 64)).alloc (.cells (madeCells #[.int .i64 0] n) 3)).alloc (.cells #[.slice (some ⟨w.heap.size + 1, 0, none⟩) n n] 38)).heap[w.heap.size + 2]? = some (.cells #[.slice (some ⟨w.heap.size + 1, 0, none⟩) n n] 38 (0, 0)) := by
      have := heap_alloc_new ((w.alloc (.cells (madeCells #[.pointer none] n) 64)).alloc (.cells (madeCells #[.int .i64 0] n) 3)) (.cells #[.slice (some ⟨w.heap.size + 1, 0, none⟩) n n] 38)
      simp only [World.size_alloc] at this
      exact this
    simp only [World.cell?, hb]; rfl

theorem Half_step {w wr : World} {n j : Nat} (h : Half w wr n j) (hj : j < n) (c : Array Value) (hc : c[7]? = some (.func (.func 15) #[] #[.pointer (some ⟨w.heap.size + 2, 0, none⟩), .pointer (some ⟨w.heap.size + 3 + 2 * j, 0, none⟩)])) :
    Half w (((wr.setCell ⟨w.heap.size, j, none⟩ (.pointer (some ⟨w.heap.size + 3 + 2 * j + 1, 0, none⟩))).alloc (.cells #[.int .i64 j] 3)).alloc (.cells c 80)) n (j + 1) := by
  have hs := h.size
  obtain ⟨W1, hW1⟩ : ∃ W1, W1 = wr.setCell ⟨w.heap.size, j, none⟩ (.pointer (some ⟨w.heap.size + 3 + 2 * j + 1, 0, none⟩)) := ⟨_, rfl⟩
  have z1 : W1.heap.size = w.heap.size + 3 + 2 * j := by rw [hW1]; simpa [World.setCell] using hs
  have b1 : ∀ k, k ≠ w.heap.size → W1.heap[k]? = wr.heap[k]? := fun k hk => by rw [hW1]; exact Below.heap_setCell _ _ _ _ hk
  have hb : ∀ k, k < w.heap.size + 3 + 2 * j → ((W1.alloc (.cells #[.int .i64 j] 3)).alloc (.cells c 80)).heap[k]? = W1.heap[k]? := fun k hk =>
    (Below.heap_alloc _ _ _ (by simp [z1]; omega)).trans (Below.heap_alloc _ _ _ (by omega))
  have n1 : ((W1.alloc (.cells #[.int .i64 j] 3)).alloc (.cells c 80)).heap[w.heap.size + 3 + 2 * j]? = some (.cells #[.int .i64 j] 3 (0, 0)) := by
    refine (Below.heap_alloc _ _ _ (by simp [z1])).trans ?_
    rw [← z1]; exact heap_alloc_new W1 _
  have n2 : ((W1.alloc (.cells #[.int .i64 j] 3)).alloc (.cells c 80)).heap[w.heap.size + 4 + 2 * j]? = some (.cells c 80 (0, 0)) := by
    have := heap_alloc_new (W1.alloc (.cells #[.int .i64 j] 3)) (.cells c 80)
    simp only [World.size_alloc, z1] at this
    rw [show w.heap.size + 4 + 2 * j = w.heap.size + 3 + 2 * j + 1 by omega]
    exact this
  have hpool : W1.rowIs w.heap.size 64 n (fun t => if t < j + 1 then .pointer (some ⟨w.heap.size + 4 + 2 * t, 0, none⟩) else .pointer none) := by
    rw [hW1]
    refine (h.pool.set j _).congr fun t _ => ?_
    by_cases e : t = j
    · subst e; simp <;> omega
    · have e' : (t < j + 1) = (t < j) := by rw [eq_iff_iff]; omega
      simp [e, e']
  rw [← hW1]
  refine ⟨?_, by simp [z1]; omega, hpool.of_block (hb _ (by omega)), (h.cnts.of_block (b1 _ (by omega))).of_block (hb _ (by omega)), ?_, fun t ht => ?_, fun t ht => ?_⟩
  · refine Below.alloc (Below.alloc ?_ (by omega) _) (by simp [z1]; omega) _
    rw [hW1]; exact h.below.setCell (Nat.le_refl _) _
  · exact (World.cell?_of_block (a := ⟨w.heap.size + 2, 0, none⟩) ((hb (w.heap.size + 2) (by omega)).trans (b1 (w.heap.size + 2) (by omega)))).trans h.box
  · by_cases e : t = j
    · subst e
      simp only [World.cell?, n1]; rfl
    · exact (World.cell?_of_block (a := ⟨w.heap.size + 3 + 2 * t, 0, none⟩) ((hb (w.heap.size + 3 + 2 * t) (by omega)).trans (b1 (w.heap.size + 3 + 2 * t) (by omega)))).trans (h.js t (by omega))
  · by_cases e : t = j
    · subst e
      exact ⟨c, n2, hc⟩
    · obtain ⟨c', k1, k2⟩ := h.tasks t (by omega)
      exact ⟨c', ((hb _ (by omega)).trans (b1 _ (by omega))).trans k1, k2⟩

theorem Half_pool {w wr : World} {n : Nat} (h : Half w wr n n) : Pool w wr n (fun _ => 0) :=
  ⟨h.below, by rw [h.size]; exact Nat.le_refl _, h.pool.congr (fun t ht => by simp [ht]), h.cnts, h.box, h.js, h.tasks⟩

theorem run_make63 (L : Nat) (hL : L ≤ 65536) (w : World) : (Instr.makeSlice 63 (.int .i64 0) (.int .i64 (L : Int))).run Yba.prog w =
    .ok (.slice (some ⟨w.heap.size, 0, none⟩) 0 L) (w.alloc (.cells (madeCells #[.pointer none] L) 64)) := by
  obtain ⟨i, hi, hz, hs, hb⟩ := info_parts Yba.info64
  have hr := run_make (P := Yba.prog) w 63 64 i _ Yba.underlying63 hi hz .i64 .i64 0 L (by omega) (by omega) (by rw [hb]; omega) (by omega)
  rw [hs] at hr
  simpa [Value.cells] using hr

/-- A row that is full. -/
theorem row_of_own {w : World} {base g L : Nat} {xs : List Value} (h : w.ownsRow base 64 1 (.slice (some ⟨g, 0, none⟩) L L) L xs) (f : Nat → Value) (hf : ∀ i, i < L → xs[i]? = some (f i)) : w.rowIs g 64 L f ∧ base ≤ g := by
  rcases h.2 with ⟨e, _⟩ | ⟨g', cap, cur, e, hb, hg, _, _, hcs, htake⟩
  · cases e
  · simp only [Value.slice.injEq, Option.some.injEq, Addr.mk.injEq, and_true, true_and] at e
    obtain ⟨rfl, rfl⟩ := e
    refine ⟨⟨cur, hg, by simpa using hcs, fun i hi => ?_⟩, hb⟩
    have := hf i hi
    rw [← htake, List.getElem?_take, if_pos (by omega)] at this
    simpa using this

def ptrs (B : Nat) (l : List Nat) : List Value := l.map fun s => .pointer (some ⟨B + 4 + 2 * s, 0, none⟩)

set_option maxHeartbeats 1600000 in
set_option maxRecDepth 100000 in
theorem mainB (kk pk : Int) (a1 : Option Addr) (L c1 : Nat) (w : World) (od : Nat → Int) (hk : 0 ≤ kk ∧ kk ≤ 255) (hpk : 0 ≤ pk ∧ pk ≤ 255) (hL : L ≤ 65536) (hod : ∀ i, 0 ≤ od i ∧ od i ≤ 255)
    (h1 : ∀ i, i < L → ∃ b off, a1 = some ⟨b, off, none⟩ ∧ w.cell? ⟨b, off + i, none⟩ = some (.int .u8 (od i))) :
    Calls Yba.prog 4 #[.int .u8 kk, .slice a1 L c1, .int .u8 pk] w fun e w' => e = .returned (.bool true) ∧ Below w.heap.size w w' := by
  obtain ⟨n, hn, hn1, hn8⟩ : ∃ n : Nat, kk % 8 + 1 = (n : Int) ∧ 1 ≤ n ∧ n ≤ 8 := ⟨(kk % 8 + 1).toNat, by omega, by omega, by omega⟩
  obtain ⟨ti, hti, htn⟩ : ∃ ti : Nat, pk % (n : Int) = (ti : Int) ∧ ti < n := by
    have q1 := Int.emod_nonneg pk (b := (n : Int)) (by omega)
    have q2 := Int.emod_lt_of_pos pk (b := (n : Int)) (by omega)
    exact ⟨(pk % (n : Int)).toNat, by omega, by omega⟩
  obtain ⟨id, hid, hidn⟩ : ∃ id : Nat → Nat, (∀ i, od i % (n : Int) = (id i : Int)) ∧ ∀ i, id i < n := by
    refine ⟨fun i => (od i % (n : Int)).toNat, fun i => ?_, fun i => ?_⟩
    · have q1 := Int.emod_nonneg (od i) (b := (n : Int)) (by omega)
      show od i % (n : Int) = ((od i % (n : Int)).toNat : Int)
      omega
    · have q1 := Int.emod_nonneg (od i) (b := (n : Int)) (by omega)
      have q2 := Int.emod_lt_of_pos (od i) (b := (n : Int)) (by omega)
      show (od i % (n : Int)).toNat < n
      omega
  have hm1 := run_make_row' (P := Yba.prog) 63 64 (.pointer none) 8 Yba.underlying63 Yba.info64 rfl .i64 .i64 n (by omega) (by omega)
  have hm2 := run_make_row' (P := Yba.prog) 38 3 (.int .i64 0) 8 Yba.underlying38 Yba.info3 rfl .i64 .i64 n (by omega) (by omega)
  go_enter Yba.func4, Yba.ntmps4
  go_wp2_with fail
  clear hm1 hm2
  go_loopg [10] n (fun k v wr => ∃ j : Nat, j + k = n ∧ v = .int .i64 j ∧ Half w wr n j)
  case atStart => exact ⟨0, by omega, rfl, Half_start w n⟩
  case round =>
    obtain ⟨j, hj, rfl, hH⟩ := hrel
    by_cases hjn : j < n
    · have c := hH.pool.cell hjn
      rw [if_neg (Nat.lt_irrefl j)] at c
      have f := hH.pool.frozen j
      have hs := hH.size
      have hlt : w.heap.size < w.heap.size + 3 + 2 * j := by omega
      have hjn' : (j : Int) < n := by omega
      have HH : Hid (Half w wr n j) := hH
      clear hH
      go_wp2_with fail
      go_roundg (n - (j + 1))
      case measure => omega
      case rel => exact ⟨j + 1, by omega, by go_num, Half_step HH.out hjn _ rfl⟩
    · obtain rfl : n = j := by omega
      have hs := hH.size
      have hP := Half_pool hH
      have hmL := run_make63 L hL
      have hP1 := hP.alloc (.cells (madeCells #[.pointer none] L) 64)
      have hO1 := World.ownsRow_made (base := w.heap.size + 3 + 2 * n) (e := 64) (size := 1) wr (madeCells #[.pointer none] L) L (by omega) (by unfold maxLen; omega) (by rw [size_madeCells]; omega)
      rw [hs] at hO1
      have HX : Hid (Pool w (wr.alloc (.cells (madeCells #[.pointer none] L) 64)) n (fun _ => 0) ∧ (wr.alloc (.cells (madeCells #[.pointer none] L) 64)).ownsRow (w.heap.size + 3 + 2 * n) 64 1 (.slice (some ⟨w.heap.size + 3 + 2 * n, 0, none⟩) 0 L) 0 []) := ⟨hP1, hO1⟩
      clear hP hP1 hO1 hH
      go_wp2_with fail
      clear hmL hs
      go_loopg [12, 51] L (fun q v12 v51 wr => ∃ k : Nat, k + q = L ∧ v51 = .int .i64 k ∧ v12 = .slice (some ⟨w.heap.size + 3 + 2 * n, 0, none⟩) k L ∧ Pool w wr n (fun _ => 0) ∧
        wr.ownsRow (w.heap.size + 3 + 2 * n) 64 1 (.slice (some ⟨w.heap.size + 3 + 2 * n, 0, none⟩) k L) k (ptrs w.heap.size ((List.range k).map id)))
      case atStart => exact ⟨0, by omega, rfl, rfl, HX.out.1, HX.out.2⟩
      case round =>
        clear HX
        obtain ⟨k, hk', rfl, rfl, hP, hO⟩ := hrel
        by_cases hkL : k < L
        · obtain ⟨b, off, rfl, hc⟩ := h1 k hkL
          have hc' := cell_later hP.below hc
          have hidk := hid k
          have hp := hP.pool.cell (hidn k)
          have hod' := hod k
          have hin : (id k : Int) < n := by have := hidn k; omega
          have hlt : (k : Int) < L := by omega
          have hsz := hP.size
          obtain ⟨i0, hi0, hz0, hz1, hz2⟩ := info_parts Yba.info64
          have HP : Hid (Pool w wr n (fun _ => 0)) := hP
          clear hP h1
          go_wp2_with (first
            | (at_builtin; refine wpList_append_fits _ rfl _ _ 63 rfl (w.heap.size + 3 + 2 * n) 64 i0 1 Yba.underlying63 hi0 hz1 _ _ _ _ rfl (hO.alloc _) ⟨wr.heap.size, 0, none⟩ 1 1 [.pointer (some ⟨w.heap.size + 4 + 2 * id k, 0, none⟩)] rfl rfl ?c1 ?c2 ?c3 ?_))
          case c1 => exact cell_one_new _ _ _
          case c2 => simp [Value.oneCell']
          case c3 => omega
          · intro w2 hO2 hg2
            have hP2 := (HP.out.alloc _).kept hg2 (fun q e => by cases e; exact Nat.le_refl _)
            have HX : Hid (Pool w w2 n (fun _ => 0) ∧ w2.ownsRow (w.heap.size + 3 + 2 * n) 64 1 (.slice (some ⟨w.heap.size + 3 + 2 * n, 0, none⟩) (k + 1) L) (k + 1) (ptrs w.heap.size ((List.range k).map id) ++ [.pointer (some ⟨w.heap.size + 4 + 2 * id k, 0, none⟩)])) := ⟨hP2, hO2⟩
            clear hP2 hO2 hg2 hO
            go_wp2_with fail
            go_roundg (L - (k + 1))
            case measure => omega
            case rel => exact ⟨k + 1, by omega, by go_num, rfl, HX.out.1, by have := HX.out.2; simpa [ptrs, List.range_succ] using this⟩
        · obtain rfl : L = k := by omega
          have hrow := (row_of_own hO (fun i => .pointer (some ⟨w.heap.size + 4 + 2 * id i, 0, none⟩)) (fun i hi => by simp [ptrs, hi])).1
          have ct := hP.pool.cell htn
          have htn' : (ti : Int) < n := by omega
          have hmL := run_make63 L hL
          have hsz := hP.size
          have lg := hrow.lt
          have hP1 := hP.alloc (.cells (madeCells #[.pointer none] L) 64)
          have hr1 := hrow.alloc (.cells (madeCells #[.pointer none] L) 64)
          have hO1 := World.ownsRow_made (base := w.heap.size + 3 + 2 * n + 1) (e := 64) (size := 1) wr (madeCells #[.pointer none] L) L (by omega) (by unfold maxLen; omega) (by rw [size_madeCells]; omega)
          have HX : Hid (Pool w (wr.alloc (.cells (madeCells #[.pointer none] L) 64)) n (fun _ => 0) ∧ (wr.alloc (.cells (madeCells #[.pointer none] L) 64)).rowIs (w.heap.size + 3 + 2 * n) 64 L (fun i => .pointer (some ⟨w.heap.size + 4 + 2 * id i, 0, none⟩)) ∧
            (wr.alloc (.cells (madeCells #[.pointer none] L) 64)).ownsRow (w.heap.size + 3 + 2 * n + 1) 64 1 (.slice (some ⟨wr.heap.size, 0, none⟩) 0 L) 0 []) := ⟨hP1, hr1, hO1⟩
          clear hP hP1 hO1 hO hr1 hrow h1
          go_wp2_with fail
          clear hmL ct
          simp only [hti]
          obtain ⟨gw, hgw⟩ : ∃ gw, wr.heap.size = gw := ⟨_, rfl⟩
          simp only [hgw] at HX lg ⊢
          clear hti hgw
          go_loopg [17, 79] L (fun q v17 v79 wx => ∃ k : Nat, k + q = L ∧ v79 = .int .i64 k ∧ v17 = .slice (some ⟨gw, 0, none⟩) (Kp id ti k).length L ∧ Pool w wx n (fun _ => 0) ∧ wx.rowIs (w.heap.size + 3 + 2 * n) 64 L (fun i => .pointer (some ⟨w.heap.size + 4 + 2 * id i, 0, none⟩)) ∧
            wx.ownsRow (w.heap.size + 3 + 2 * n + 1) 64 1 (.slice (some ⟨gw, 0, none⟩) (Kp id ti k).length L) (Kp id ti k).length (ptrs w.heap.size (Kp id ti k)))
          case atStart => exact ⟨0, by omega, rfl, rfl, HX.out.1, HX.out.2.1, HX.out.2.2⟩
          case round =>
            clear HX
            obtain ⟨k, hk', rfl, rfl, hP, hrow, hO⟩ := hrel
            by_cases hkL : k < L
            · have hc := hrow.cell hkL
              have hlt : (k : Int) < L := by omega
              have hne := hP.neq (hidn k) htn
              have hsz := hP.size
              have hkl := Kp_le id ti k
              obtain ⟨i0, hi0, hz0, hz1, hz2⟩ := info_parts Yba.info64
              have HP : Hid (Pool w wr n (fun _ => 0) ∧ wr.rowIs (w.heap.size + 3 + 2 * n) 64 L (fun i => .pointer (some ⟨w.heap.size + 4 + 2 * id i, 0, none⟩))) := ⟨hP, hrow⟩
              clear hP hrow
              by_cases hit : id k = ti
              · have hd : decide (id k = ti) = true := by simpa using hit
                have HD : Hid (id k = ti) := hit
                have HO : Hid (wr.ownsRow (w.heap.size + 3 + 2 * n + 1) 64 1 (.slice (some ⟨gw, 0, none⟩) (Kp id ti k).length L) (Kp id ti k).length (ptrs w.heap.size (Kp id ti k))) := hO
                clear hit hO
                go_wp2_with fail
                go_roundg (L - (k + 1))
                case measure => omega
                case rel => exact ⟨k + 1, by omega, by go_num, by rw [Kp_drop _ _ _ HD.out], HP.out.1, HP.out.2, by rw [Kp_drop _ _ _ HD.out]; exact HO.out⟩
              · have hd : decide (id k = ti) = false := by simpa using hit
                have HD : Hid (id k ≠ ti) := hit
                clear hit
                go_wp2_with (first
                  | (at_builtin; refine wpList_append_fits _ rfl _ _ 63 rfl (w.heap.size + 3 + 2 * n + 1) 64 i0 1 Yba.underlying63 hi0 hz1 _ _ _ _ rfl (hO.alloc _) ⟨wr.heap.size, 0, none⟩ 1 1 [.pointer (some ⟨w.heap.size + 4 + 2 * id k, 0, none⟩)] rfl rfl ?d1 ?d2 ?d3 ?_))
                case d1 => exact cell_one_new _ _ _
                case d2 => simp [Value.oneCell']
                case d3 => omega
                · intro w2 hO2 hg2
                  have hP2 := (HP.out.1.alloc (.cells #[.pointer (some ⟨w.heap.size + 4 + 2 * id k, 0, none⟩)] 64)).kept hg2 (fun q e => by cases e; omega)
                  have hr2 := (HP.out.2.alloc (.cells #[.pointer (some ⟨w.heap.size + 4 + 2 * id k, 0, none⟩)] 64)).of_block (hg2.block _ (by simp; omega) (by simp; omega))
                  have HY : Hid (Pool w w2 n (fun _ => 0) ∧ w2.rowIs (w.heap.size + 3 + 2 * n) 64 L (fun i => .pointer (some ⟨w.heap.size + 4 + 2 * id i, 0, none⟩)) ∧ w2.ownsRow (w.heap.size + 3 + 2 * n + 1) 64 1 (.slice (some ⟨gw, 0, none⟩) ((Kp id ti k).length + 1) L) ((Kp id ti k).length + 1) (ptrs w.heap.size (Kp id ti k) ++ [.pointer (some ⟨w.heap.size + 4 + 2 * id k, 0, none⟩)])) := ⟨hP2, hr2, hO2⟩
                  clear hP2 hr2 hO2 hg2 hO HP
                  go_wp2_with fail
                  go_roundg (L - (k + 1))
                  case measure => omega
                  case rel =>
                    have e : (Kp id ti (k + 1)).length = (Kp id ti k).length + 1 := by rw [Kp_keep _ _ _ HD.out]; simp
                    refine ⟨k + 1, by omega, by go_num, by rw [e], HY.out.1, HY.out.2.1, ?_⟩
                    rw [e]
                    have := HY.out.2.2
                    rw [Kp_keep _ _ _ HD.out]
                    simpa [ptrs] using this
            · obtain rfl : L = k := by omega
              have hkl := Kp_le id ti L
              have ho : ∀ i s, (Kp id ti L)[i]? = some s → wr.cell? ⟨gw, i, none⟩ = some (.pointer (some ⟨w.heap.size + 4 + 2 * s, 0, none⟩)) := fun i s hi => by
                rw [hO.cellAt i (by have := (List.getElem?_eq_some_iff.1 hi).1; omega)]
                simp [ptrs, hi]
              have lw := hO.lt gw rfl
              have hsz := hP.size
              have ls : wr.heap.size < (wr.alloc (.cells #[.int .i32 0, .int .u32 0, .slice (some ⟨w.heap.size + 3 + 2 * n, 0, none⟩) L L] 89)).heap.size := by simp
              have hP1 := hP.alloc (.cells #[.int .i32 0, .int .u32 0, .slice (some ⟨w.heap.size + 3 + 2 * n, 0, none⟩) L L] 89)
              have hr1 := hrow.alloc (.cells #[.int .i32 0, .int .u32 0, .slice (some ⟨w.heap.size + 3 + 2 * n, 0, none⟩) L L] 89)
              have hs1 : (wr.alloc (.cells #[.int .i32 0, .int .u32 0, .slice (some ⟨w.heap.size + 3 + 2 * n, 0, none⟩) L L] 89)).rowIs wr.heap.size 89 3 (sCell (.slice (some ⟨w.heap.size + 3 + 2 * n, 0, none⟩) L L)) :=
                World.rowIs_alloc wr #[.int .i32 0, .int .u32 0, .slice (some ⟨w.heap.size + 3 + 2 * n, 0, none⟩) L L] 89 _ (fun i hi => by
                  match i, hi with
                  | 0, _ => rfl
                  | 1, _ => rfl
                  | 2, _ => rfl)
              have hdone := done_any hP1 id (w.heap.size + 3 + 2 * n) L ti wr.heap.size hn8 hidn htn hL hr1 (Nat.le_refl _) (by omega) (by have := hrow.lt; omega) hs1
              have lr := hrow.lt
              clear hP1 hr1 hs1 hP hrow hO
              go_wp2_with fail
              refine hdone.mono ?_
              clear hdone
              rintro e w5 ⟨rfl, hG⟩
              have ho5 : ∀ i s, (Kp id ti L)[i]? = some s → w5.cell? ⟨gw, i, none⟩ = some (.pointer (some ⟨w.heap.size + 4 + 2 * s, 0, none⟩)) := fun i s hi => by
                have := ho i s hi
                refine (World.cell?_of_block (a := ⟨gw, i, none⟩) ((hG.other gw (by simp; omega) (by omega) (by omega) (by omega)).trans (Below.heap_alloc _ _ _ lw.2))).trans this
              have cs := hG.str.cell (i := 2) (by decide)
              simp only [sCell, if_neg (show ¬ (2 : Nat) = 0 by decide), if_neg (show ¬ (2 : Nat) = 1 by decide)] at cs
              clear ho
              obtain ⟨bs, hbs⟩ : ∃ bs, wr.heap.size = bs := ⟨_, rfl⟩
              have hns := neq_same
              simp only [hbs] at cs hG ⊢
              have lbs : w.heap.size ≤ bs := by omega
              clear hbs ls lr lw
              have k0 := hG.str.cell (i := 0) (by decide)
              have f0 := hG.str.frozen 0
              simp only [sCell, if_true] at k0
              have hkp := hG.kept
              have hpl := hG.pool
              clear hG
              have cb : w5.cell? ⟨w.heap.size + 1 + 1, 0, none⟩ = some (.slice (some ⟨w.heap.size + 1, 0, none⟩) n n) := hpl.box
              have cc := hpl.cnts
              have HB : Hid (Below w.heap.size w w5) := hpl.below
              clear hpl
              go_wp2_with fail
              go_loopg [21] (Kp id ti L).length (fun q v wx => ∃ i : Nat, i + q = (Kp id ti L).length ∧ v = .int .i64 i ∧ ∃ d, wx = w5.drewN d)
              case atStart => exact ⟨0, by omega, rfl, 0, rfl⟩
              case round =>
                obtain ⟨i, hi, rfl, d, rfl⟩ := hrel
                by_cases hiK : i < (Kp id ti L).length
                · obtain ⟨s, hs⟩ : ∃ s, (Kp id ti L)[i]? = some s := ⟨_, List.getElem?_eq_getElem hiK⟩
                  have e1 := ho5 i s hs
                  have e2 := hkp i s hs
                  have hiK' : (i : Int) < ((Kp id ti L).length : Int) := by omega
                  have HZ : Hid ((∀ i s, (Kp id ti L)[i]? = some s → w5.cell? ⟨gw, i, none⟩ = some (.pointer (some ⟨w.heap.size + 4 + 2 * s, 0, none⟩)))) := ho5
                  clear ho5 hkp hs cc
                  go_wp2_with fail
                  go_quiet (fail)
                  go_wp2_with fail
                  go_roundg ((Kp id ti L).length - (i + 1))
                  case measure => omega
                  case rel => exact ⟨i + 1, by omega, by go_num, _, rfl⟩
                · obtain rfl : (Kp id ti L).length = i := by omega
                  clear ho5 hkp hns
                  go_wp2_with fail
                  go_loopg [22] n (fun q v wx => ∃ i : Nat, i + q = n ∧ v = .int .i64 i ∧ wx = w5.drewN d)
                  case atStart => exact ⟨0, by omega, rfl, rfl⟩
                  case round =>
                    obtain ⟨i, hi, rfl, rfl⟩ := hrel
                    by_cases hin : i < n
                    · have ci := cc.cell hin
                      have hin' : (i : Int) < n := by omega
                      clear cc
                      by_cases hit : i = ti
                      · have t1 : ((i : Int) == (ti : Int)) = true := by simp; omega
                        rw [if_pos hit] at ci
                        clear hit
                        go_wp2_with fail
                        go_roundg (n - (i + 1))
                        case measure => omega
                        case rel => exact ⟨i + 1, by omega, by go_num, rfl⟩
                      · have t1 : ((i : Int) == (ti : Int)) = false := by simp; omega
                        rw [if_neg hit] at ci
                        clear hit
                        go_wp2_with fail
                        go_roundg (n - (i + 1))
                        case measure => omega
                        case rel => exact ⟨i + 1, by omega, by go_num, rfl⟩
                    · obtain rfl : n = i := by omega
                      clear cc
                      go_wp2_with fail
                      refine (trylock_any bs 0 _ (by simpa using k0) (by simpa using f0)).mono ?_
                      rintro e w6 ⟨rfl, hw6⟩
                      have k6 : w6.cell? ⟨bs, 0, none⟩ = some (.int .i32 1) := by rw [hw6]; exact World.cell?_setCell_same _ _ _ (by simpa using k0)
                      have f6 : w6.frozen? ⟨bs, 0, none⟩ = false := by rw [hw6]; simpa using f0
                      have HB6 : Hid (Below w.heap.size w w6) := by rw [hw6]; exact (below_drewN HB.out d).setCell lbs _
                      clear hw6
                      go_wp2_with fail
                      refine (unlock_any bs 0 _ k6 f6).mono ?_
                      rintro e w7 ⟨rfl, hw7⟩
                      have HB7 : Hid (Below w.heap.size w w7) := by rw [hw7]; exact HB6.out.setCell lbs _
                      clear hw7
                      go_wp2_with fail
                      go_ret
                      exact ⟨rfl, HB7.out⟩

end Go.Proofs.Ybulkdspq
