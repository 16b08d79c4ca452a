/-
  THE WALKS of slices.IndexFunc (29) and slices.DeleteFunc (24) over tasks, the test 'u == t'.
-/
import Derived.Test.YbulkdspqBHelp
namespace Go.Proofs.Ybulkdspq
open Go.RowKit
set_option linter.unusedSimpArgs false
set_option linter.unusedVariables false

/-- The first k entries' tasks but for ti. -/
def Kp (id : Nat → Nat) (ti k : Nat) : List Nat := ((List.range k).map id).filter fun s => !decide (s = ti)
theorem Kp_zero (id : Nat → Nat) (ti : Nat) : Kp id ti 0 = [] := rfl
theorem Kp_keep (id : Nat → Nat) (ti k : Nat) (h : id k ≠ ti) : Kp id ti (k + 1) = Kp id ti k ++ [id k] := by simp [Kp, List.range_succ, List.filter_append, h]
theorem Kp_drop (id : Nat → Nat) (ti k : Nat) (h : id k = ti) : Kp id ti (k + 1) = Kp id ti k := by simp [Kp, List.range_succ, List.filter_append, h]
theorem Kp_le (id : Nat → Nat) (ti k : Nat) : (Kp id ti k).length ≤ k := by
  unfold Kp; exact Nat.le_trans (List.length_filter_le _ _) (by simp)
theorem Kp_all (id : Nat → Nat) (ti k : Nat) (h : ∀ q, q < k → id q ≠ ti) : Kp id ti k = (List.range k).map id := by
  unfold Kp
  rw [List.filter_eq_self]
  intro s hs
  obtain ⟨q, hq, rfl⟩ := List.mem_map.1 hs
  simpa using h q (by simpa using hq)
theorem Kp_mem {id : Nat → Nat} {ti k s : Nat} (h : s ∈ Kp id ti k) : ∃ q, q < k ∧ id q = s := by
  unfold Kp at h
  obtain ⟨q, hq, e⟩ := List.mem_map.1 (List.mem_filter.1 h).1
  exact ⟨q, by simpa using hq, e⟩
/-- A hit at p: behind it fewer are kept than there are places. -/
theorem Kp_lt (id : Nat → Nat) (ti p k : Nat) (hp : p < k) (h : id p = ti) : (Kp id ti k).length < k := by
  induction k with
  | zero => omega
  | succ k ih =>
    have hk := Kp_le id ti k
    by_cases e : id k = ti
    · rw [Kp_drop _ _ _ e]; omega
    · rw [Kp_keep _ _ _ e, List.length_append]
      have : p ≠ k := fun e' => e (e' ▸ h)
      have := ih (by omega)
      simp; omega

set_option maxHeartbeats 800000 in
theorem index_any {w wr : World} {n : Nat} {cnt : Nat → Int} (h : Pool w wr n cnt) (id : Nat → Nat) (g L c ti bx : Nat) (hid : ∀ i, id i < n) (ht : ti < n) (hL : L ≤ 65536)
    (hrow : ∀ i, i < L → wr.cell? ⟨g, i, none⟩ = some (.pointer (some ⟨w.heap.size + 4 + 2 * id i, 0, none⟩)))
    (hbx : wr.cell? ⟨bx, 0, none⟩ = some (.pointer (some ⟨w.heap.size + 4 + 2 * ti, 0, none⟩))) :
    Calls Yba.prog 29 #[.slice (some ⟨g, 0, none⟩) L c, .func (.func 25) #[] #[.pointer (some ⟨bx, 0, none⟩)]] wr fun e w' =>
      wr = w' ∧ ((∃ p : Nat, p < L ∧ id p = ti ∧ (∀ q, q < p → id q ≠ ti) ∧ e = .returned (.int .i64 p)) ∨ ((∀ q, q < L → id q ≠ ti) ∧ e = .returned (.int .i64 (-1)))) := by
  go_enter Yba.func29, Yba.ntmps29
  go_wp2_with fail
  go_loopg [8] L (fun k i wx => ∃ j : Nat, j + k = L ∧ i = .int .i64 j ∧ (∀ q, q < j → id q ≠ ti) ∧ wr = wx)
  case atStart => exact ⟨0, by omega, rfl, fun q hq => absurd hq (Nat.not_lt_zero _), rfl⟩
  case round =>
    obtain ⟨j, hj, rfl, hno, rfl⟩ := hrel
    by_cases hlt : j < L
    · have hc := hrow j hlt
      have hjL : (j : Int) < L := by omega
      have HN : Hid (∀ q, q < j → id q ≠ ti) := hno
      clear hno
      go_wp2_with fail
      refine (same_any h (hid j) ht hbx).mono ?_
      rintro e w' ⟨rfl, rfl⟩
      by_cases hit : id j = ti
      · have hd : decide (id j = ti) = true := by simpa using hit
        have HD : Hid (id j = ti) := hit
        clear hit hrow
        go_wp2
        go_ret
        exact ⟨rfl, .inl ⟨j, hlt, HD.out, HN.out, rfl⟩⟩
      · have hd : decide (id j = ti) = false := by simpa using hit
        have HD : Hid (id j ≠ ti) := hit
        clear hit
        go_wp2
        go_roundg (L - (j + 1))
        case measure => omega
        case rel => exact ⟨j + 1, by omega, by go_num, fun q hq => (by
          by_cases e : q = j
          · subst e; exact HD.out
          · exact HN.out q (by omega)), rfl⟩
    · obtain rfl : L = j := by omega
      have HN : Hid (∀ q, q < L → id q ≠ ti) := hno
      clear hno
      go_wp2
      go_ret
      exact ⟨rfl, .inr ⟨HN.out, rfl⟩⟩

theorem grownBy_setCell (w : World) (b o : Nat) (v : Value) : w.grownBy (w.setCell ⟨b, o, none⟩ v) (some b) :=
  ⟨rfl, rfl, rfl, by simp [World.setCell], fun k _ hk => Below.heap_setCell _ _ _ _ (fun e => hk (by rw [e]))⟩
theorem grownBy_trans {a b c : World} {row : Option Nat} (h : a.grownBy b row) (k : b.grownBy c row) : a.grownBy c row :=
  ⟨k.os.trans h.os, k.tape.trans h.tape, k.output.trans h.output, Nat.le_trans h.size k.size, fun i hi hne => (k.block i (Nat.lt_of_lt_of_le hi h.size) hne).trans (h.block i hi hne)⟩
theorem grownBy_setCells (b : Nat) : ∀ (vs : List Value) (o : Nat) (w : World), w.grownBy (w.setCells b o vs) (some b)
  | [], _, w => World.grownBy.refl w _
  | v :: r, o, w => grownBy_trans (grownBy_setCell w b o v) (grownBy_setCells b r (o + 1) _)

theorem clear_tail {wr : World} {g L : Nat} {hh : Nat → Option Addr} (hrow : wr.rowIs g 64 L (fun q => .pointer (hh q))) (i : Nat) (hi : i < L) (ty : TypeId) :
    ∃ w2, (Builtin.clear_ #[63] ty #[.slice (some ⟨g, i, none⟩) (L - i) (L - i)]).run Yba.prog wr = .ok (.tuple #[]) w2 ∧ wr.grownBy w2 (some g) ∧ ∀ q, q < i → w2.cell? ⟨g, q, none⟩ = some (.pointer (hh q)) := by
  have hz : ∀ w, (zeroValue 64).run Yba.prog w = .ok (.pointer none) w := fun w => by kernel_rfl
  have hr := Lib.run_clear_slice (P := Yba.prog) wr 63 64 ty (.pointer none) Yba.underlying63 hz rfl rfl g i (L - i) (L - i) (by omega) (fun j hj => by rw [hrow.cell (by omega)]; rfl) (fun j hj => hrow.frozen _)
  refine ⟨_, hr, grownBy_setCells _ _ _ _, fun q hq => ?_⟩
  rw [World.cell?_setCells_out _ _ _ _ _ (fun _ _ => .inl hq)]
  exact hrow.cell (by omega)

/-- What DeleteFunc leaves. -/
def Deleted (w wr : World) (id : Nat → Nat) (g L ti : Nat) (e : Ending) (w' : World) : Prop :=
  e = .returned (.slice (some ⟨g, 0, none⟩) (Kp id ti L).length L) ∧ wr.grownBy w' (some g) ∧ ∀ i s, (Kp id ti L)[i]? = some s → w'.cell? ⟨g, i, none⟩ = some (.pointer (some ⟨w.heap.size + 4 + 2 * s, 0, none⟩))

set_option maxHeartbeats 800000 in
set_option maxRecDepth 100000 in
theorem delete_any {w wz : World} {n : Nat} {cnt : Nat → Int} (h : Pool w wz n cnt) (id : Nat → Nat) (g L ti bx : Nat) (hid : ∀ i, id i < n) (ht : ti < n) (hL : L ≤ 65536)
    (hrow : wz.rowIs g 64 L (fun i => .pointer (some ⟨w.heap.size + 4 + 2 * id i, 0, none⟩))) (hg : w.heap.size + 3 + 2 * n ≤ g) (hbg : bx ≠ g)
    (hbx : wz.cell? ⟨bx, 0, none⟩ = some (.pointer (some ⟨w.heap.size + 4 + 2 * ti, 0, none⟩))) :
    Calls Yba.prog 24 #[.slice (some ⟨g, 0, none⟩) L L, .func (.func 25) #[] #[.pointer (some ⟨bx, 0, none⟩)]] wz fun e w' => Deleted w wz id g L ti e w' := by
  go_enter Yba.func24, Yba.ntmps24
  go_wp2_with fail
  refine (index_any h id g L L ti bx hid ht hL (fun i hi => hrow.cell hi) hbx).mono ?_
  rintro e w' ⟨rfl, ⟨p, hp, hpt, hno, rfl⟩ | ⟨hno, rfl⟩⟩
  · have hp1 : ((p : Int) == -1) = false := by simp <;> omega
    have HP : Hid (id p = ti ∧ ∀ q, q < p → id q ≠ ti) := ⟨hpt, hno⟩
    clear hpt hno
    have HR : Hid (wz.rowIs g 64 L (fun i => .pointer (some ⟨w.heap.size + 4 + 2 * id i, 0, none⟩))) := hrow
    clear hrow
    go_wp2_with fail
    go_loopg [5, 6] (L - (p + 1)) (fun k i6 j6 wx => ∃ (j : Nat) (hh : Nat → Option Addr), j + k = L ∧ p < j ∧ j6 = .int .i64 j ∧ i6 = .int .i64 (Kp id ti j).length ∧ wz.grownBy wx (some g) ∧ wx.rowIs g 64 L (fun q => .pointer (hh q)) ∧
      (∀ q s, (Kp id ti j)[q]? = some s → hh q = some ⟨w.heap.size + 4 + 2 * s, 0, none⟩) ∧ (∀ q, j ≤ q → q < L → hh q = some ⟨w.heap.size + 4 + 2 * id q, 0, none⟩))
    case atStart =>
      obtain ⟨hpt, hno⟩ := HP.out
      have e : Kp id ti (p + 1) = (List.range p).map id := by rw [Kp_drop _ _ _ hpt, Kp_all _ _ _ hno]
      refine ⟨p + 1, fun i => some ⟨w.heap.size + 4 + 2 * id i, 0, none⟩, by omega, by omega, by go_num, by rw [e]; simp, World.grownBy.refl _ _, HR.out, fun q s hq => ?_, fun q _ _ => rfl⟩
      rw [e, List.getElem?_map] at hq
      obtain ⟨t, ht', rfl⟩ := Option.map_eq_some_iff.1 hq
      obtain ⟨hlt, e2⟩ := List.getElem?_eq_some_iff.1 ht'
      simp at e2
      subst e2
      rfl
    case round =>
      obtain ⟨j, hh, hj, hpj, rfl, rfl, hgr, hrow, hk1, hk2⟩ := hrel
      have hkl := Kp_le id ti j
      have hlt' := Kp_lt id ti p j hpj HP.out.1
      by_cases hlt : j < L
      · have hc := hrow.cell hlt
        rw [hk2 j (Nat.le_refl _) hlt] at hc
        have hjL : (j : Int) < L := by omega
        have hpool := h.kept hgr (fun q e => by cases e; exact hg)
        have hbx' := hgr.cell hbx (by simpa using hbg)
        have HX : Hid (wz.grownBy wr (some g) ∧ (∀ q s, (Kp id ti j)[q]? = some s → hh q = some ⟨w.heap.size + 4 + 2 * s, 0, none⟩) ∧ (∀ q, j ≤ q → q < L → hh q = some ⟨w.heap.size + 4 + 2 * id q, 0, none⟩) ∧ wr.rowIs g 64 L (fun q => .pointer (hh q))) := ⟨hgr, hk1, hk2, hrow⟩
        have hci := hrow.cell (i := (Kp id ti j).length) (by omega)
        have hfi := hrow.frozen (Kp id ti j).length
        have hkL : ((Kp id ti j).length : Int) < L := by omega
        clear hgr hk1 hk2 hrow
        go_wp2_with fail
        refine (same_any hpool (hid j) ht hbx').mono ?_
        rintro e w' ⟨rfl, rfl⟩
        clear hpool hbx'
        obtain ⟨hgr, hk1, hk2, hrow⟩ := HX.out
        by_cases hit : id j = ti
        · have hd : decide (id j = ti) = true := by simpa using hit
          have HD : Hid (id j = ti ∧ wz.grownBy wr (some g) ∧ (∀ q s, (Kp id ti j)[q]? = some s → hh q = some ⟨w.heap.size + 4 + 2 * s, 0, none⟩) ∧ (∀ q, j ≤ q → q < L → hh q = some ⟨w.heap.size + 4 + 2 * id q, 0, none⟩) ∧ wr.rowIs g 64 L (fun q => .pointer (hh q))) := ⟨hit, hgr, hk1, hk2, hrow⟩
          clear hit hgr hk1 hk2 hrow HX hci hfi
          go_wp2
          go_roundg (L - (j + 1))
          case measure => omega
          case rel =>
            obtain ⟨hit, hgr, hk1, hk2, hrow⟩ := HD.out
            exact ⟨j + 1, hh, by omega, by omega, by go_num, by rw [Kp_drop _ _ _ hit], hgr, hrow, by rw [Kp_drop _ _ _ hit]; exact hk1, fun q hq hqL => hk2 q (by omega) hqL⟩
        · have hd : decide (id j = ti) = false := by simpa using hit
          have HD : Hid (id j ≠ ti ∧ wz.grownBy wr (some g) ∧ (∀ q s, (Kp id ti j)[q]? = some s → hh q = some ⟨w.heap.size + 4 + 2 * s, 0, none⟩) ∧ (∀ q, j ≤ q → q < L → hh q = some ⟨w.heap.size + 4 + 2 * id q, 0, none⟩) ∧ wr.rowIs g 64 L (fun q => .pointer (hh q))) := ⟨hit, hgr, hk1, hk2, hrow⟩
          clear hit hgr hk1 hk2 hrow HX
          go_wp2
          go_roundg (L - (j + 1))
          case measure => omega
          case rel =>
            obtain ⟨hit, hgr, hk1, hk2, hrow⟩ := HD.out
            refine ⟨j + 1, fun q => if q = (Kp id ti j).length then some ⟨w.heap.size + 4 + 2 * id j, 0, none⟩ else hh q, by omega, by omega, by go_num, ?_, grownBy_trans hgr (grownBy_setCell _ _ _ _), (hrow.set _ _).congr (fun q _ => by by_cases e : q = (Kp id ti j).length <;> simp [e]), fun q s hq => ?_, fun q hq hqL => ?_⟩
            · rw [Kp_keep _ _ _ hit, List.length_append]; go_num
            · rw [Kp_keep _ _ _ hit] at hq
              by_cases e : q = (Kp id ti j).length
              · subst e
                rw [List.getElem?_append_right (Nat.le_refl _)] at hq
                simp at hq
                subst hq
                simp
              · have hql : q < (Kp id ti j).length := by
                  have := (List.getElem?_eq_some_iff.1 hq).1
                  simp at this
                  omega
                rw [List.getElem?_append_left hql] at hq
                show (if q = (Kp id ti j).length then _ else hh q) = _
                rw [if_neg e]
                exact hk1 q s hq
            · show (if q = (Kp id ti j).length then _ else hh q) = _
              rw [if_neg (by omega)]
              exact hk2 q (by omega) hqL
      · obtain rfl : L = j := by omega
        obtain ⟨w2, hrun, hg2, hc2⟩ := clear_tail hrow (Kp id ti L).length hlt' 0
        have HX : Hid (wz.grownBy w2 (some g) ∧ ∀ i s, (Kp id ti L)[i]? = some s → w2.cell? ⟨g, i, none⟩ = some (.pointer (some ⟨w.heap.size + 4 + 2 * s, 0, none⟩))) := by
          refine ⟨grownBy_trans hgr hg2, fun i s hi => ?_⟩
          rw [hc2 i (List.getElem?_eq_some_iff.1 hi).1, hk1 i s hi]
        clear hgr hrow hk1 hk2 hg2 hc2
        have nL : ¬ L = (Kp id ti L).length := by omega
        go_wp2
        go_ret
        exact ⟨rfl, HX.out⟩
  · have HN : Hid (∀ q, q < L → id q ≠ ti) := hno
    clear hno
    go_wp2
    go_ret
    have e := Kp_all id ti L HN.out
    refine ⟨by rw [e]; simp, World.grownBy.refl _ _, fun i s hi => ?_⟩
    rw [e, List.getElem?_map] at hi
    obtain ⟨t, ht', rfl⟩ := Option.map_eq_some_iff.1 hi
    obtain ⟨hlt, e2⟩ := List.getElem?_eq_some_iff.1 ht'
    simp at e2 hlt
    subst e2
    exact hrow.cell hlt

end Go.Proofs.Ybulkdspq
