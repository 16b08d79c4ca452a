/-
  LawS5972COrder: the walk of the law (4).
-/
import Derived.Test.YbulkdsqsOMainA
import Derived.Test.YbulkdsqsOCl
namespace Go.Proofs.Ybulkdsqs
open Go.RowKit Go.Sort
set_option linter.unusedSimpArgs false
set_option linter.unusedVariables false

theorem M1.start (w : World) (n : Nat) (Z : Nat → Int) : M1 w (((w.alloc (.cells #[] 25)).alloc (.cells #[.slice (some ⟨w.heap.size, 0, none⟩) 0 0] 34)).alloc (.cells (madeCells #[.pointer none] n) 25)) (w.heap.size + 1) (w.heap.size + 1 + 1) n 0 Z (.slice (some ⟨w.heap.size, 0, none⟩) 0 0) #[] [] (fun _ => 0) := by
  refine ⟨?_, ⟨?_, ⟨rfl, .inr ⟨w.heap.size, 0, #[], rfl, Nat.le_refl _, ?_, Nat.le_refl _, Nat.zero_le _, rfl, rfl⟩⟩⟩, ?_, ?_, rfl, List.Perm.refl _, List.nodup_nil, fun k _ hk => by simp at hk, fun x hx => by simp at hx, fun t x hx => by simp at hx, by omega⟩
  · exact grown_trans (grown_trans (World.grownBy_alloc _ _ none) (World.grownBy_alloc _ _ none)) (World.grownBy_alloc _ _ none)
  · exact blk_alloc (blk_new _ _ _ _ (by simp)) _
  · exact blk_alloc (blk_alloc (blk_new _ _ _ _ rfl) _) _
  · simp [Value.ownBlock]
    omega
  · have := World.rowIs_made ((w.alloc (.cells #[] 25)).alloc (.cells #[.slice (some ⟨w.heap.size, 0, none⟩) 0 0] 34)) (.pointer none) n 25
    simpa [pcOr] using this

theorem one_made {wr : World} {wsb n i : Nat} {f : Nat → Value} {cs : Array Value} {z : Int} (hr : wr.rowIs wsb 25 n f) (h6 : cs[6]? = some (.int .u64 z)) (kf : Nat → Int) :
    Chg (fun q => q = wsb) wr ((wr.setCell ⟨wsb, i, none⟩ (pc wr.heap.size)).alloc (.cells cs 33)) ∧ Wt ((wr.setCell ⟨wsb, i, none⟩ (pc wr.heap.size)).alloc (.cells cs 33)) (kup kf wr.heap.size z) wr.heap.size ∧
    ((wr.setCell ⟨wsb, i, none⟩ (pc wr.heap.size)).alloc (.cells cs 33)).rowIs wsb 25 n (fun t => if t = i then pc wr.heap.size else f t) := by
  refine ⟨?_, ⟨cs, blk_new _ _ _ _ (by simp [World.setCell]), by rw [kup_eq]; exact h6⟩, (hr.set i _).alloc _⟩
  exact (Chg.of (grown_set wr wsb i _) (fun q e => .inl (by cases e; rfl))).trans (S' := fun _ => False) (Chg.of (World.grownBy_alloc _ _ none) (by simp)) (by simp)

theorem keys_all {xs : List Nat} {kf : Nat → Int} {Z : Nat → Int} {n : Nat} (hl : xs.length = n) (hk : ∀ t x, xs[t]? = some x → kf x = Z t) : xs.map kf = (List.range n).map Z := by
  apply List.ext_getElem?
  intro t
  rw [List.getElem?_map, List.getElem?_map]
  cases ht : xs[t]? with
  | none =>
    have : n ≤ t := by rw [← hl]; exact List.getElem?_eq_none_iff.1 ht
    rw [List.getElem?_eq_none (by simpa using this)]
    rfl
  | some x =>
    have hlt : t < n := by rw [← hl]; exact (List.getElem?_eq_some_iff.1 ht).1
    rw [List.getElem?_range hlt]
    simp [hk t x ht]
theorem M1.toM2 {w wr w1 w2 : World} {hb wsb n : Nat} {Z : Nat → Int} {v v7 : Value} {A : Array Nat} {xs : List Nat} {kf : Nat → Int} {R : List Int} {ys : List Value} (h : M1 w wr hb wsb n n Z v A xs kf) (g1 : wr.grownBy w1 none) (ho : w1.ownsRow wr.heap.size 26 1 v7 n ys)
    (gR : w1.grownBy w2 v7.ownBlock) (oR : w2.ownsRow wr.heap.size 26 1 v7 n (R.map (Value.int .u64))) (pR : R.Perm ((List.range n).map Z)) (sR : R.Pairwise (· ≤ ·)) :
    M2 w (w2.alloc (.cells (madeCells #[.bool false] n) 4)) hb wsb w2.heap.size n 0 v v7 A xs kf R (fun _ => false) := by
  have c1 : Chg (fun _ => False) wr w1 := Chg.of g1 (by simp)
  have c2 : Chg (fun _ => False) wr w2 := c1.trans (S' := fun q => v7.ownBlock = some q) (Chg.of gR (fun q e => .inl e)) (fun q e => .inr (own_low ho e).1)
  have c3 : Chg (fun _ => False) wr (w2.alloc (.cells (madeCells #[.bool false] n) 4)) := c2.trans (S' := fun _ => False) (Chg.of (World.grownBy_alloc _ _ none) (by simp)) (by simp)
  have hs := h.bel.size
  refine ⟨grown_chg h.bel c3 (by simp), h.hv.keep c3 (by simp) (by simp), h.apart, row_keep c3 h.ws (by simp), World.rowIs_made w2 (.bool false) n 4, ?_, h.len, h.nd, fun x hx => (h.perm.mem_iff).1 hx, (h.perm.nodup_iff).2 h.nd, ?_, sR, h.heap, fun x hx => (h.wt x hx).keep c3 (by simp), ?_, ⟨h.low.1, h.low.2.1, Nat.le_trans hs c2.size, h.low.2.2⟩⟩
  · exact own_down (own_kept oR (World.grownBy_alloc _ _ none) (by simp)) hs
  · rw [List.drop_zero]
    refine ((h.perm.map kf).trans ?_).trans pR.symm
    rw [keys_all h.len h.key]
  · intro t x ht
    simp only [Bool.false_eq_true, false_iff, Decidable.not_not]
    exact (h.perm.mem_iff).2 (List.mem_of_getElem? ht)
theorem assert_ok (x : Nat) (w : World) : (Instr.typeAssert (.iface 25 (.pointer (some ⟨x, 0, none⟩))) 20 25 true).run Yba.prog w = .ok (.tuple #[.pointer (some ⟨x, 0, none⟩), .bool true]) w := by kernel_rfl
theorem eq_wait {w : World} {kf : Nat → Int} {x y : Nat} (hx : Wt w kf x) (hy : Wt w kf y) : (binOp .eql 25 (.pointer (some ⟨y, 0, none⟩)) (.pointer (some ⟨x, 0, none⟩))).run Yba.prog w = .ok (.bool (decide (y = x))) w := by
  obtain ⟨j, hj, hs⟩ := Option.map_eq_some_iff.1 (show (Yba.prog.info? 33).map (·.size) = some 10 by kernel_rfl)
  by_cases e : y = x
  · subst e
    rw [decide_eq_true rfl]
    exact run_eql_ptr_same w _ Yba.underlying25 hj
  · rw [decide_eq_false e]
    obtain ⟨c1, h1, _⟩ := hx
    obtain ⟨c2, h2, _⟩ := hy
    exact run_eql_ptr_other w Yba.underlying25 hj (by omega) (fun e' => e (by injection e')) h2 h1

/-- Behind the heap's own steps. -/
theorem M2.after {w wr w3 : World} {hb wsb ub n i : Nat} {v vw : Value} {A : Array Nat} {xs : List Nat} {kf : Nat → Int} {R : List Int} {us : Nat → Bool} (h : M2 w wr hb wsb ub n i v vw A xs kf R us) (hp : HPo wr hb w.heap.size v A kf w3) :
    w3.ownsRow w.heap.size 26 1 vw n (R.map (Value.int .u64)) ∧ w3.rowIs wsb 25 n (fun t => pcOr xs[t]?) ∧ w3.rowIs ub 4 n (fun t => .bool (us t)) ∧ ∀ x ∈ xs, Wt w3 kf x := by
  obtain ⟨_, _, _, _, _, _, _, c⟩ := hp
  have own25 : ∀ q, v.ownBlock = some q → ∃ cur, wr.heap[q]? = some (.cells cur 25 (0, 0)) := by
    intro q e
    rcases h.hv.own.2 with ⟨rfl, _⟩ | ⟨g, cap, cur, rfl, _, hg, _⟩
    · cases e
    · cases e; exact ⟨cur, hg⟩
  have other : ∀ (q : Nat) (cs : Array Value) (t : TypeId), wr.heap[q]? = some (.cells cs t (0, 0)) → t ≠ 34 → t ≠ 25 → ¬ (q = hb ∨ v.ownBlock = some q) := by
    rintro q cs t hq h1 h2 (e | e)
    · have := h.hv.var
      rw [← e, hq] at this
      simp at this
      exact h1 this.2
    · obtain ⟨cur, hc⟩ := own25 q e
      rw [hq] at hc
      simp at hc
      exact h2 hc.2
  refine ⟨c.own h.want (fun q hq => ?_), row_keep c h.ws ?_, row_keep c h.used ?_, fun x hx => (h.wt x hx).keep c (h.hv.noWait (h.wt x hx))⟩
  · rcases h.want.2 with ⟨rfl, _⟩ | ⟨g, cap, cur, rfl, _, hg, _⟩
    · cases hq
    · cases hq
      exact other g cur 26 hg (by decide) (by decide)
  · rintro (e | e)
    · exact h.low.2.2.2 e.symm
    · exact h.apart e
  · obtain ⟨c0, hc0, _⟩ := h.used
    exact other ub c0 4 hc0 (by decide) (by decide)

theorem info4 : (Yba.prog.info? 4).map (fun i => (i.zero, i.size, i.bytes)) = some (some (.bool false), 1, 1) := by kernel_rfl

set_option maxHeartbeats 12800000 in
set_option maxRecDepth 1000000 in
theorem mainO (w : World) (a : Option Addr) (n c : Nat) (Z : Nat → Int) (hn : n ≤ 4096) (h0 : ∀ i, i < n → ∃ b o, a = some ⟨b, o, none⟩ ∧ w.cell? ⟨b, o + i, none⟩ = some (.int .u64 (Z i))) :
    Calls Yba.prog 4 #[.slice a n c] w fun e w' => e = .returned (.bool true) ∧ w.grownBy w' none := by
  have t1 : ¬ (4096 : Int) < (n : Int) := by omega
  have hmk := run_make_row' (P := Yba.prog) 24 25 (.pointer none) 8 Yba.underlying24 info25 rfl .i64 .i64 n (by omega) (by omega)
  go_enter Yba.func4, Yba.ntmps4
  go_wp2_with fail
  clear hmk
  have H0 : Aside _ := h0
  clear h0
  generalize hhb : w.heap.size + 1 = hb
  generalize hwsb : hb + 1 = wsb
  go_loopg [6] n (fun k s6 wr => ∃ i : Nat, i + k = n ∧ s6 = .int .i64 i ∧ M1x w wr hb wsb n i Z)
  case atStart =>
    have := M1.start w n Z
    rw [hhb, hwsb] at this
    exact ⟨0, by omega, rfl, _, _, _, _, this⟩
  case round =>
    obtain ⟨i, hik, rfl, v, A, xs, kf, hM⟩ := hrel
    by_cases hin : i < n
    · have c1 := hM.ws.cell hin
      have f1 := hM.ws.frozen i
      obtain ⟨b0, o0, ea, hcell⟩ := H0.out i hin
      subst ea
      have hlt0 : b0 < w.heap.size := block_lt_of_cell hcell
      have k0 : wr.cell? ⟨b0, o0 + i, none⟩ = some (.int .u64 (Z i)) := by
        rw [World.cell?_of_block (hM.bel.block b0 hlt0 (by simp))]; exact hcell
      have hwlt : wsb < wr.heap.size := hM.ws.lt
      have hinz : (i : Int) < (n : Int) := by omega
      have HM : Aside _ := hM
      clear hM hhb hwsb
      go_wp2_with fail
      have hM := HM.out
      obtain ⟨q1, q2, q3⟩ := one_made (i := i) hM.ws (z := Z i) (cs := #[.pointer none, .string ⟨#[]⟩, .int .u8 0, .string ⟨#[]⟩, .string ⟨#[]⟩, .bool false, .int .u64 (Z i), .pointer none, .int .u64 0, .pointer none]) rfl kf
      obtain ⟨m1, m2, m3, m4⟩ := hM.mid hin q1 (Nat.le_refl _) q2 q3
      have hbs : w.heap.size ≤ wr.heap.size := hM.bel.size
      have hcall := hpush6 _ hb w.heap.size wr.heap.size v A (kup kf wr.heap.size (Z i)) m1 (by omega) (Nat.le_trans hbs q1.size) m3 m4
      refine Calls.mono hcall ?_
      rintro e w1 ⟨rfl, hp⟩
      have hM1 := hM.next hin q1 (Nat.le_refl _) q2 q3 hp
      have HM1 : Aside _ := hM1
      clear hM1 hp hcall m1 m2 m3 m4 q1 q2 q3 hM HM c1 f1 k0 hcell
      go_wp2_with fail
      go_roundg (n - (i + 1))
      case measure => omega
      case rel => exact ⟨i + 1, by omega, by simp, HM1.out⟩
    · have hni : n = i := by omega
      subst hni
      have hM' := hM
      have ha : ∀ j z, ((List.range n).map Z)[j]? = some z → ∃ b o, a = some ⟨b, o, none⟩ ∧ wr.cell? ⟨b, o + j, none⟩ = some (.int .u64 z) := by
        intro j z hz
        rw [List.getElem?_map] at hz
        by_cases hj : j < n
        · rw [List.getElem?_range hj] at hz
          obtain ⟨b, o, e1, e2⟩ := H0.out j hj
          refine ⟨b, o, e1, ?_⟩
          rw [World.cell?_of_block (hM.bel.block b (block_lt_of_cell e2) (by simp)), e2]
          simpa using hz
        · rw [List.getElem?_eq_none (by simpa using hj)] at hz
          simp at hz
      have hclone := clone_any wr a n c ((List.range n).map Z) (by simp) hn ha
      have HM : Aside _ := hM
      clear hM ha hM' hhb hwsb H0
      go_wp2_with fail
      refine Calls.mono hclone ?_
      rintro e w1 ⟨v7, rfl, ho, g1⟩
      have hsort := sort_own w1 wr.heap.size n v7 ((List.range n).map Z).toArray ho (by omega)
      have HO : Aside _ := ho
      have G1 : Aside _ := g1
      clear ho g1 hclone
      go_wp2_with fail
      refine Calls.mono hsort ?_
      rintro e w2 ⟨rfl, R, pR, sR, oR, gR⟩
      have hM2 := HM.out.toM2 G1.out HO.out gR oR pR sR
      have HM2 : Aside _ := hM2
      have hmk := run_make_row' (P := Yba.prog) 42 4 (.bool false) 1 Yba.underlying42 info4 rfl .i64 .i64 n (by omega) (by omega)
      clear hsort pR sR oR gR hM2 HM HO G1
      go_wp2_with fail
      clear hmk
      generalize hub : w2.heap.size = ub at HM2
      go_loopg [9] n (fun k s9 wr => ∃ i : Nat, i + k = n ∧ s9 = .int .i64 i ∧ M2x w wr hb wsb ub n i v7 xs kf R.toList)
      case atStart => exact ⟨0, by omega, rfl, _, _, _, HM2.out⟩
      case round =>
        clear HM2 hub
        obtain ⟨i, hik, rfl, v, A, us, hM⟩ := hrel
        obtain ⟨aa, cc, hv, hg⟩ := own_form hM.hv.own
        subst hv
        have hc4 : wr.cell? ⟨hb, 0, none⟩ = some (.slice aa A.size cc) := by simp [World.cell?, hM.hv.var]
        have hz := hM.size
        by_cases hin : i < n
        · have hinz : (i : Int) < (n : Int) := by omega
          have hsz : (n : Int) - (i : Int) = (A.size : Int) := by omega
          have hwt : ∀ x ∈ A.toList, Wt wr kf x := fun x hx => hM.wt x (hM.sub x hx)
          have hpop := hpop10 wr hb w.heap.size _ A kf hM.hv (by omega) (by omega) hM.heap hwt
          obtain ⟨hk, h0⟩ := hM.least hin
          obtain ⟨j0, hj0, hx0, hu0, hoth⟩ := hM.place hin
          have HM : Aside _ := hM
          have HK : Aside _ := hk
          have HX0 : Aside _ := hx0
          have HO : Aside _ := hoth
          have H00 : Aside _ := h0
          have HU : Aside _ := hu0
          clear hM hk hwt hoth hx0 h0 hu0 hg hz
          generalize hAs : A.size = m at *
          generalize hx : A[0]! = x at *
          have has : ∀ w, Sem.run Yba.prog (Instr.typeAssert (.iface 25 (pc x)) 20 25 true) w = .ok (.tuple #[.pointer (some ⟨x, 0, none⟩), .bool true]) w := assert_ok x
          go_wp2_with fail
          refine (len9 _ _ _ _).mono ?_
          rintro e w' ⟨rfl, rfl⟩
          go_wp2_with fail
          refine Calls.mono hpop ?_
          rintro e w3 ⟨rfl, hp⟩
          obtain ⟨z1, z2, z3, z4⟩ := HM.out.after hp
          obtain ⟨a7, c7, e7, g7⟩ := own_form z1
          obtain ⟨gw, rfl⟩ := g7 (by omega)
          subst e7
          have hcw : w3.cell? ⟨gw, i, none⟩ = some (.int .u64 (kf x)) := by
            have := z1.cells (g := gw) rfl i (.int .u64 (kf x)) (by rw [List.getElem?_map, HK.out]; rfl)
            rwa [Addr.add_mid, Nat.zero_add] at this
          have hxm : x ∈ xs := List.mem_of_getElem? HX0.out
          have hcx := (z4 x hxm).cell
          have Z2 : Aside _ := z2
          have Z3 : Aside _ := z3
          have Z4 : Aside _ := z4
          have HP : Aside _ := hp
          clear z1 z2 z3 z4 hp g7 hpop
          go_wp2_with fail
          go_quiet (fail)
          go_wp2_with fail
          have z2' : (w3.drewN nq).rowIs wsb 25 n (fun t => pcOr xs[t]?) := Z2.out
          have z3' : (w3.drewN nq).rowIs ub 4 n (fun t => .bool (us t)) := Z3.out
          have z4' : ∀ y ∈ xs, Wt (w3.drewN nq) kf y := Z4.out
          have c4 : Chg (fun _ => False) w3 (w3.drewN nq) := ⟨rfl, rfl, rfl, Nat.le_refl _, fun h _ => h⟩
          have Y2 : Aside _ := z2'
          have Y3 : Aside _ := z3'
          have Y4 : Aside _ := z4'
          have C4 : Aside _ := c4
          clear z2' z3' z4' c4 hcw hcx Z2 Z3 Z4
          have hxl := HM.out.len
          have HXL : Aside _ := hxl
          clear hxl
          generalize w3.drewN nq = w4 at Y2 Y3 Y4 C4 ⊢
          go_loopg [13] n (fun k s13 wz => ∃ j : Nat, s13 = .int .i64 j ∧ j ≤ j0 ∧ j0 + 1 - j ≤ k ∧ wz = w4)
          case atStart => exact ⟨0, rfl, by omega, by omega, rfl⟩
          case round =>
            obtain ⟨j, rfl, hjj, hjk, rfl⟩ := hrel
            have hjz : (j : Int) < (n : Int) := by omega
            have hlj : j < xs.length := by rw [HXL.out]; omega
            obtain ⟨y, hy⟩ : ∃ y, xs[j]? = some y := ⟨_, List.getElem?_eq_some_iff.2 ⟨hlj, rfl⟩⟩
            have hcj := World.rowIs.cell Y2.out (i := j) (by omega)
            simp only [hy, pcOr, pc] at hcj
            have heq := eq_wait (Y4.out x hxm) (Y4.out y (List.mem_of_getElem? hy))
            have HY : Aside _ := hy
            clear hy hlj
            by_cases hj0' : j = j0
            · subst hj0'
              have hyx : y = x := by
                have := HY.out
                rw [HX0.out] at this
                cases this
                rfl
              subst hyx
              rw [decide_eq_true rfl] at heq
              have hcu := World.rowIs.cell Y3.out (i := j) (by omega)
              have hfu := World.rowIs.frozen Y3.out j
              simp only [HU.out] at hcu
              go_wp2_with fail
              go_roundg (n - (i + 1))
              case measure => omega
              case rel =>
                refine ⟨i + 1, by omega, by simp, HM.out.next hin HP.out (by rw [hx]; exact HX0.out) (fun t y' h1 h2 => by rw [hx]; exact HO.out t y' h1 h2) ?_ (World.rowIs.set Y3.out j _)⟩
                exact (Chg.trans (S := fun q => q = ub) ⟨C4.out.os, C4.out.tape, C4.out.output, C4.out.size, fun h _ => C4.out.keep h (fun e => e)⟩ (Chg.of (grown_set _ ub j _) (fun q e => .inl (by cases e; rfl))) (S' := fun q => q = ub) (fun q e => .inl e))
            · have hyx : y ≠ x := HO.out j y HY.out hj0'
              rw [decide_eq_false hyx] at heq
              go_wp2_with fail
              go_roundg (j0 + 1 - (j + 1))
              case measure => omega
              case rel => exact ⟨j + 1, by simp, by omega, Nat.le_refl _, rfl⟩
        · have hinz : ¬ (i : Int) < (n : Int) := by omega
          have hA0 : A.size = 0 := by omega
          have hbel := hM.bel
          rw [hA0] at hc4
          have HB : Aside _ := hbel
          clear hM hbel hz hA0
          go_wp2_with fail
          refine (len9 _ _ _ _).mono ?_
          rintro e w' ⟨rfl, rfl⟩
          go_wp2_with fail
          refine bodyPost_ret (v := .bool true) (by kernel_rfl) rfl ⟨rfl, HB.out⟩
end Go.Proofs.Ybulkdsqs
