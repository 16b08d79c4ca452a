/-
  THE WALK of LawS5968AWhole (3).
-/
import Derived.Test.YbulkdsooAFin
import Derived.Deep.DeepCutAuto
import Derived.Deep.CutBlock
import Derived.Deep.Light
import Derived.WalkSmall
namespace Go.Proofs.Ybulkdsoo
open Go.RowKit
set_option linter.unusedSimpArgs false
set_option linter.unusedVariables false

theorem Yba.info38 : (Yba.prog.info? 38).map (fun i => (i.zero, i.size, i.bytes)) = some (some (.agg #[.pointer none, .int .i32 0, .int .i32 0, .int .i32 0]), 4, 24) := by kernel_rfl

theorem run_make40 (n : Nat) (hn : n ≤ 65536) (w : World) : (Instr.makeSlice 34 (.int .i64 (n : Int)) (.int .i64 (n : Int))).run Yba.prog w =
    .ok (.slice (some ⟨w.heap.size, 0, none⟩) n n) (w.alloc (.cells (madeCells #[.pointer none, .int .i32 0, .int .i32 0] (n * 3)) 40)) := by
  obtain ⟨i, hi, hz, hs, hb⟩ := info_parts Yba.info40
  have hr := run_make (P := Yba.prog) w 34 40 i _ Yba.underlying34 hi hz .i64 .i64 n n (by omega) (Int.le_refl _) (by rw [hb]; omega) (by omega)
  rw [hs] at hr
  simpa [Value.cells] using hr

set_option maxHeartbeats 1600000 in
set_option maxRecDepth 100000 in
theorem mainA (bm om m cm : Nat) (a1 : Option Addr) (np cp : Nat) (at' : Int) (w : World) (M : Nat → Int) (pk : Nat → Int) (hm0 : 0 < m) (hm : m ≤ 65536) (hnp : np ≤ 9223372036854775807) (ha0 : 0 ≤ at') (ha1 : at' < 4294967296)
    (h0 : ∀ i, i < m → w.cell? ⟨bm, om + i, none⟩ = some (.int .i32 (M i)))
    (h1 : ∀ i, i < np → ∃ b off, a1 = some ⟨b, off, none⟩ ∧ w.cell? ⟨b, off + i, none⟩ = some (.int .u8 (pk i))) (hpk : ∀ i, 0 ≤ pk i ∧ pk i ≤ 255) :
    Calls Yba.prog 3 #[.slice (some ⟨bm, om, none⟩) m cm, .slice a1 np cp, .int .u32 at'] w fun e w' => e = .returned (.bool true) ∧ Below w.heap.size w w' := by
  have z0 : ((m : Int) == 0) = false := by simp; omega
  have z1 : ¬ (65536 : Int) < m := by omega
  obtain ⟨i, hi, him⟩ : ∃ i : Nat, at' % (m : Int) = i ∧ i < m := by
    have h1 := Int.emod_nonneg at' (b := (m : Int)) (by omega)
    have h2 := Int.emod_lt_of_pos at' (b := (m : Int)) (by omega)
    exact ⟨(at' % (m : Int)).toNat, by omega, by omega⟩
  obtain ⟨o, ho, hoe⟩ : ∃ o : Nat → Nat, (∀ k, o k < 3) ∧ ∀ k, o k = if k < np then ((pk k) % 3).toNat else 0 := ⟨_, fun k => by split <;> omega, fun k => rfl⟩
  have HO : Hid (∀ k, o k = if k < np then ((pk k) % 3).toNat else 0) := hoe
  clear hoe
  have hmk := run_make40 m hm
  go_enter Yba.func3, Yba.ntmps3
  go_wp2
  go_loopg [10] 3 (fun k v wr => ∃ j : Nat, j + k = 3 ∧ v = .int .i64 j ∧ L1 w wr j)
  case atStart => exact ⟨0, rfl, rfl, L1_start w⟩
  case round =>
    obtain ⟨j, hj, rfl, hL⟩ := hrel
    by_cases hj3 : j < 3
    · have c := hL.arr.cell hj3
      rw [if_neg (Nat.lt_irrefl j)] at c
      have f := hL.arr.frozen j
      have hlt : w.heap.size < wr.heap.size := by have := hL.size; omega
      have HL : Hid (L1 w wr j) := hL
      clear hL hmk
      go_wp2_with fail
      go_roundg (3 - (j + 1))
      case measure => omega
      case rel => exact ⟨j + 1, by omega, by go_num, by rw [← World.setCell_alloc_past _ _ _ _ hlt]; exact L1_step HL.out _ rfl⟩
    · have e3 : j = 3 := by omega
      subst e3
      have hI := Inv_start hL m o M
      have HI : Hid (Inv w (wr.alloc (.cells (madeCells #[.pointer none, .int .i32 0, .int .i32 0] (m * 3)) 40)) m 0 0 o M (fun _ => .slice none 0 0)) := hI
      have hs3 : wr.heap.size = w.heap.size + 4 := hL.size
      clear hL hI
      go_wp2_with fail
      go_loopg [12] m (fun q v wr => ∃ (k : Nat) (V : Nat → Value), k + q = m ∧ v = .int .i64 k ∧ Inv w wr m k k o M V)
      case atStart => exact ⟨0, _, by omega, rfl, HI.out⟩
      case round =>
        clear HI hs3 hmk
        obtain ⟨k, V, hk, rfl, hI⟩ := hrel
        by_cases hkm : k < m
        · go_upto_if 56 with fail
          go_cut [13] (fun v wx => v = .int .i64 (o k) ∧ wr = wx)
          case first =>
            by_cases hkp : k < np
            · obtain ⟨b1, o1, rfl, hc1⟩ := h1 k hkp
              have hc1' := cell_later hI.below hc1
              have hpk1 := hpk k
              clear hI
              go_wp2_with fail
              go_meet
              case rel => exact ⟨by rw [HO.out k, if_pos hkp]; go_num, rfl⟩
            · clear hI
              go_wp2_with fail
              go_meet
              case rel => exact ⟨by rw [HO.out k, if_neg hkp]; rfl, rfl⟩
          case rest =>
            obtain ⟨rfl, rfl⟩ := hcut
            have hok := ho k
            have hok' : (o k : Int) < 3 := by omega
            have ca := hI.arr (o k) hok
            go_upto_region 18 with fail
            go_cut [] (fun wx => ∃ V', Inv w wx m (k + 1) k o M V')
            case first =>
              have cs := hI.ses (o k) hok
              have cf := hI.free (o k) hok
              have HI : Hid (Inv w wr m k k o M V) := hI
              have hown := hI.own (o k) hok
              obtain ⟨av, cv, hv⟩ := own_shape hown
              rw [hv] at cs
              have hll := Ls_le o (o k) k
              have hsz := hI.size
              clear hI h0 h1 hpk
              obtain ⟨i0, hi0, hz0, hz1, hz2⟩ := info_parts Yba.info38
              go_wp2_with (first
                | (at_builtin; refine wpList_append_where _ rfl _ _ 30 rfl (w.heap.size + 5) 38 i0 _ 4 24 Yba.underlying30 hi0 hz0 hz1 hz2 rfl (by decide) _ _ _ rfl ((hv ▸ hown).alloc _) ⟨wr.heap.size, 0, none⟩ 1 1 (shc [(k : Int)]) rfl rfl ?c1 ?c2 ?c3 ?c4 ?c5 ?c6 ?_))
              case c1 => rw [shc_one]; exact new_cells wr [_, _, _, _] 38
              case c2 => rw [shc_one]; simp [Value.oneCell']
              case c3 => unfold maxLen; omega
              case c4 => omega
              case c5 => simp; omega
              case c6 => decide
              · intro v' w2 hown' hg hw
                have hI2 := Inv_append HI.out hok v' hown' _ (by rw [hv]; exact hg) (by rw [hv]; simpa using hw)
                obtain ⟨d1, d2⟩ := Inv_append_cell HI.out hok _ (by rw [hv]; exact hg)
                obtain ⟨a2, c2, rfl⟩ := own_shape hown'
                have H2 : Hid (Inv w (w2.setCell ⟨w.heap.size + 1 + o k, 6, none⟩ (.slice a2 ((Ls o (o k) k).length + 1) c2)) m (k + 1) k o M (up V (o k) (.slice a2 ((Ls o (o k) k).length + 1) c2))) := hI2
                rw [hv] at d1
                clear hI2 hown' hg hw hown hv cs cf ca
                go_wp2_with fail
                go_meet
                case rel => exact ⟨_, H2.out⟩
            case rest =>
              obtain ⟨V', hI'⟩ := hcut
              have cm1 := cell_later hI'.below (h0 k hkm)
              have cs := hI'.ses (o k) hok
              obtain ⟨av, cv, hv⟩ := own_shape (hI'.own (o k) hok)
              rw [Ls_hit o (o k) k rfl, List.length_append] at hv
              have er : (Ls o (o k) k).length = rank o k := rfl
              rw [er] at hv
              rw [hv] at cs
              simp only [List.length_cons, List.length_nil, Nat.zero_add] at cs
              have rl : rank o k ≤ k := Ls_le o (o k) k
              have e0 := hI'.ws.c0 hkm
              have e1 := hI'.ws.c1 hkm
              have e2 := hI'.ws.c2 hkm
              simp only [Nat.lt_irrefl, if_false] at e0 e1 e2
              have ef := hI'.ws.fr
              have H2 : Hid (Inv w wc m (k + 1) k o M V') := hI'
              clear hI' hI hv er ca h0 h1
              go_wp2
              go_region
              go_wp2
              go_roundg (m - (k + 1))
              case measure => omega
              case rel => exact ⟨k + 1, V', by omega, by go_num, (Inv_store H2.out).drew⟩
        · obtain rfl : m = k := by omega
          have hmk := run_make40 m hm
          obtain ⟨W2, hcopy, hfin, hs2⟩ := Inv_copy hI 3
          clear hI h0 h1 hpk hs2
          go_wp2_with fail
          clear hcopy hmk
          go_loopg [17] 3 (fun q v wr => ∃ j : Nat, j + q = 3 ∧ v = .int .i64 j ∧ L3 w W2 wr m o j)
          case atStart => exact ⟨0, rfl, rfl, L3_start w W2 m o⟩
          case round =>
            obtain ⟨j, hj, rfl, hL⟩ := hrel
            have hfr := hfin.of_blocks hL.grown
            by_cases hj3 : j < 3
            · have c := hL.row.cell hj3
              rw [if_neg (Nat.lt_irrefl j)] at c
              have f := hL.row.frozen j
              have ca := hfr.inv.arr j hj3
              have cs := hfr.inv.ses j hj3
              obtain ⟨av, cv, hv⟩ := own_shape (hfr.inv.own j hj3)
              rw [hv] at cs
              have HL : Hid (L3 w W2 wr m o j) := hL
              clear hL hv hfin hfr
              go_wp2_with fail
              go_roundg (3 - (j + 1))
              case measure => omega
              case rel => exact ⟨j + 1, by omega, by go_num, L3_step HL.out⟩
            · obtain rfl : 3 = j := by omega
              have hR := ready hfin hL
              have hsL := hL.size
              have HR : Hid (Ready w _ m o M V _ _ _) := hR
              clear hR hL hfr hfin
              go_wp2_with fail
              refine (stop_ready HR.out him hm ho).mono ?_
              clear HR
              rintro e w5 ⟨rfl, hD⟩
              have cc := hD.cr
              have m1 : ((m - 1 : Nat) : Int) = (m : Int) - 1 := by omega
              have d0 := hD.ws.c0 (t := m - 1) (by omega)
              have d1 := hD.ws.c1 (t := m - 1) (by omega)
              have d2 := hD.ws.c2 (t := m - 1) (by omega)
              rw [up_same] at d0 d1 d2
              have hep := eq_ptr_same
              go_wp2_with fail
              clear d0 d1 d2 cc m1
              go_loopg [19] (m - 1) (fun q v wr => ∃ k : Nat, k + q = m - 1 ∧ v = .int .i64 k ∧ Done w wr m i o M V _ _ _)
              case atStart => exact ⟨0, by omega, rfl, hD⟩
              case round =>
                clear hD
                obtain ⟨k, hk, rfl, hD⟩ := hrel
                have m1 : ((m - 1 : Nat) : Int) = (m : Int) - 1 := by omega
                by_cases hkm : k < m - 1
                · have cc := hD.cr
                  have a0 := hD.old.c0 (t := k) (by omega)
                  have a1 := hD.old.c1 (t := k) (by omega)
                  have a2 := hD.old.c2 (t := k) (by omega)
                  have e0 := hD.ws.c0 (t := k) (by omega)
                  have e1 := hD.ws.c1 (t := k) (by omega)
                  have e2 := hD.ws.c2 (t := k) (by omega)
                  rw [up_other _ _ _ _ (by omega)] at e0 e1 e2
                  have lb := hD.ltc
                  have lo := hD.lto
                  have lw : w.heap.size + 4 < wr.heap.size := by have := hD.low; omega
                  have HD : Hid (Done w wr m i o M V _ _ _) := hD
                  have hkm' : (k : Int) < (m : Int) - 1 := by omega
                  by_cases hki : k = i
                  · subst hki
                    rw [up_same] at e0 e1 e2
                    have b0 := hD.old.c0 (t := m - 1) (by omega)
                    have b1 := hD.old.c1 (t := m - 1) (by omega)
                    have b2 := hD.old.c2 (t := m - 1) (by omega)
                    clear hD
                    go_wp2_with fail
                    go_quiet (fail)
                    go_wp2_with fail
                    go_roundg (m - 1 - (k + 1))
                    case measure => omega
                    case rel => exact ⟨k + 1, by omega, by go_num, (HD.out.alloc _).drewN _⟩
                  · rw [up_other _ _ _ _ hki] at e0 e1 e2
                    have hki' : ((k : Int) == (i : Int)) = false := by simp; omega
                    clear hD
                    go_wp2_with fail
                    go_quiet (fail)
                    go_wp2_with fail
                    go_roundg (m - 1 - (k + 1))
                    case measure => omega
                    case rel => exact ⟨k + 1, by omega, by go_num, (HD.out.alloc _).drewN _⟩
                · obtain rfl : m - 1 = k := by omega
                  clear m1 hkm
                  go_wp2_with fail
                  go_loopg [21] 3 (fun q v wr => ∃ j : Nat, j + q = 3 ∧ v = .int .i64 j ∧ Done w wr m i o M V _ _ _)
                  case atStart => exact ⟨0, by omega, rfl, hD⟩
                  case round =>
                    clear hD hk
                    obtain ⟨j, hj, rfl, hD⟩ := hrel
                    by_cases hj3 : j < 3
                    · have ca := hD.arr j hj3
                      have cs := hD.ses j hj3
                      have cl := hD.lens j hj3
                      obtain ⟨av, cv, hv⟩ := own_shape (hD.own j hj3)
                      rw [hv] at cs
                      have HD : Hid (Done w wr m i o M V _ _ _) := hD
                      clear hD hv
                      have hj3' : (j : Int) < 3 := by omega
                      go_wp2_with fail
                      go_quiet (fail)
                      go_wp2_with fail
                      go_roundg (3 - (j + 1))
                      case measure => omega
                      case rel => exact ⟨j + 1, by omega, by go_num, HD.out.drewN _⟩
                    · obtain rfl : 3 = j := by omega
                      go_wp2_with fail
                      go_loopg [22] m (fun q v wr => ∃ k : Nat, k + q = m ∧ v = .int .i64 k ∧ Done w wr m i o M V _ _ _)
                      case atStart => exact ⟨0, by omega, rfl, hD⟩
                      case round =>
                        clear hD hj hj3
                        obtain ⟨k, hk, rfl, hD⟩ := hrel
                        by_cases hkm : k < m
                        · have a0 := hD.old.c0 hkm
                          have a1 := hD.old.c1 hkm
                          have a2 := hD.old.c2 hkm
                          have cs := hD.ses _ (ho k)
                          have hat := After_at o m i k hkm
                          have hr := rank_lt o k m hkm
                          have hlen := Ls_le o (o k) m
                          have hown := hD.own _ (ho k)
                          obtain ⟨g, cap, hv⟩ : ∃ g cap, V (o k) = .slice (some ⟨g, 0, none⟩) (Ls o (o k) m).length cap := by
                            rcases hown.2 with ⟨e1, e2⟩ | ⟨g, cap, cur, e1, _⟩
                            · omega
                            · exact ⟨_, _, e1⟩
                          rw [hv] at cs hown
                          have cg := hown.cellAt (rank o k * 4 + 3) (by omega)
                          rw [shc_at _ _ _ hat] at cg
                          have lg : g < wr.heap.size := World.block_lt_of_cell? _ _ cg
                          have lo := hD.lto
                          have ls : w.heap.size + 1 + o k < wr.heap.size := World.block_lt_of_cell? _ _ cs
                          have hr' : (rank o k : Int) < ((Ls o (o k) m).length : Int) := by omega
                          have HD : Hid (Done w wr m i o M V _ _ _) := hD
                          clear hD hv hown hat
                          simp only [pw, rk] at a0 a2
                          by_cases hlast : k = m - 1 ∧ i < m - 1
                          · rw [if_pos hlast] at cg
                            have t1 : ((k : Int) == (m : Int) - 1) = true := by simp; omega
                            have t2 : (i : Int) < (m : Int) - 1 := by omega
                            clear hlast
                            go_wp2_with fail
                            go_quiet (fail)
                            go_wp2_with fail
                            go_roundg (m - (k + 1))
                            case measure => omega
                            case rel => exact ⟨k + 1, by omega, by go_num, (HD.out.alloc _).drewN _⟩
                          · rw [if_neg hlast] at cg
                            by_cases hk1 : k = m - 1
                            · have t1 : ((k : Int) == (m : Int) - 1) = true := by simp; omega
                              have t2 : ¬ (i : Int) < (m : Int) - 1 := by omega
                              clear hlast hk1
                              go_wp2_with fail
                              go_quiet (fail)
                              go_wp2_with fail
                              go_roundg (m - (k + 1))
                              case measure => omega
                              case rel => exact ⟨k + 1, by omega, by go_num, (HD.out.alloc _).drewN _⟩
                            · have t1 : ((k : Int) == (m : Int) - 1) = false := by simp; omega
                              clear hlast hk1
                              go_wp2_with fail
                              go_quiet (fail)
                              go_wp2_with fail
                              go_roundg (m - (k + 1))
                              case measure => omega
                              case rel => exact ⟨k + 1, by omega, by go_num, (HD.out.alloc _).drewN _⟩
                        · obtain rfl : m = k := by omega
                          have hB := hD.below
                          clear hD
                          go_wp2_with fail
                          go_ret
                          exact ⟨rfl, hB⟩
end Go.Proofs.Ybulkdsoo
