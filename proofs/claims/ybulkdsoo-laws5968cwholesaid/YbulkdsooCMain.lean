/-
  THE WALK of LawS5968CWhole (4).
-/
import Derived.Test.YbulkdsooCBits
import Derived.Deep.DeepCutAuto
import Derived.Deep.Light
import Derived.Deep.CutBlock
import Derived.WalkSmall
namespace Go.Proofs.Ybulkdsoo
open Go.RowKit

/-- o, padded with zero words. -/
def pad (g : Nat → Int) (m : Nat) : Nat → Int := fun i => if i < m then g i else 0

set_option maxHeartbeats 1600000 in
set_option maxRecDepth 100000 in
theorem main_any (a0 a1 : Option Addr) (n c0 m c1 : Nat) (f g : Nat → Int) (w : World) (h0 : Rd w a0 n f) (h1 : Rd w a1 m g) (hn : n + m ≤ 1048576) (n0 : a0 = none → n = 0) (n1 : a1 = none → m = 0) (hgi : good f (pad g m) n = incl f (pad g m) n) :
    Calls Yba.prog 4 #[.slice a0 n c0, .slice a1 m c1] w fun e w' => e = .returned (.bool true) ∧ Below w.heap.size w w' := by
  have hmk := run_make_row' (P := Yba.prog) 49 51 (.int .u64 0) 8 Yba.underlying49 Yba.info51 rfl .i64 .i64 n (by omega) (by omega)
  go_enter Yba.func4, Yba.ntmps4
  go_wp2_with fail
  refine (copy_any _ _ _ f _ h0 (by omega) n0).mono ?_
  rintro e w1 ⟨ra, rc, rfl, hra, hran, hb1⟩
  go_wp2_with fail
  refine (copy_any _ _ _ g _ (h1.later hb1) (by omega) n1).mono ?_
  rintro e w2 ⟨sa, sc, rfl, hsa, hsan, hb2'⟩
  have hb2 : Below w.heap.size w w2 := hb1.trans (hb2'.mono hb1.size)
  have hra2 := hra.later hb2'
  clear hra hb2' hb1
  go_upto_if 29 with fail
  go_cut [7] (fun v wc => ∃ ta k tc, v = .slice ta k tc ∧ n ≤ k ∧ Rd wc ta k (pad g m) ∧ Rd wc ra n f ∧ Rd wc sa m g ∧ Below w.heap.size w wc)
  case first =>
    by_cases hlt : m < n
    · go_wp2_with fail
      go_loopg [8] m (fun k i wr => ∃ j : Nat, j + k = m ∧ i = .int .i64 j ∧ wr.rowIs w2.heap.size 51 n (fun t => .int .u64 (if t < j then g t else 0)) ∧ Below w2.heap.size w2 wr)
      case atStart => exact ⟨0, by omega, rfl, (World.rowIs_made w2 _ n 51).congr (fun j _ => by simp), (Below.refl _ _).alloc (Nat.le_refl _) _⟩
      case round =>
        obtain ⟨j, hj, rfl, hrow, hb⟩ := hrel
        by_cases hl : j < m
        · obtain ⟨b, off, rfl, hc⟩ := h1 j hl
          have hc' := cell_later hb (cell_later hb2 hc)
          have hf := hrow.frozen j
          have hcj := hrow.cell (Nat.lt_trans hl hlt)
          have hjn : (j : Int) < (n : Int) := by omega
          have HR : Hid (wr.rowIs w2.heap.size 51 n (fun t => .int .u64 (if t < j then g t else 0)) ∧ Below w2.heap.size w2 wr) := ⟨hrow, hb⟩
          clear hrow hb hmk
          go_wp2
          obtain ⟨hrow, hb⟩ := HR.out
          go_roundg (m - (j + 1))
          case measure => omega
          case rel => exact ⟨j + 1, by omega, by go_num, (hrow.set j _).congr (fun t _ => by by_cases e : t = j <;> simp [e] <;> (by_cases h2 : t < j <;> simp [h2] <;> omega)), hb.setCell (Nat.le_refl _) _⟩
        · have hjn : j = m := by omega
          subst hjn
          clear hmk
          go_wp2
          go_meet
          case rel =>
            refine ⟨_, _, _, rfl, Nat.le_refl _, ?_, hra2.later hb, hsa.later hb, hb2.trans (hb.mono hb2.size)⟩
            intro i hi
            exact ⟨w2.heap.size, 0, rfl, by have := hrow.cell hi; simpa [pad] using this⟩
    · go_wp2
      go_meet
      case rel =>
        refine ⟨_, _, _, rfl, by omega, ?_, hra2, hsa, hb2⟩
        intro i hi
        obtain ⟨b, off, ha, hc⟩ := h1.later hb2 i hi
        exact ⟨b, off, ha, by simpa [pad, hi] using hc⟩
  case rest =>
    obtain ⟨ta, k, tc, rfl, hk, hta, hra3, hsa3, hb3⟩ := hcut
    have h03 := h0.later hb3
    have h13 := h1.later hb3
    clear hra2 hsa hb2 hmk h0 h1
    go_upto_block 2 with fail
    go_cut [9] (fun v wx => v = .bool (good f (pad g m) n) ∧ wc = wx)
    case first =>
      go_wp2_with fail
      go_loopg [9, 10] n (fun k v i wr => ∃ j : Nat, j + k = n ∧ i = .int .i64 j ∧ v = .bool (good f (pad g m) j) ∧ wc = wr)
      case atStart => exact ⟨0, by omega, rfl, rfl, rfl⟩
      case round =>
        obtain ⟨j, hj, rfl, rfl, rfl⟩ := hrel
        by_cases hl : j < n
        · by_cases hg : good f (pad g m) j = true
          · obtain ⟨b1, o1, rfl, hc1⟩ := hra3 j hl
            rw [hg]
            go_upto_block 3 with fail
            go_cut [9] (fun v wx => v = .bool (goodW (f j) (pad g m j)) ∧ wc = wx)
            case first =>
              go_upto_if 58 with fail
              go_cut [11] (fun v wx => v = .int .u64 (pad g m j) ∧ wc = wx)
              case first =>
                by_cases hm : j < m
                · obtain ⟨b2, o2, rfl, hc2⟩ := hsa3 j hm
                  go_wp2_with fail
                  go_meet
                  case rel => exact ⟨by simp [pad, hm], rfl⟩
                · go_wp2_with fail
                  go_meet
                  case rel => exact ⟨by simp [pad, hm], rfl⟩
              case rest =>
                obtain ⟨rfl, rfl⟩ := hcut
                go_wp2_with fail
                go_loopg [9, 12] 64 (fun k v i wr => ∃ b : Nat, b + k = 64 ∧ i = .int .u64 b ∧ v = .bool true ∧ goodB (f j) (pad g m j) b = true ∧ wc = wr)
                case atStart => exact ⟨0, by omega, rfl, rfl, rfl, rfl⟩
                case round =>
                  obtain ⟨b, hb, rfl, rfl, hgb, rfl⟩ := hrel
                  by_cases hb6 : b < 64
                  · have HG : Hid (goodB (f j) (pad g m j) b = true) := hgb
                    clear hgb
                    go_wp2_with fail
                    · have t1 : bits .and .u64 (pad g m j / 2 ^ b) 1 = 1 := by assumption
                      have t2 : (bits .and .u64 (f j / 2 ^ b) 1 == 0) = true := by assumption
                      go_meet
                      case rel => exact ⟨by rw [goodW, goodB_bad _ _ 64 b hb6 (by rw [badB, t1, t2]; rfl)], rfl⟩
                    · have t2 : (bits .and .u64 (f j / 2 ^ b) 1 == 0) = false := by assumption
                      go_roundg (64 - (b + 1))
                      case measure => omega
                      case rel => exact ⟨b + 1, by omega, by go_num, rfl, by rw [goodB_succ, HG.out, badB, t2]; simp, rfl⟩
                    · have t1 : ¬ bits .and .u64 (pad g m j / 2 ^ b) 1 = 1 := by assumption
                      go_roundg (64 - (b + 1))
                      case measure => omega
                      case rel => exact ⟨b + 1, by omega, by go_num, rfl, by rw [goodB_succ, HG.out, badB, beq_false_of_ne t1]; simp, rfl⟩
                  · have hb64 : b = 64 := by omega
                    subst hb64
                    have HG : Hid (goodB (f j) (pad g m j) 64 = true) := hgb
                    clear hgb
                    go_wp2_with fail
                    go_meet
                    case rel => exact ⟨by rw [goodW, HG.out], rfl⟩
            case rest =>
              obtain ⟨rfl, rfl⟩ := hcut
              have HG : Hid (good f (pad g m) j = true) := hg
              clear hg
              go_wp2_with fail
              go_roundg (n - (j + 1))
              case measure => omega
              case rel => exact ⟨j + 1, by omega, by go_num, by rw [good_succ, HG.out]; rfl, rfl⟩
          · have hg' : good f (pad g m) j = false := by simpa using hg
            rw [hg']
            go_wp2_with fail
            go_meet
            case rel => exact ⟨by rw [good_mono _ _ n j (by omega) hg'], rfl⟩
        · have hjn : j = n := by omega
          subst hjn
          go_wp2_with fail
          all_goals
            go_meet
            case rel => exact ⟨rfl, rfl⟩
    case rest =>
      obtain ⟨rfl, rfl⟩ := hcut
      rw [hgi]
      go_wp2_with fail
      refine (inc_any _ _ _ _ _ _ f (pad g m) _ h03 hta (by omega) hk).mono ?_
      rintro e w4 ⟨rfl, k1, rfl⟩
      go_wp2_with fail
      refine (eq_any _ _ _ _ _ f _ (h03.drewN k1) (hra3.drewN k1) (by omega) hran).mono ?_
      rintro e w4 ⟨rfl, k2, rfl⟩
      go_wp2_with fail
      refine (eq_any _ _ _ _ _ g _ (h13.drewN (k1 + k2)) (hsa3.drewN (k1 + k2)) (by omega) hsan).mono ?_
      rintro e w4 ⟨rfl, k3, rfl⟩
      go_wp2
      go_ret
      exact ⟨rfl, below_drewN hb3 _⟩

end Go.Proofs.Ybulkdsoo
