/-
  LawS5972COrder: math/bits.Len, slices.nextPowerOfTwo, (*xorshift).Next, breakPatternsOrdered at uint64.
-/
import Derived.Test.YbulkdsqsOPiv
import Derived.Sort.LotD5
import Derived.Laws.Bits64
import Derived.Laws.Bits64b
import Derived.Shelf.Small.Bits
import Derived.Shelf.Lay
import Derived.Ground.NamesProg
namespace Go.Proofs
open Go.Shelf
shelf_lay Lays.n125 Nm 125 at Yba as Yba.lays125
end Go.Proofs
namespace Go.Proofs.Ybulkdsqs
open Go.RowKit Go.Sort
set_option linter.unusedSimpArgs false
set_option linter.unusedVariables false

/-- How many bits: the shelf's word is the sort's. -/
theorem bits_same (x : Nat) (h : x < 2 ^ 64) : Lib.bitLen x = bitsLen x := by
  induction x using Nat.strongRecOn with
  | _ x ih =>
    rcases Nat.eq_zero_or_pos x with h0 | h0
    · subst h0; rfl
    · rw [Lib.bitLen_half x (by omega) h, ih (x / 2) (by omega) (by omega), bitsLen, bitsLen, if_neg (show x ≠ 0 by omega), Nat.log2_def x]
      by_cases h2 : 2 ≤ x
      · rw [if_pos h2, if_neg (by omega)]; omega
      · obtain rfl : x = 1 := by omega
        simp
theorem len13 (n : Nat) (hn : n < 4611686018427387904) (w : World) : Calls Yba.prog 13 #[.int .u64 (n : Int)] w fun e w' => e = .returned (.int .i64 (bitsLen n : Nat)) ∧ w' = w := by
  have h := Any.bits_Len Yba.lays125 (n : Int) w (by omega) (by omega)
  change Calls Yba.prog 13 _ _ _ at h
  rwa [Int.toNat_natCast, bits_same _ (by omega)] at h

theorem pow_wrap (k : Nat) (hk : k ≤ 62) : IntKind.u64.wrap ((2 : Int) ^ k) = ((2 ^ k : Nat) : Int) := by
  have h : (2 : Nat) ^ k ≤ 2 ^ 62 := Nat.pow_le_pow_right (by decide) hk
  rw [IntKind.wrap_u64, show ((2 : Int) ^ k) = ((2 ^ k : Nat) : Int) by push_cast; rfl]
  generalize (2 : Nat) ^ k = p at h
  omega
theorem npt27 (n : Nat) (hn : n < 4611686018427387904) (w : World) : Calls Yba.prog 27 #[.int .i64 n] w fun e w' => e = .returned (.int .u64 ((2 ^ bitsLen n : Nat) : Int)) ∧ w' = w := by
  have hk : bitsLen n ≤ 62 := (bitsLen_le_iff n 62).2 (by omega)
  have hp := pow_wrap (bitsLen n) hk
  obtain ⟨M, hM⟩ : ∃ M : Nat, M = 2 ^ bitsLen n := ⟨_, rfl⟩
  rw [← hM] at hp ⊢
  clear hM
  go_enter Yba.func27, Yba.ntmps27
  go_wp2_with fail
  refine (len13 n hn _).mono ?_
  rintro e w' ⟨rfl, rfl⟩
  go_wp2_with fail
  refine bodyPost_ret (v := .int .u64 (M : Int)) (by kernel_rfl) rfl ⟨rfl, rfl⟩

theorem set_twice (w : World) (b k : Nat) (v v' : Value) : (w.setCell ⟨b, k, none⟩ v).setCell ⟨b, k, none⟩ v' = w.setCell ⟨b, k, none⟩ v' := by
  rw [setCell_eq, setCell_eq, mapBlock_mapBlock, setCell_eq]
  congr 1
  funext c
  simp
/-- One line of xorshift: a shift to the left, a shift to the right. -/
theorem xs_left (X m : Nat) (hX : X < 18446744073709551616) : bits .xor .u64 (X : Int) (IntKind.u64.wrap ((X : Int) * (m : Int))) = ((X ^^^ (X * m % 18446744073709551616) : Nat) : Int) := by
  have e : ((X : Int) * (m : Int)) % 18446744073709551616 = ((X * m % 18446744073709551616 : Nat) : Int) := by rw [Int.natCast_emod, Int.natCast_mul]; rfl
  rw [IntKind.wrap_u64, e]
  exact bits_xor_u64_nat _ _ hX (Nat.mod_lt _ (by decide))
theorem xs_right (X m : Nat) (hX : X < 18446744073709551616) : bits .xor .u64 (X : Int) ((X : Int) / (m : Int)) = ((X ^^^ (X / m) : Nat) : Int) := by
  rw [← Int.natCast_ediv]
  exact bits_xor_u64_nat _ _ hX (Nat.lt_of_le_of_lt (Nat.div_le_self _ _) hX)
theorem xor_lt (X Y : Nat) (hX : X < 18446744073709551616) (hY : Y < 18446744073709551616) : X ^^^ Y < 18446744073709551616 := Nat.xor_lt_two_pow (n := 64) hX hY
set_option maxHeartbeats 1600000 in
set_option maxRecDepth 1000000 in
theorem next28 (b X : Nat) (hX : X < 18446744073709551616) (w : World) (h : Ct b .u64 X w) :
    Calls Yba.prog 28 #[.pointer (some ⟨b, 0, none⟩)] w fun e w' => e = .returned (.int .u64 (xorNextN X : Nat)) ∧ w' = (w.setCell ⟨b, 0, none⟩ (.int .u64 (xorNextN X : Nat))).drewN 3 := by
  have e1 := xs_left X 8192 hX
  have l1 := xor_lt X (X * 8192 % 18446744073709551616) hX (by omega)
  have hv : xorNextN X = ((X ^^^ (X * 8192 % 18446744073709551616)) ^^^ ((X ^^^ (X * 8192 % 18446744073709551616)) / 128)) ^^^ (((X ^^^ (X * 8192 % 18446744073709551616)) ^^^ ((X ^^^ (X * 8192 % 18446744073709551616)) / 128)) * 131072 % 18446744073709551616) := rfl
  generalize X ^^^ (X * 8192 % 18446744073709551616) = Y at e1 l1 hv
  have e2 := xs_right Y 128 l1
  have l2 := xor_lt Y (Y / 128) l1 (by omega)
  generalize Y ^^^ (Y / 128) = Z at e2 l2 hv
  have e3 := xs_left Z 131072 l2
  rw [hv]
  generalize Z ^^^ (Z * 131072 % 18446744073709551616) = U at e3 ⊢
  clear hv
  simp only [show ((8192 : Nat) : Int) = 8192 from rfl, show ((128 : Nat) : Int) = 128 from rfl, show ((131072 : Nat) : Int) = 131072 from rfl] at e1 e2 e3
  have hc := h.cell
  have hf := h.frz
  have hss := set_twice w b 0
  go_enter Yba.func28, Yba.ntmps28
  go_wp2_with fail
  go_region
  go_wp2_with fail
  go_region
  go_wp2_with fail
  go_region
  go_wp2_with fail
  refine bodyPost_ret (v := .int .u64 (U : Int)) (by kernel_rfl) rfl ⟨rfl, rfl⟩

/-- The rounds that are left. -/
def bpR (a L M i0 : Nat) : Nat → Nat → UInt64 × Array Int → Array Int
  | 0, _, st => st.2
  | k + 1, t, st => bpR a L M i0 k (t + 1) (breakStep a L M st (i0 + t))
theorem bp_all (d : Array Int) (a b i0 : Nat) (h : 8 ≤ b - a) (hi : a + (b - a) / 4 * 2 = i0 + 1) : breakPatterns d a b = bpR a (b - a) (2 ^ bitsLen (b - a)) i0 3 0 (UInt64.ofNat (b - a), d) := by
  unfold breakPatterns
  simp only
  rw [if_pos h, Nat.one_shiftLeft, hi, Nat.add_sub_cancel]
  rfl
theorem bp_small (d : Array Int) (a b : Nat) (h : ¬ 8 ≤ b - a) : breakPatterns d a b = d := by
  unfold breakPatterns
  simp only
  rw [if_neg h]
/-- Where the round's element goes. -/
def bpO (L M : Nat) (r : UInt64) : Nat := if L ≤ (xorNext r).toNat &&& (M - 1) then ((xorNext r).toNat &&& (M - 1)) - L else (xorNext r).toNat &&& (M - 1)

theorem Ct.keep {b s g x : Nat} {k : IntKind} {W : World} (h : Ct b k s W) (hne : g ≠ b) (v : Value) : Ct b k s (W.setCell ⟨g, x, none⟩ v) :=
  ⟨by rw [World.cell?_setCell_other _ _ _ _ (fun e => hne (by injection e))]; exact h.cell, by rw [World.frozen?_setCell]; exact h.frz⟩

set_option maxHeartbeats 3200000 in
set_option maxRecDepth 1000000 in
theorem brk17 (w0 : World) (g o n c a b : Nat) (d : Array Int) (w : World) (h : St w0 g o n d w) (hab : a ≤ b) (hb : b ≤ n) (hn : n < 4611686018427387904) :
    Calls Yba.prog 17 #[.slice (some ⟨g, o, none⟩) n c, .int .i64 a, .int .i64 b] w fun e w' => e = .returned (.tuple #[]) ∧ St w0 g o n (breakPatterns d a b) w' := by
  by_cases h8 : 8 ≤ b - a
  rotate_left
  · have h8z : ¬ (8 : Int) ≤ (b : Int) - (a : Int) := by omega
    rw [bp_small d a b h8]
    go_enter Yba.func17, Yba.ntmps17
    go_wp2_with fail
    go_end0
    exact ⟨rfl, h⟩
  have h8z : (8 : Int) ≤ (b : Int) - (a : Int) := by omega
  obtain ⟨i0, hi0⟩ : ∃ i0, a + (b - a) / 4 * 2 = i0 + 1 := ⟨a + (b - a) / 4 * 2 - 1, by omega⟩
  have eJ : (a : Int) + ((b : Int) - (a : Int)) / 4 * 2 = (i0 : Int) + 1 := by omega
  have bd : a ≤ i0 ∧ i0 + 3 ≤ b := by omega
  rw [bp_all d a b i0 h8 hi0]
  obtain ⟨M, hM⟩ : ∃ M : Nat, M = 2 ^ bitsLen (b - a) := ⟨_, rfl⟩
  have hM1 : 1 ≤ M := by rw [hM]; exact Nat.two_pow_pos _
  have hM2 : M ≤ 2 * (b - a) := by rw [hM]; exact two_pow_bitsLen_le (by omega)
  have np := npt27 (b - a) (by omega)
  rw [← hM] at np ⊢
  rw [show ((b - a : Nat) : Int) = (b : Int) - (a : Int) by omega] at np
  have hL : Aside (((UInt64.ofNat (b - a)).toNat : Int) = (b : Int) - (a : Int)) := by
    have e : (UInt64.ofNat (b - a)).toNat = b - a := by simp; omega
    show _ = _
    rw [e]
    omega
  obtain ⟨L, hLL⟩ : ∃ L, L = b - a := ⟨_, rfl⟩
  rw [← hLL] at hM2 hL ⊢
  have HLL : Aside (L = b - a) := hLL
  have LB : (L : Int) = (b : Int) - (a : Int) ∧ a + L ≤ n := by omega
  obtain ⟨LB1, LB2⟩ := LB
  have HLB1 : Aside ((L : Int) = (b : Int) - (a : Int)) := LB1
  clear hLL LB1 hM hi0
  have hle := h.le
  have h1 := h.alloc (.cells #[.int .u64 ((b : Int) - (a : Int))] 68)
  have hC1 : Ct w.heap.size .u64 (UInt64.ofNat L).toNat (w.alloc (.cells #[.int .u64 ((b : Int) - (a : Int))] 68)) := ⟨by rw [hL.out]; simp, by simp⟩
  go_enter Yba.func17, Yba.ntmps17
  go_wp2_with (go_at_call 27; refine (np _).mono ?_; rintro e w' ⟨rfl, rfl⟩)
  go_loopg [9] 3 (fun k s9 wr => ∃ (t : Nat) (r : UInt64) (dk : Array Int), t + k = 3 ∧ s9 = .int .i64 ((i0 + t : Nat) : Int) ∧ St w0 g o n dk wr ∧ Ct w.heap.size .u64 r.toNat wr ∧ Aside (bpR a L M i0 k t (r, dk) = bpR a L M i0 3 0 (UInt64.ofNat L, d)))
  case atStart => exact ⟨0, UInt64.ofNat L, d, rfl, by simp, h1, hC1, rfl⟩
  case round =>
    obtain ⟨t, r, dk, ht, rfl, hs, hC, he⟩ := hrel
    clear h h1 hC1
    rcases gk with _ | k
    · obtain rfl : t = 3 := by omega
      go_wp2_with fail
      go_end0
      refine ⟨rfl, ?_⟩
      rw [← he.out]
      exact hs
    obtain ⟨R, hR⟩ : ∃ R, R = (xorNext r).toNat := ⟨_, rfl⟩
    have lR : R < 18446744073709551616 := by rw [hR]; exact (xorNext r).toNat_lt
    have hNx := next28 w.heap.size r.toNat r.toNat_lt wr hC
    rw [← xorNext_toNat, ← hR] at hNx
    obtain ⟨A, hA⟩ : ∃ A, A = R &&& (M - 1) := ⟨_, rfl⟩
    have lA : A ≤ M - 1 := by rw [hA]; exact Nat.and_le_right
    have eAnd : bits .and .u64 (R : Int) ((M : Int) - 1) = (A : Int) := by
      rw [show ((M : Int) - 1) = ((M - 1 : Nat) : Int) by omega, bits_and_u64_nat _ _ lR (by omega), hA]
    obtain ⟨O, hO⟩ : ∃ O, O = if L ≤ A then A - L else A := ⟨_, rfl⟩
    have lO : O < L := by split at hO <;> omega
    have hst : breakStep a L M (r, dk) (i0 + t) = (xorNext r, swp dk (i0 + t) (a + O)) := by
      unfold breakStep
      simp only [← hR, ← hA, ge_iff_le, ← hO]
    have HST : Aside _ := hst
    have HO : Aside (O = if L ≤ A then A - L else A) := hO
    have HR : Aside (R = (xorNext r).toNat) := hR
    clear hst hO hA hR
    have it : (((i0 + t : Nat) : Int) ≤ (i0 : Int) + 1 + 1) := by omega
    obtain ⟨X, hX⟩ : ∃ X, X = i0 + t := ⟨_, rfl⟩
    have HX : Aside (X = i0 + t) := hX
    rw [← hX] at it ⊢
    have bX : a ≤ X ∧ X < b := by omega
    clear hX
    go_wp2_with fail
    refine hNx.mono ?_
    rintro e w' ⟨rfl, hw'⟩
    have hs2 : St w0 g o n dk w' := by rw [hw']; exact (hs.other hle _).drewN 3
    have hC2 : Ct w.heap.size .u64 R w' := by rw [hw']; exact (hC.set R).drewN 3
    clear hw' hs hC hNx
    go_upto_if 43 with fail
    go_cut [10] (fun v wx => v = .int .i64 O ∧ wx = w')
    case first =>
      by_cases hLA : L ≤ A
      · have z : (b : Int) - (a : Int) ≤ (A : Int) := by have := HLB1.out; omega
        have e := HO.out
        rw [if_pos hLA] at e
        go_wp2_with fail
        go_meet
        case rel => exact ⟨by have := HLB1.out; congr 1; omega, rfl⟩
      · have z : ¬ (b : Int) - (a : Int) ≤ (A : Int) := by have := HLB1.out; omega
        have e := HO.out
        rw [if_neg hLA] at e
        subst e
        go_wp2_with fail
        go_meet
        case rel => exact ⟨rfl, rfl⟩
    case rest =>
      obtain ⟨rfl, rfl⟩ := hcut
      obtain ⟨G, hG, hc, hf⟩ := hs2.sees
      obtain ⟨y', hy'⟩ := still (p := ⟨g, o + X, none⟩) (x := .int .u64 (G (a + O))) (hc (a + O) (by omega))
      go_wp2_with fail
      go_region
      go_wp2_with fail
      go_roundg k
      case measure => omega
      case rel =>
        have hlow := hs2.low
        refine ⟨t + 1, xorNext r, swp dk X (a + O), by omega, by rw [HX.out]; congr 1, hs2.swap hG (by omega) (by omega) 1, ?_, ?_⟩
        · rw [← HR.out]
          exact ((hC2.keep (by omega) _).keep (by omega) _).drewN 1
        · have e := he.out
          rw [bpR, HST.out] at e
          rw [HX.out]
          exact e
end Go.Proofs.Ybulkdsqs
