/-
  LawS5970CWhole: numbers below 2^160 in three words: the number of an identifier (16), the difference (25), the order (24), the top (26), zero (27).
-/
import Derived.Test.YbulkdspqFmtCCmp
namespace Go.Proofs.YbulkdspqFmt
open Go.RowKit
set_option linter.unusedSimpArgs false
set_option linter.unusedVariables false

/-- 2^160 -/
abbrev MM : Int := 1461501637330902918203684832716283019655932542976
/-- The cells of a number. -/
def uN (n : Int) : List Value := uc (n / 340282366920938463463374607431768211456) (n / 18446744073709551616 % 18446744073709551616) (n % 18446744073709551616)
theorem uN_of {h m l : Int} (bm : 0 ≤ m) (bm' : m < 18446744073709551616) (bl : 0 ≤ l) (bl' : l < 18446744073709551616) : uc h m l = uN (h * 340282366920938463463374607431768211456 + m * 18446744073709551616 + l) := by
  unfold uN
  rw [show (h * 340282366920938463463374607431768211456 + m * 18446744073709551616 + l) / 340282366920938463463374607431768211456 = h by omega, show (h * 340282366920938463463374607431768211456 + m * 18446744073709551616 + l) / 18446744073709551616 % 18446744073709551616 = m by omega, show (h * 340282366920938463463374607431768211456 + m * 18446744073709551616 + l) % 18446744073709551616 = l by omega]
theorem nm_bd {f : Nat → Int} (h : Byt f) : 0 ≤ nm f ∧ nm f < MM := by
  have := lowv_bd h 20 (Nat.le_refl _)
  simpa [nm] using this
theorem w8_bd {a b c d e f g h : Int} (ha : 0 ≤ a ∧ a < 256) (hb : 0 ≤ b ∧ b < 256) (hc : 0 ≤ c ∧ c < 256) (hd : 0 ≤ d ∧ d < 256) (he : 0 ≤ e ∧ e < 256) (hf : 0 ≤ f ∧ f < 256) (hg : 0 ≤ g ∧ g < 256) (hh : 0 ≤ h ∧ h < 256) : 0 ≤ Lib.beZ [a, b, c, d, e, f, g, h] ∧ Lib.beZ [a, b, c, d, e, f, g, h] < 18446744073709551616 := by
  simp [Lib.beZ, Lib.beFromZ]
  omega
theorem miW_bd {f : Nat → Int} (h : Byt f) : 0 ≤ miW f ∧ miW f < 18446744073709551616 := w8_bd (h 4 (by omega)) (h 5 (by omega)) (h 6 (by omega)) (h 7 (by omega)) (h 8 (by omega)) (h 9 (by omega)) (h 10 (by omega)) (h 11 (by omega))
theorem loW_bd {f : Nat → Int} (h : Byt f) : 0 ≤ loW f ∧ loW f < 18446744073709551616 := w8_bd (h 12 (by omega)) (h 13 (by omega)) (h 14 (by omega)) (h 15 (by omega)) (h 16 (by omega)) (h 17 (by omega)) (h 18 (by omega)) (h 19 (by omega))
theorem words_un {f : Nat → Int} (h : Byt f) : uc (hiW f) (miW f) (loW f) = uN (nm f) := by
  rw [nm_words]
  exact uN_of (miW_bd h).1 (miW_bd h).2 (loW_bd h).1 (loW_bd h).2
theorem num_un {f : Nat → Int} (hf : Byt f) (w : World) : Calls Ybaf.prog 16 #[.agg (ab f).toArray] w fun e w' => e = .returned (.agg (uN (nm f)).toArray) ∧ w.grownBy w' none := by
  have := num_any hf w
  rw [words_un hf] at this
  exact this
theorem minus_un {p q : Int} (hp : 0 ≤ p ∧ p < MM) (hq : 0 ≤ q ∧ q < MM) (w : World) : Calls Ybaf.prog 25 #[.agg (uN p).toArray, .agg (uN q).toArray] w fun e w' => e = .returned (.agg (uN ((p - q) % MM)).toArray) ∧ w.grownBy w' none := by
  have h := minus_any (h1 := p / 340282366920938463463374607431768211456) (m1 := p / 18446744073709551616 % 18446744073709551616) (l1 := p % 18446744073709551616) (h2 := q / 340282366920938463463374607431768211456) (m2 := q / 18446744073709551616 % 18446744073709551616) (l2 := q % 18446744073709551616) (by omega) (by omega) (by omega) (by omega) (by omega) (by omega) (by omega) (by omega) w
  rw [uN_of (h := hW _ _ _) (m := mW _ _ _) (l := lW _ _) (by unfold mW; omega) (by unfold mW; omega) (by unfold lW; omega) (by unfold lW; omega)] at h
  rw [minus_num (by omega) (by omega) (by omega) (by omega) (by omega) (by omega) (by omega) (by omega)] at h
  have e1 : p / 340282366920938463463374607431768211456 * 340282366920938463463374607431768211456 + p / 18446744073709551616 % 18446744073709551616 * 18446744073709551616 + p % 18446744073709551616 = p := by omega
  have e2 : q / 340282366920938463463374607431768211456 * 340282366920938463463374607431768211456 + q / 18446744073709551616 % 18446744073709551616 * 18446744073709551616 + q % 18446744073709551616 = q := by omega
  rw [e1, e2] at h
  exact h
theorem cmp_un {p q : Int} (w : World) : Calls Ybaf.prog 24 #[.agg (uN p).toArray, .agg (uN q).toArray] w fun e w' => e = .returned (.int .i64 (cmpI p q)) ∧ w.grownBy w' none := by
  have h := cmp24 (p / 340282366920938463463374607431768211456) (p / 18446744073709551616 % 18446744073709551616) (p % 18446744073709551616) (q / 340282366920938463463374607431768211456) (q / 18446744073709551616 % 18446744073709551616) (q % 18446744073709551616) w
  rw [cmp3_num (by omega) (by omega) (by omega) (by omega) (by omega) (by omega) (by omega) (by omega)] at h
  have e1 : p / 340282366920938463463374607431768211456 * 340282366920938463463374607431768211456 + p / 18446744073709551616 % 18446744073709551616 * 18446744073709551616 + p % 18446744073709551616 = p := by omega
  have e2 : q / 340282366920938463463374607431768211456 * 340282366920938463463374607431768211456 + q / 18446744073709551616 % 18446744073709551616 * 18446744073709551616 + q % 18446744073709551616 = q := by omega
  rw [e1, e2] at h
  exact h

/-- The top 64 bits. -/
def topN (n : Int) : Int := n / 79228162514264337593543950336
theorem exec_conv3932 {a : Act} {o : Oper} {w : World} (x : Operand) (ho : o.op = .convert 39 32 x) (z : Int) (hz : 0 ≤ z) (hz' : z < 4294967296) (hx : a.eval x = .int .u32 z) : (execOp a.eval o).run Ybaf.prog w = .ok (.value (.int .u64 z)) w := by
  have hc : (convert 39 32 (.int .u32 z)).run Ybaf.prog w = .ok (.int .u64 (IntKind.u64.wrap z)) w := by kernel_rfl
  have hw : IntKind.u64.wrap z = z := by simp [IntKind.wrap, IntKind.signed, IntKind.bits]; omega
  rw [hw] at hc
  unfold execOp
  simp only [ho, hx, Sem.run_bind, hc, Result.andThen_ok, Sem.run_pure]
theorem shr32 (x : Int) (w : World) : (binOp .shr 32 (.int .u64 x) (.int .u64 32)).run Ybaf.prog w = .ok (.int .u64 (x / 4294967296)) w := by
  simp [binOp, go_sem]
theorem shl32 (x : Int) (h : 0 ≤ x) (h2 : x < 4294967296) (w : World) : (binOp .shl 32 (.int .u64 x) (.int .u64 32)).run Ybaf.prog w = .ok (.int .u64 (x * 4294967296)) w := by
  simp [binOp, go_sem, IntKind.wrap, IntKind.signed, IntKind.bits]
  omega
theorem exec_shr32 {a : Act} {o : Oper} {w : World} (x : Operand) (ho : o.op = .binOp .shr 32 x (.const (.int .u64 32)) 49) (z : Int) (hx : a.eval x = .int .u64 z) : (execOp a.eval o).run Ybaf.prog w = .ok (.value (.int .u64 (z / 4294967296))) w := by
  have e : a.eval (.const (.int .u64 32)) = .int .u64 32 := rfl
  have hg : (eqGuard .shr 32 x (.const (.int .u64 32)) (.int .u64 z) (.int .u64 32)).run Ybaf.prog w = .ok () w := by simp [eqGuard]
  unfold execOp
  simp only [ho, hx, e, Sem.run_bind, hg, Result.andThen_ok, shr32 z w, Sem.run_pure]
theorem exec_shl32 {a : Act} {o : Oper} {w : World} (x : Operand) (ho : o.op = .binOp .shl 32 x (.const (.int .u64 32)) 49) (z : Int) (h : 0 ≤ z) (h2 : z < 4294967296) (hx : a.eval x = .int .u64 z) : (execOp a.eval o).run Ybaf.prog w = .ok (.value (.int .u64 (z * 4294967296))) w := by
  have e : a.eval (.const (.int .u64 32)) = .int .u64 32 := rfl
  have hg : (eqGuard .shl 32 x (.const (.int .u64 32)) (.int .u64 z) (.int .u64 32)).run Ybaf.prog w = .ok () w := by simp [eqGuard]
  unfold execOp
  simp only [ho, hx, e, Sem.run_bind, hg, Result.andThen_ok, shl32 z h h2 w, Sem.run_pure]
theorem bits_or32 (p q : Nat) (hp : p < 4294967296) (hq : q < 4294967296) : bits .or .u64 ((p : Int) * 4294967296) (q : Int) = (p : Int) * 4294967296 + (q : Int) := by
  have hx : BitVec.ofInt 64 ((p : Int) * 4294967296) = BitVec.ofNat 64 (2 ^ 32 * p) := by
    rw [← BitVec.ofInt_natCast]; congr 1; omega
  have hy : BitVec.ofInt 64 (q : Int) = BitVec.ofNat 64 q := BitVec.ofInt_natCast ..
  show IntKind.u64.wrap (((BitVec.ofInt 64 ((p : Int) * 4294967296)) ||| (BitVec.ofInt 64 (q : Int))).toNat : Int) = _
  rw [hx, hy, BitVec.toNat_or, BitVec.toNat_ofNat, BitVec.toNat_ofNat, Nat.mod_eq_of_lt (by omega), Nat.mod_eq_of_lt (by omega), ← Nat.two_pow_add_eq_or_of_lt (by omega)]
  simp [IntKind.wrap, IntKind.signed, IntKind.bits]
  omega
theorem or32 (x y : Int) (h : 0 ≤ x) (h2 : x < 4294967296) (hy : 0 ≤ y) (hy2 : y < 4294967296) (w : World) : (binOp .or 32 (.int .u64 (x * 4294967296)) (.int .u64 y)).run Ybaf.prog w = .ok (.int .u64 (x * 4294967296 + y)) w := by
  obtain ⟨p, rfl⟩ := Int.eq_ofNat_of_zero_le h
  obtain ⟨q, rfl⟩ := Int.eq_ofNat_of_zero_le hy
  simp [binOp, go_sem]
  exact bits_or32 p q (by omega) (by omega)
theorem exec_or32 {a : Act} {o : Oper} {w : World} (x y : Operand) (ho : o.op = .binOp .or 32 x y 32) (p q : Int) (h : 0 ≤ p) (h2 : p < 4294967296) (hy : 0 ≤ q) (hy2 : q < 4294967296) (hx : a.eval x = .int .u64 (p * 4294967296)) (hy' : a.eval y = .int .u64 q) : (execOp a.eval o).run Ybaf.prog w = .ok (.value (.int .u64 (p * 4294967296 + q))) w := by
  have hg : (eqGuard .or 32 x y (.int .u64 (p * 4294967296)) (.int .u64 q)).run Ybaf.prog w = .ok () w := by simp [eqGuard]
  unfold execOp
  simp only [ho, hx, hy', Sem.run_bind, hg, Result.andThen_ok, or32 p q h h2 hy hy2 w, Sem.run_pure]

set_option maxRecDepth 100000 in
theorem top_un {n : Int} (hn : 0 ≤ n ∧ n < MM) (w : World) : Calls Ybaf.prog 26 #[.agg (uN n).toArray] w fun e w' => e = .returned (.int .u64 (topN n)) ∧ w.grownBy w' none := by
  have x1 : (w.alloc (.cells (uN n).toArray 41)).heap[w.heap.size]? = some (.cells (uN n).toArray 41 (0, 0)) := heap_alloc_new w _
  have hg : w.grownBy (w.alloc (.cells (uN n).toArray 41)) none := World.grownBy_alloc _ _ none
  have ht : n / 340282366920938463463374607431768211456 * 4294967296 + n / 18446744073709551616 % 18446744073709551616 / 4294967296 = topN n := by unfold topN; omega
  have b1 : 0 ≤ n / 340282366920938463463374607431768211456 := by omega
  have b2 : n / 340282366920938463463374607431768211456 < 4294967296 := by have h2 : n < 1461501637330902918203684832716283019655932542976 := hn.2; omega
  have b3 : 0 ≤ n / 18446744073709551616 % 18446744073709551616 / 4294967296 := by omega
  have b4 : n / 18446744073709551616 % 18446744073709551616 / 4294967296 < 4294967296 := by omega
  go_enter Ybaf.func26, Ybaf.ntmps26
  go_wp2_with (first
    | (refine wpList_is (.box 41 (.tmp 0)) rfl ?_; refine wpList_box41 rfl (.tmp 0) rfl _ _ _ rfl ?_)
    | (refine wpList_is (.load 39 (.tmp 3)) rfl ?_; refine wpList_load_cell rfl 39 (.tmp 3) rfl w.heap.size 0 rfl _ _ x1 _ Ybaf.underlying39 rfl (.int .u32 (n / 340282366920938463463374607431768211456)) rfl ?_)
    | (refine wpList_is (.convert 39 32 (.tmp 4)) rfl ?_; refine wpList_exec rfl _ (exec_conv3932 (.tmp 4) rfl (n / 340282366920938463463374607431768211456) b1 b2 rfl) ?_)
    | (refine wpList_is (.binOp .shl 32 (.tmp 5) (.const (.int .u64 32)) 49) rfl ?_; refine wpList_exec rfl _ (exec_shl32 (.tmp 5) rfl (n / 340282366920938463463374607431768211456) b1 b2 rfl) ?_)
    | (refine wpList_is (.load 32 (.tmp 7)) rfl ?_; refine wpList_load_cell rfl 32 (.tmp 7) rfl w.heap.size 1 rfl _ _ x1 _ Ybaf.underlying32 rfl (.int .u64 (n / 18446744073709551616 % 18446744073709551616)) rfl ?_)
    | (refine wpList_is (.binOp .shr 32 (.tmp 8) (.const (.int .u64 32)) 49) rfl ?_; refine wpList_exec rfl _ (exec_shr32 (.tmp 8) rfl (n / 18446744073709551616 % 18446744073709551616) rfl) ?_)
    | (refine wpList_is (.binOp .or 32 (.tmp 6) (.tmp 9) 32) rfl ?_; refine wpList_exec rfl (.int .u64 (topN n)) (by rw [← ht]; exact exec_or32 (.tmp 6) (.tmp 9) rfl (n / 340282366920938463463374607431768211456) (n / 18446744073709551616 % 18446744073709551616 / 4294967296) b1 b2 b3 b4 rfl rfl) ?_))
  refine bodyPost_ret (by kernel_rfl) rfl ⟨rfl, hg⟩

end Go.Proofs.YbulkdspqFmt
