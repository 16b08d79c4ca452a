/-
  THE WALKS of the three callees of LawS5968CWhole: zzs5968ccopy (6), includes (7), zzs5968ceq (8).
-/
import Derived.Test.YbulkdsooProg
import Derived.WalkKit
import Derived.WalkSpells
import Derived.Below
import Derived.BigQuiet
import Derived.Deep.QuietTactic
import Derived.Deep.LoopGhost
import Derived.Deep.OwnRows
namespace Go.Proofs.Ybulkdsoo
open Go.RowKit

theorem Yba.info51 : (Yba.prog.info? 51).map (fun i => (i.zero, i.size, i.bytes)) = some (some (.int .u64 0), 1, 8) := by kernel_rfl

/-- What a slice of uint64 reads as: its first n elements are f 0, f 1, .. -/
def Rd (w : World) (a : Option Addr) (n : Nat) (f : Nat → Int) : Prop :=
  ∀ i, i < n → ∃ b off, a = some ⟨b, off, none⟩ ∧ w.cell? ⟨b, off + i, none⟩ = some (.int .u64 (f i))

theorem Rd.later {w w' : World} {a : Option Addr} {n : Nat} {f : Nat → Int} (h : Rd w a n f) (hb : Below w.heap.size w w') : Rd w' a n f := by
  intro i hi
  obtain ⟨b, off, ha, hc⟩ := h i hi
  exact ⟨b, off, ha, cell_later hb hc⟩

theorem Rd.drewN {w : World} {a : Option Addr} {n : Nat} {f : Nat → Int} (h : Rd w a n f) (k : Nat) : Rd (w.drewN k) a n f := by
  intro i hi
  obtain ⟨b, off, ha, hc⟩ := h i hi
  exact ⟨b, off, ha, by simpa using hc⟩

/-- What zzs5968ccopy leaves: a slice of the same length and content, nil where the argument is. -/
def Copied (w : World) (a : Option Addr) (n : Nat) (f : Nat → Int) (e : Ending) (w' : World) : Prop :=
  ∃ ra rc, e = .returned (.slice ra n rc) ∧ Rd w' ra n f ∧ ra.isNone = a.isNone ∧ Below w.heap.size w w'

set_option maxHeartbeats 800000 in
theorem copy_any (a : Option Addr) (n c : Nat) (f : Nat → Int) (w : World) (hr : Rd w a n f) (hn : n ≤ 1048576) (hnil : a = none → n = 0) :
    Calls Yba.prog 6 #[.slice a n c] w fun e w' => Copied w a n f e w' := by
  have q49 := fun (w : World) (a : Option Addr) (n c n' c' : Nat) => Lib.run_eql_slice_nil (P := Yba.prog) w 49 51 a n c n' c' Yba.underlying49
  have hmk := run_make_row' (P := Yba.prog) 49 51 (.int .u64 0) 8 Yba.underlying49 Yba.info51 rfl .i64 .i64 n (by omega) (by omega)
  cases a with
  | none =>
    obtain rfl := hnil rfl
    go_enter Yba.func6, Yba.ntmps6
    go_wp2
    go_ret
    exact ⟨none, 0, rfl, fun i hi => absurd hi (by omega), rfl, Below.refl _ _⟩
  | some x =>
    clear hnil
    go_enter Yba.func6, Yba.ntmps6
    go_wp2
    go_loopg [4] n (fun k i wr => ∃ j : Nat, j + k = n ∧ i = .int .i64 j ∧ wr.rowIs w.heap.size 51 n (fun t => .int .u64 (if t < j then f t else 0)) ∧ Below w.heap.size w wr)
    case atStart => exact ⟨0, by omega, rfl, (World.rowIs_made w _ n 51).congr (fun j _ => by simp), (Below.refl _ _).alloc (Nat.le_refl _) _⟩
    case round =>
      obtain ⟨j, hj, rfl, hrow, hb⟩ := hrel
      by_cases hlt : j < n
      · obtain ⟨b, off, hx, hc⟩ := hr j hlt
        cases hx
        have hc' := cell_later hb hc
        have hf := hrow.frozen j
        have hcj := hrow.cell hlt
        have HR : Hid (wr.rowIs w.heap.size 51 n (fun t => .int .u64 (if t < j then f t else 0)) ∧ Below w.heap.size w wr) := ⟨hrow, hb⟩
        clear hrow hb hmk q49 hr
        go_wp2
        obtain ⟨hrow, hb⟩ := HR.out
        go_roundg (n - (j + 1))
        case measure => omega
        case rel => exact ⟨j + 1, by omega, by go_num, (hrow.set j _).congr (fun t _ => by by_cases e : t = j <;> simp [e] <;> (by_cases h2 : t < j <;> simp [h2] <;> omega)), hb.setCell (Nat.le_refl _) _⟩
      · have hjn : j = n := by omega
        subst hjn
        clear hmk q49 hr
        go_wp2
        go_ret
        refine ⟨_, _, rfl, ?_, rfl, hb⟩
        intro i hi
        exact ⟨w.heap.size, 0, rfl, by have := hrow.cell hi; simpa [hi] using this⟩

/-- Two slices of one content are found equal. -/
theorem eq_any (a b : Option Addr) (n ca cb : Nat) (f : Nat → Int) (w : World) (ha : Rd w a n f) (hb : Rd w b n f) (hn : n ≤ 1048576) (hnil : b.isNone = a.isNone) :
    Calls Yba.prog 8 #[.slice a n ca, .slice b n cb] w fun e w' => e = .returned (.bool true) ∧ ∃ k, w' = w.drewN k := by
  have q49 := fun (w : World) (a : Option Addr) (n c n' c' : Nat) => Lib.run_eql_slice_nil (P := Yba.prog) w 49 51 a n c n' c' Yba.underlying49
  go_enter Yba.func8, Yba.ntmps8
  go_wp2
  go_loopg [5] n (fun k i wr => ∃ j : Nat, j + k = n ∧ i = .int .i64 j ∧ ∃ q, wr = w.drewN q)
  case atStart => exact ⟨0, by omega, rfl, 0, rfl⟩
  case round =>
    obtain ⟨j, hj, rfl, q, rfl⟩ := hrel
    by_cases hlt : j < n
    · obtain ⟨b1, off1, rfl, hc1⟩ := ha j hlt
      obtain ⟨b2, off2, rfl, hc2⟩ := hb j hlt
      clear hnil q49
      go_wp2
      go_quiet (fail)
      go_wp2
      go_roundg (n - (j + 1))
      case measure => omega
      case rel => exact ⟨j + 1, by omega, by go_num, _, rfl⟩
    · go_wp2
      go_ret
      exact ⟨rfl, q, rfl⟩

theorem ret_bool {a b : Bool} (h : a = b) : Ending.returned (.bool a) = .returned (.bool b) := by rw [h]

/-- What 'includes' answers. -/
def incl (f g : Nat → Int) (n : Nat) : Bool := (List.range n).all fun i => bits .andNot .u64 (g i) (f i) == 0

theorem incl_succ (f g : Nat → Int) (n : Nat) : incl f g (n + 1) = (incl f g n && bits .andNot .u64 (g n) (f n) == 0) := by
  simp [incl, List.range_succ]

theorem incl_false (f g : Nat → Int) (n j : Nat) (hj : j < n) (h : (bits .andNot .u64 (g j) (f j) == 0) = false) : incl f g n = false := by
  simp only [incl, List.all_eq_false, List.mem_range]
  exact ⟨j, hj, by simp [h]⟩

theorem inc_any (a b : Option Addr) (n m ca cb : Nat) (f g : Nat → Int) (w : World) (ha : Rd w a n f) (hb : Rd w b m g) (hn : n ≤ 1048576) (hm : n ≤ m) :
    Calls Yba.prog 7 #[.slice a n ca, .slice b m cb] w fun e w' => e = .returned (.bool (incl f g n)) ∧ ∃ k, w' = w.drewN k := by
  go_enter Yba.func7, Yba.ntmps7
  go_wp2
  go_loopg [8] n (fun k i wr => ∃ j : Nat, j + k = n ∧ i = .int .i64 j ∧ incl f g j = true ∧ ∃ q, wr = w.drewN q)
  case atStart => exact ⟨0, by omega, rfl, rfl, 0, rfl⟩
  case round =>
    obtain ⟨j, hj, rfl, hinc, q, rfl⟩ := hrel
    by_cases hlt : j < n
    · obtain ⟨b1, off1, rfl, hc1⟩ := ha j hlt
      obtain ⟨b2, off2, rfl, hc2⟩ := hb j (by omega)
      have hjm : (j : Int) < (m : Int) := by omega
      go_wp2
      go_quiet (fail)
      go_wp2
      · have hne : (bits .andNot .u64 (g j) (f j) != 0) = true := by assumption
        go_ret
        exact ⟨ret_bool (incl_false f g n j hlt (by simpa using hne)).symm, q + nq, by simp⟩
      · have hne : (bits .andNot .u64 (g j) (f j) != 0) = false := by assumption
        go_roundg (n - (j + 1))
        case measure => omega
        case rel => exact ⟨j + 1, by omega, by go_num, by rw [incl_succ, hinc]; simpa using hne, _, rfl⟩
    · have hjn : j = n := by omega
      subst hjn
      have HI : Hid (incl f g j = true) := hinc
      clear hinc
      go_wp2
      go_ret
      exact ⟨ret_bool HI.out.symm, q, rfl⟩

end Go.Proofs.Ybulkdsoo
