/-
  THE WALK of (*crowd).stopWaiting (5).
-/
import Derived.Test.YbulkdsooASwap
namespace Go.Proofs.Ybulkdsoo
open Go.RowKit
set_option linter.unusedSimpArgs false
set_option linter.unusedVariables false

theorem grownBy_frozen {w w' : World} {row : Option Nat} (hg : w.grownBy w' row) {a : Addr} (hlt : a.block < w.heap.size) (hne : some a.block ≠ row) : w'.frozen? a = w.frozen? a :=
  World.frozen?_of_block (hg.block a.block hlt hne)

/-- i is the last place. -/
theorem stop_last (bc b m : Nat) (p : Nat → Option Addr) (md sh : Nat → Int) (w : World) (hr : W3 w b m p md sh) (hm0 : 0 < m) (hm : m ≤ 65536)
    (hc : w.cell? ⟨bc, 3, none⟩ = some (.slice (some ⟨b, 0, none⟩) m m)) (hcf : w.frozen? ⟨bc, 3, none⟩ = false) (hbc : bc ≠ b) :
    Calls Yba.prog 5 #[.pointer (some ⟨bc, 0, none⟩), .int .i32 ((m : Int) - 1)] w fun e w' => e = .returned (.tuple #[]) ∧
      ∃ w1, W3 w1 b m (up (up p (m - 1) (p (m - 1))) (m - 1) none) (up (up md (m - 1) (md (m - 1))) (m - 1) 0) (up (up sh (m - 1) (sh (m - 1))) (m - 1) 0) ∧ w.grownBy w1 (some b) ∧
        w' = w1.setCell ⟨bc, 3, none⟩ (.slice (some ⟨b, 0, none⟩) (m - 1) m) := by
  have hlt : bc < w.heap.size := World.block_lt_of_cell? _ _ hc
  have ei : ((m : Int) - 1) = ((m - 1 : Nat) : Int) := by omega
  rw [ei]
  go_enter Yba.func5, Yba.ntmps5
  go_wp2_with fail
  refine (swap_any b m (m - 1) p md sh _ hr (by omega) hm).mono ?_
  rintro e w1 ⟨rfl, hr1, hg1⟩
  have hc1 := hg1.cell hc (by simpa using hbc)
  have hf1 := (grownBy_frozen hg1 (a := ⟨bc, 3, none⟩) hlt (by simpa using hbc)).trans hcf
  have HR : Hid (W3 w1 b m (up (up p (m - 1) (p (m - 1))) (m - 1) none) (up (up md (m - 1) (md (m - 1))) (m - 1) 0) (up (up sh (m - 1) (sh (m - 1))) (m - 1) 0) ∧ w.grownBy w1 (some b)) := ⟨hr1, hg1⟩
  clear hr1 hg1
  go_wp2
  go_end0
  exact ⟨rfl, w1, HR.out.1, HR.out.2, rfl⟩

/-- Another lock takes place i. -/
theorem stop_mid (bc b m i : Nat) (p : Nat → Option Addr) (md sh : Nat → Int) (w : World) (hr : W3 w b m p md sh) (hi : i < m - 1) (hm : m ≤ 65536)
    (hc : w.cell? ⟨bc, 3, none⟩ = some (.slice (some ⟨b, 0, none⟩) m m)) (hcf : w.frozen? ⟨bc, 3, none⟩ = false) (hbc : bc ≠ b)
    (bs g r n cap : Nat) (hp : p (m - 1) = some ⟨bs, 0, none⟩) (hs : sh (m - 1) = r) (hsc : w.cell? ⟨bs, 6, none⟩ = some (.slice (some ⟨g, 0, none⟩) n cap)) (hrn : r < n) (hn : n ≤ 65536)
    (x : Int) (hg : w.cell? ⟨g, r * 4 + 3, none⟩ = some (.int .i32 x)) (hgf : w.frozen? ⟨g, r * 4 + 3, none⟩ = false) (n1 : bs ≠ b) (n2 : bs ≠ bc) (n3 : g ≠ b) (n4 : g ≠ bc) :
    Calls Yba.prog 5 #[.pointer (some ⟨bc, 0, none⟩), .int .i32 i] w fun e w' => e = .returned (.tuple #[]) ∧
      ∃ w1 o, W3 w1 b m (up (up p i (p (m - 1))) (m - 1) none) (up (up md i (md (m - 1))) (m - 1) 0) (up (up sh i (sh (m - 1))) (m - 1) 0) ∧ w.grownBy w1 (some b) ∧
        w' = (((w1.setCell ⟨bc, 3, none⟩ (.slice (some ⟨b, 0, none⟩) (m - 1) m)).setCell ⟨g, r * 4 + 3, none⟩ (.int .i32 i)).alloc o).drew := by
  have hlt : bc < w.heap.size := World.block_lt_of_cell? _ _ hc
  have hltg : g < w.heap.size := World.block_lt_of_cell? _ _ hg
  have hlts : bs < w.heap.size := World.block_lt_of_cell? _ _ hsc
  have hi' : (i : Int) < (m : Int) - 1 := by omega
  go_enter Yba.func5, Yba.ntmps5
  go_wp2_with fail
  refine (swap_any b m i p md sh _ hr (by omega) hm).mono ?_
  rintro e w1 ⟨rfl, hr1, hg1⟩
  have hc1 := hg1.cell hc (by simpa using hbc)
  have hf1 := (grownBy_frozen hg1 (a := ⟨bc, 3, none⟩) hlt (by simpa using hbc)).trans hcf
  have hsc1 := hg1.cell hsc (by simpa using n1)
  have hg1c := hg1.cell hg (by simpa using n3)
  have hgf1 := (grownBy_frozen hg1 (a := ⟨g, r * 4 + 3, none⟩) hltg (by simpa using n3)).trans hgf
  have k0 := hr1.c0 (t := i) (by omega)
  have k1 := hr1.c1 (t := i) (by omega)
  have k2 := hr1.c2 (t := i) (by omega)
  rw [up_other _ _ _ _ (by omega), up_same] at k0 k1 k2
  rw [hp] at k0
  rw [hs] at k2
  have HR : Hid (W3 w1 b m (up (up p i (p (m - 1))) (m - 1) none) (up (up md i (md (m - 1))) (m - 1) 0) (up (up sh i (sh (m - 1))) (m - 1) 0) ∧ w.grownBy w1 (some b)) := ⟨hr1, hg1⟩
  have hz1 : w.heap.size ≤ w1.heap.size := hg1.size
  clear hr1 hg1 hr hc hcf hsc hg hgf hp hs
  have l1 : bc < w1.heap.size := by omega
  have l2 : g < w1.heap.size := by omega
  have l3 : bs < w1.heap.size := by omega
  have hrn' : (r : Int) < (n : Int) := by omega
  go_wp2
  go_region
  all_goals
    go_end0
    exact ⟨rfl, w1, _, HR.out.1, HR.out.2, rfl⟩

end Go.Proofs.Ybulkdsoo
