import Derived.Test.YbulkdsooAHelp
namespace Go.Proofs.Ybulkdsoo
open Go.RowKit
set_option linter.unusedSimpArgs false
set_option linter.unusedVariables false

set_option maxHeartbeats 800000 in
set_option maxRecDepth 100000 in
theorem swap_any (b m i : Nat) (p : Nat → Option Addr) (md sh : Nat → Int) (w : World) (hr : W3 w b m p md sh) (hi : i < m) (hm : m ≤ 65536) :
    Calls Yba.prog 9 #[.slice (some ⟨b, 0, none⟩) m m, .int .i64 i] w fun e w' => e = .returned (.slice (some ⟨b, 0, none⟩) (m - 1) m) ∧
      W3 w' b m (up (up p i (p (m - 1))) (m - 1) none) (up (up md i (md (m - 1))) (m - 1) 0) (up (up sh i (sh (m - 1))) (m - 1) 0) ∧ w.grownBy w' (some b) := by
  have him : (i : Int) < m := by omega
  have a0 := hr.c0 (t := m - 1) (by omega)
  have a1 := hr.c1 (t := m - 1) (by omega)
  have a2 := hr.c2 (t := m - 1) (by omega)
  have b0 := hr.c0 hi
  have b1 := hr.c1 hi
  have b2 := hr.c2 hi
  have fr := hr.fr
  have n4 : ¬ m = m - 1 := by omega
  obtain ⟨w2, hrun, hr2, hg2⟩ := run_clear_one 0 b m (m - 1) (m - (m - 1)) _ _ _ (hr.store i (p (m - 1)) (md (m - 1)) (sh (m - 1))) (by omega) (m - (m - 1)) (by omega)
  go_enter Yba.func9, Yba.ntmps9
  go_wp2
  go_ret
  refine ⟨rfl, hr2, ?_⟩
  exact grownBy_trans (grownBy_trans (grownBy_trans (grownBy_setCell _ _ _ _) (grownBy_setCell _ _ _ _)) (grownBy_setCell _ _ _ _)) hg2

end Go.Proofs.Ybulkdsoo
