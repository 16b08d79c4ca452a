/-
  THE WALKS of sync.Mutex's Lock (23), Unlock (18), TryLock (17): one goroutine, the lock free.
-/
import Derived.Test.YbulkdspqProg
import Derived.WalkKit
import Derived.WalkSpells
import Derived.Below
namespace Go.Proofs.Ybulkdspq
open Go.RowKit
set_option linter.unusedSimpArgs false
set_option linter.unusedVariables false

section
theorem disable_run (w : World) : (callFunc 30 #[]).run Yba.prog w = .ok (.value (.tuple #[])) w := run_call_mark0 (P := Yba.prog) Yba.func30 (by kernel_rfl) (by kernel_rfl) (by kernel_rfl) .disable (by kernel_rfl) w
theorem enable_run (w : World) : (callFunc 31 #[]).run Yba.prog w = .ok (.value (.tuple #[])) w := run_call_mark0 (P := Yba.prog) Yba.func31 (by kernel_rfl) (by kernel_rfl) (by kernel_rfl) .enable (by kernel_rfl) w
theorem acquire_run (a : Addr) (w : World) : (callFunc 33 #[.pointer (some a)]).run Yba.prog w = .ok (.value (.tuple #[])) w := run_call_marked (P := Yba.prog) Yba.func33 (by kernel_rfl) (by kernel_rfl) (by kernel_rfl) .acquire (by kernel_rfl) a w
theorem release_run (a : Addr) (w : World) : (callFunc 34 #[.pointer (some a)]).run Yba.prog w = .ok (.value (.tuple #[])) w := run_call_marked (P := Yba.prog) Yba.func34 (by kernel_rfl) (by kernel_rfl) (by kernel_rfl) .releaseMerge (by kernel_rfl) a w
end

set_option maxRecDepth 100000 in
theorem lock_any (b off : Nat) (w : World) (h : w.cell? ⟨b, off, none⟩ = some (.int .i32 0)) (hf : w.frozen? ⟨b, off, none⟩ = false) :
    Calls Yba.prog 23 #[.pointer (some ⟨b, off, none⟩)] w fun e w' => e = .returned (.tuple #[]) ∧ w' = w.setCell ⟨b, off, none⟩ (.int .i32 1) := by
  have hd := disable_run
  have he := enable_run
  have ha := acquire_run
  have hcas := run_call_cas_hit (P := Yba.prog) Yba.func32 (by kernel_rfl) (by kernel_rfl) (by kernel_rfl) .i32 (by kernel_rfl) (y := 1) h hf
  have h1 : (w.setCell ⟨b, off, none⟩ (.int .i32 1)).cell? ⟨b, off, none⟩ = some (.int .i32 1) := World.cell?_setCell_same _ _ _ h
  have hcv := run_convert_to_unsafe (P := Yba.prog) (src := 101) (dst := 105) Yba.underlying101 Yba.underlying105 (by kernel_rfl) h1
  go_enter Yba.func23, Yba.ntmps23
  go_wp2
  first | go_end0 | (simp only [Exit.inBlock, Exit.then]; refine bodyPost_ret (results_none rfl _ _ _) rfl ?_) | refine bodyPost_ret (results_none rfl _ _ _) rfl ?_
  go_wp2
  go_end0
  exact ⟨rfl, rfl⟩

set_option maxRecDepth 100000 in
theorem unlock_any (b off : Nat) (w : World) (h : w.cell? ⟨b, off, none⟩ = some (.int .i32 1)) (hf : w.frozen? ⟨b, off, none⟩ = false) :
    Calls Yba.prog 18 #[.pointer (some ⟨b, off, none⟩)] w fun e w' => e = .returned (.tuple #[]) ∧ w' = w.setCell ⟨b, off, none⟩ (.int .i32 0) := by
  have hd := disable_run
  have he := enable_run
  have ha := release_run
  have hadd := run_call_add (P := Yba.prog) Yba.func35 (by kernel_rfl) (by kernel_rfl) (by kernel_rfl) .i32 (by kernel_rfl) (y := -1) (s := 0) h hf (by simp [go_sem, wrap32, IntKind.wrap_i32])
  have hcv := run_convert_to_unsafe (P := Yba.prog) (src := 101) (dst := 105) Yba.underlying101 Yba.underlying105 (by kernel_rfl) h
  go_enter Yba.func18, Yba.ntmps18
  go_wp2
  go_end0
  go_wp2
  go_end0
  exact ⟨rfl, rfl⟩

set_option maxRecDepth 100000 in
theorem trylock_any (b off : Nat) (w : World) (h : w.cell? ⟨b, off, none⟩ = some (.int .i32 0)) (hf : w.frozen? ⟨b, off, none⟩ = false) :
    Calls Yba.prog 17 #[.pointer (some ⟨b, off, none⟩)] w fun e w' => e = .returned (.bool true) ∧ w' = w.setCell ⟨b, off, none⟩ (.int .i32 1) := by
  have hd := disable_run
  have he := enable_run
  have ha := acquire_run
  have hcas := run_call_cas_hit (P := Yba.prog) Yba.func32 (by kernel_rfl) (by kernel_rfl) (by kernel_rfl) .i32 (by kernel_rfl) (y := 1) h hf
  have h1 : (w.setCell ⟨b, off, none⟩ (.int .i32 1)).cell? ⟨b, off, none⟩ = some (.int .i32 1) := World.cell?_setCell_same _ _ _ h
  have hcv := run_convert_to_unsafe (P := Yba.prog) (src := 101) (dst := 105) Yba.underlying101 Yba.underlying105 (by kernel_rfl) h1
  go_enter Yba.func17, Yba.ntmps17
  go_wp2
  go_ret
  exact ⟨rfl, rfl⟩

end Go.Proofs.Ybulkdspq
