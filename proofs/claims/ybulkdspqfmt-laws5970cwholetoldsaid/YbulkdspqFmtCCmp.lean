/-
  LawS5970CWhole: comparing words and numbers of three words (30, 31, 24).
-/
import Derived.Test.YbulkdspqFmtCMinus
namespace Go.Proofs.YbulkdspqFmt
open Go.RowKit
set_option linter.unusedSimpArgs false
set_option linter.unusedVariables false

/-- -1, 0 or 1. -/
def cmpI (x y : Int) : Int := if x < y then -1 else if y < x then 1 else 0
theorem nan33 (x : Int) (w : World) : Calls Ybaf.prog 33 #[.int .u32 x] w fun e w' => e = .returned (.bool false) ∧ w = w' := by
  go_enter Ybaf.func33, Ybaf.ntmps33
  go_wp2_with fail
  go_ret
  simp
theorem nan34 (x : Int) (w : World) : Calls Ybaf.prog 34 #[.int .u64 x] w fun e w' => e = .returned (.bool false) ∧ w = w' := by
  go_enter Ybaf.func34, Ybaf.ntmps34
  go_wp2_with fail
  go_ret
  simp
theorem cmp30 (x y : Int) (w : World) : Calls Ybaf.prog 30 #[.int .u32 x, .int .u32 y] w fun e w' => e = .returned (.int .i64 (cmpI x y)) ∧ w = w' := by
  by_cases h1 : x < y
  · have e : cmpI x y = -1 := if_pos h1
    rw [e]
    clear e
    go_enter Ybaf.func30, Ybaf.ntmps30
    go_wp2_with fail
    refine (nan33 x _).mono ?_
    rintro e w1 ⟨rfl, rfl⟩
    go_wp2_with fail
    refine (nan33 y _).mono ?_
    rintro e w2 ⟨rfl, rfl⟩
    go_wp2_with fail
    go_ret
    exact ⟨rfl, rfl⟩
  · by_cases h2 : y < x
    · have e : cmpI x y = 1 := by unfold cmpI; rw [if_neg h1, if_pos h2]
      rw [e]
      clear e
      go_enter Ybaf.func30, Ybaf.ntmps30
      go_wp2_with fail
      refine (nan33 x _).mono ?_
      rintro e w1 ⟨rfl, rfl⟩
      go_wp2_with fail
      refine (nan33 y _).mono ?_
      rintro e w2 ⟨rfl, rfl⟩
      go_wp2_with fail
      go_ret
      exact ⟨rfl, rfl⟩
    · have e : cmpI x y = 0 := by unfold cmpI; rw [if_neg h1, if_neg h2]
      rw [e]
      clear e
      go_enter Ybaf.func30, Ybaf.ntmps30
      go_wp2_with fail
      refine (nan33 x _).mono ?_
      rintro e w1 ⟨rfl, rfl⟩
      go_wp2_with fail
      refine (nan33 y _).mono ?_
      rintro e w2 ⟨rfl, rfl⟩
      go_wp2_with fail
      go_ret
      exact ⟨rfl, rfl⟩
theorem cmp31 (x y : Int) (w : World) : Calls Ybaf.prog 31 #[.int .u64 x, .int .u64 y] w fun e w' => e = .returned (.int .i64 (cmpI x y)) ∧ w = w' := by
  by_cases h1 : x < y
  · have e : cmpI x y = -1 := if_pos h1
    rw [e]
    clear e
    go_enter Ybaf.func31, Ybaf.ntmps31
    go_wp2_with fail
    refine (nan34 x _).mono ?_
    rintro e w1 ⟨rfl, rfl⟩
    go_wp2_with fail
    refine (nan34 y _).mono ?_
    rintro e w2 ⟨rfl, rfl⟩
    go_wp2_with fail
    go_ret
    exact ⟨rfl, rfl⟩
  · by_cases h2 : y < x
    · have e : cmpI x y = 1 := by unfold cmpI; rw [if_neg h1, if_pos h2]
      rw [e]
      clear e
      go_enter Ybaf.func31, Ybaf.ntmps31
      go_wp2_with fail
      refine (nan34 x _).mono ?_
      rintro e w1 ⟨rfl, rfl⟩
      go_wp2_with fail
      refine (nan34 y _).mono ?_
      rintro e w2 ⟨rfl, rfl⟩
      go_wp2_with fail
      go_ret
      exact ⟨rfl, rfl⟩
    · have e : cmpI x y = 0 := by unfold cmpI; rw [if_neg h1, if_neg h2]
      rw [e]
      clear e
      go_enter Ybaf.func31, Ybaf.ntmps31
      go_wp2_with fail
      refine (nan34 x _).mono ?_
      rintro e w1 ⟨rfl, rfl⟩
      go_wp2_with fail
      refine (nan34 y _).mono ?_
      rintro e w2 ⟨rfl, rfl⟩
      go_wp2_with fail
      go_ret
      exact ⟨rfl, rfl⟩

theorem cmpI_lt {x y : Int} (h : x < y) : cmpI x y = -1 := if_pos h
theorem cmpI_gt {x y : Int} (h : y < x) : cmpI x y = 1 := by unfold cmpI; rw [if_neg (by omega), if_pos h]
theorem cmpI_eq {x y : Int} (h : x = y) : cmpI x y = 0 := by unfold cmpI; rw [if_neg (by omega), if_neg (by omega)]
/-- Three words compared. -/
def cmp3 (h1 m1 l1 h2 m2 l2 : Int) : Int := if h1 = h2 then (if m1 = m2 then cmpI l1 l2 else cmpI m1 m2) else cmpI h1 h2
theorem cmp3_num {h1 m1 l1 h2 m2 l2 : Int} (bm1 : 0 ≤ m1) (bm1' : m1 < 18446744073709551616) (bl1 : 0 ≤ l1) (bl1' : l1 < 18446744073709551616) (bm2 : 0 ≤ m2) (bm2' : m2 < 18446744073709551616) (bl2 : 0 ≤ l2) (bl2' : l2 < 18446744073709551616) :
    cmp3 h1 m1 l1 h2 m2 l2 = cmpI (h1 * 340282366920938463463374607431768211456 + m1 * 18446744073709551616 + l1) (h2 * 340282366920938463463374607431768211456 + m2 * 18446744073709551616 + l2) := by
  unfold cmp3
  by_cases e1 : h1 = h2
  · subst e1
    rw [if_pos rfl]
    by_cases e2 : m1 = m2
    · subst e2
      rw [if_pos rfl]
      rcases Int.lt_trichotomy l1 l2 with a | a | a
      · rw [cmpI_lt a, cmpI_lt (by omega)]
      · rw [cmpI_eq a, cmpI_eq (by omega)]
      · rw [cmpI_gt a, cmpI_gt (by omega)]
    · rw [if_neg e2]
      rcases Int.lt_trichotomy m1 m2 with a | a | a
      · rw [cmpI_lt a, cmpI_lt (by omega)]
      · exact absurd a e2
      · rw [cmpI_gt a, cmpI_gt (by omega)]
  · rw [if_neg e1]
    rcases Int.lt_trichotomy h1 h2 with a | a | a
    · rw [cmpI_lt a, cmpI_lt (by omega)]
    · exact absurd a e1
    · rw [cmpI_gt a, cmpI_gt (by omega)]

set_option maxRecDepth 100000 in
set_option maxHeartbeats 2000000 in
theorem cmp24 (h1 m1 l1 h2 m2 l2 : Int) (w : World) : Calls Ybaf.prog 24 #[.agg (uc h1 m1 l1).toArray, .agg (uc h2 m2 l2).toArray] w fun e w' => e = .returned (.int .i64 (cmp3 h1 m1 l1 h2 m2 l2)) ∧ w.grownBy w' none := by
  have key : ∀ (r : Int), r = cmp3 h1 m1 l1 h2 m2 l2 → Calls Ybaf.prog 24 #[.agg (uc h1 m1 l1).toArray, .agg (uc h2 m2 l2).toArray] w (fun e w' => e = .returned (.int .i64 r) ∧ w.grownBy w' none) → Calls Ybaf.prog 24 #[.agg (uc h1 m1 l1).toArray, .agg (uc h2 m2 l2).toArray] w fun e w' => e = .returned (.int .i64 (cmp3 h1 m1 l1 h2 m2 l2)) ∧ w.grownBy w' none := fun r e h => by rw [← e]; exact h
  have x1 : ((w.alloc (.cells (uc h1 m1 l1).toArray 41)).alloc (.cells (uc h2 m2 l2).toArray 41)).heap[w.heap.size]? = some (.cells (uc h1 m1 l1).toArray 41 (0, 0)) := blk_alloc (heap_alloc_new w _) _
  have x2 : ((w.alloc (.cells (uc h1 m1 l1).toArray 41)).alloc (.cells (uc h2 m2 l2).toArray 41)).heap[w.heap.size + 1]? = some (.cells (uc h2 m2 l2).toArray 41 (0, 0)) := blk_new _ _ _ _ (by simp)
  have hg : w.grownBy ((w.alloc (.cells (uc h1 m1 l1).toArray 41)).alloc (.cells (uc h2 m2 l2).toArray 41)) none := grown_trans (World.grownBy_alloc _ _ none) (World.grownBy_alloc _ _ none)
  by_cases e1 : h1 = h2
  · by_cases e2 : m1 = m2
    · refine key (cmpI l1 l2) (by unfold cmp3; rw [if_pos e1, if_pos e2]) ?_
      clear key
      subst e1
      subst e2
      go_enter Ybaf.func24, Ybaf.ntmps24
      go_wp2_with (first
      | (refine wpList_is (.box 41 (.tmp 0)) rfl ?_; refine wpList_box41 rfl (.tmp 0) rfl h1 m1 l1 rfl ?_)
      | (refine wpList_is (.box 41 (.tmp 1)) rfl ?_; refine wpList_box41 rfl (.tmp 1) rfl h1 m1 l2 rfl ?_)
      | (refine wpList_is (.load 39 (.tmp 6)) rfl ?_; refine wpList_load_cell rfl 39 (.tmp 6) rfl w.heap.size 0 rfl _ _ x1 _ Ybaf.underlying39 rfl (.int .u32 h1) rfl ?_)
      | (refine wpList_is (.load 39 (.tmp 8)) rfl ?_; refine wpList_load_cell rfl 39 (.tmp 8) rfl (w.heap.size + 1) 0 rfl _ _ x2 _ Ybaf.underlying39 rfl (.int .u32 h1) rfl ?_)
      | (refine wpList_is (.load 39 (.tmp 11)) rfl ?_; refine wpList_load_cell rfl 39 (.tmp 11) rfl w.heap.size 0 rfl _ _ x1 _ Ybaf.underlying39 rfl (.int .u32 h1) rfl ?_)
      | (refine wpList_is (.load 39 (.tmp 13)) rfl ?_; refine wpList_load_cell rfl 39 (.tmp 13) rfl (w.heap.size + 1) 0 rfl _ _ x2 _ Ybaf.underlying39 rfl (.int .u32 h1) rfl ?_)
      | (refine wpList_is (.load 32 (.tmp 17)) rfl ?_; refine wpList_load_cell rfl 32 (.tmp 17) rfl w.heap.size 1 rfl _ _ x1 _ Ybaf.underlying32 rfl (.int .u64 m1) rfl ?_)
      | (refine wpList_is (.load 32 (.tmp 19)) rfl ?_; refine wpList_load_cell rfl 32 (.tmp 19) rfl (w.heap.size + 1) 1 rfl _ _ x2 _ Ybaf.underlying32 rfl (.int .u64 m1) rfl ?_)
      | (refine wpList_is (.load 32 (.tmp 22)) rfl ?_; refine wpList_load_cell rfl 32 (.tmp 22) rfl w.heap.size 1 rfl _ _ x1 _ Ybaf.underlying32 rfl (.int .u64 m1) rfl ?_)
      | (refine wpList_is (.load 32 (.tmp 24)) rfl ?_; refine wpList_load_cell rfl 32 (.tmp 24) rfl (w.heap.size + 1) 1 rfl _ _ x2 _ Ybaf.underlying32 rfl (.int .u64 m1) rfl ?_)
      | (refine wpList_is (.load 32 (.tmp 27)) rfl ?_; refine wpList_load_cell rfl 32 (.tmp 27) rfl w.heap.size 2 rfl _ _ x1 _ Ybaf.underlying32 rfl (.int .u64 l1) rfl ?_)
      | (refine wpList_is (.load 32 (.tmp 29)) rfl ?_; refine wpList_load_cell rfl 32 (.tmp 29) rfl (w.heap.size + 1) 2 rfl _ _ x2 _ Ybaf.underlying32 rfl (.int .u64 l2) rfl ?_))
      refine (cmp31 l1 l2 _).mono ?_
      rintro e w1 ⟨rfl, rfl⟩
      go_wp2_with fail
      refine bodyPost_ret (by kernel_rfl) rfl ⟨rfl, hg⟩
    · refine key (cmpI m1 m2) (by unfold cmp3; rw [if_pos e1, if_neg e2]) ?_
      clear key
      subst e1
      go_enter Ybaf.func24, Ybaf.ntmps24
      go_wp2_with (first
      | (refine wpList_is (.box 41 (.tmp 0)) rfl ?_; refine wpList_box41 rfl (.tmp 0) rfl h1 m1 l1 rfl ?_)
      | (refine wpList_is (.box 41 (.tmp 1)) rfl ?_; refine wpList_box41 rfl (.tmp 1) rfl h1 m2 l2 rfl ?_)
      | (refine wpList_is (.load 39 (.tmp 6)) rfl ?_; refine wpList_load_cell rfl 39 (.tmp 6) rfl w.heap.size 0 rfl _ _ x1 _ Ybaf.underlying39 rfl (.int .u32 h1) rfl ?_)
      | (refine wpList_is (.load 39 (.tmp 8)) rfl ?_; refine wpList_load_cell rfl 39 (.tmp 8) rfl (w.heap.size + 1) 0 rfl _ _ x2 _ Ybaf.underlying39 rfl (.int .u32 h1) rfl ?_)
      | (refine wpList_is (.load 39 (.tmp 11)) rfl ?_; refine wpList_load_cell rfl 39 (.tmp 11) rfl w.heap.size 0 rfl _ _ x1 _ Ybaf.underlying39 rfl (.int .u32 h1) rfl ?_)
      | (refine wpList_is (.load 39 (.tmp 13)) rfl ?_; refine wpList_load_cell rfl 39 (.tmp 13) rfl (w.heap.size + 1) 0 rfl _ _ x2 _ Ybaf.underlying39 rfl (.int .u32 h1) rfl ?_)
      | (refine wpList_is (.load 32 (.tmp 17)) rfl ?_; refine wpList_load_cell rfl 32 (.tmp 17) rfl w.heap.size 1 rfl _ _ x1 _ Ybaf.underlying32 rfl (.int .u64 m1) rfl ?_)
      | (refine wpList_is (.load 32 (.tmp 19)) rfl ?_; refine wpList_load_cell rfl 32 (.tmp 19) rfl (w.heap.size + 1) 1 rfl _ _ x2 _ Ybaf.underlying32 rfl (.int .u64 m2) rfl ?_)
      | (refine wpList_is (.load 32 (.tmp 22)) rfl ?_; refine wpList_load_cell rfl 32 (.tmp 22) rfl w.heap.size 1 rfl _ _ x1 _ Ybaf.underlying32 rfl (.int .u64 m1) rfl ?_)
      | (refine wpList_is (.load 32 (.tmp 24)) rfl ?_; refine wpList_load_cell rfl 32 (.tmp 24) rfl (w.heap.size + 1) 1 rfl _ _ x2 _ Ybaf.underlying32 rfl (.int .u64 m2) rfl ?_)
      | (refine wpList_is (.load 32 (.tmp 27)) rfl ?_; refine wpList_load_cell rfl 32 (.tmp 27) rfl w.heap.size 2 rfl _ _ x1 _ Ybaf.underlying32 rfl (.int .u64 l1) rfl ?_)
      | (refine wpList_is (.load 32 (.tmp 29)) rfl ?_; refine wpList_load_cell rfl 32 (.tmp 29) rfl (w.heap.size + 1) 2 rfl _ _ x2 _ Ybaf.underlying32 rfl (.int .u64 l2) rfl ?_))
      refine (cmp31 m1 m2 _).mono ?_
      rintro e w1 ⟨rfl, rfl⟩
      go_wp2_with fail
      refine bodyPost_ret (by kernel_rfl) rfl ⟨rfl, hg⟩
  · refine key (cmpI h1 h2) (by unfold cmp3; rw [if_neg e1]) ?_
    clear key
    go_enter Ybaf.func24, Ybaf.ntmps24
    go_wp2_with (first
      | (refine wpList_is (.box 41 (.tmp 0)) rfl ?_; refine wpList_box41 rfl (.tmp 0) rfl h1 m1 l1 rfl ?_)
      | (refine wpList_is (.box 41 (.tmp 1)) rfl ?_; refine wpList_box41 rfl (.tmp 1) rfl h2 m2 l2 rfl ?_)
      | (refine wpList_is (.load 39 (.tmp 6)) rfl ?_; refine wpList_load_cell rfl 39 (.tmp 6) rfl w.heap.size 0 rfl _ _ x1 _ Ybaf.underlying39 rfl (.int .u32 h1) rfl ?_)
      | (refine wpList_is (.load 39 (.tmp 8)) rfl ?_; refine wpList_load_cell rfl 39 (.tmp 8) rfl (w.heap.size + 1) 0 rfl _ _ x2 _ Ybaf.underlying39 rfl (.int .u32 h2) rfl ?_)
      | (refine wpList_is (.load 39 (.tmp 11)) rfl ?_; refine wpList_load_cell rfl 39 (.tmp 11) rfl w.heap.size 0 rfl _ _ x1 _ Ybaf.underlying39 rfl (.int .u32 h1) rfl ?_)
      | (refine wpList_is (.load 39 (.tmp 13)) rfl ?_; refine wpList_load_cell rfl 39 (.tmp 13) rfl (w.heap.size + 1) 0 rfl _ _ x2 _ Ybaf.underlying39 rfl (.int .u32 h2) rfl ?_)
      | (refine wpList_is (.load 32 (.tmp 17)) rfl ?_; refine wpList_load_cell rfl 32 (.tmp 17) rfl w.heap.size 1 rfl _ _ x1 _ Ybaf.underlying32 rfl (.int .u64 m1) rfl ?_)
      | (refine wpList_is (.load 32 (.tmp 19)) rfl ?_; refine wpList_load_cell rfl 32 (.tmp 19) rfl (w.heap.size + 1) 1 rfl _ _ x2 _ Ybaf.underlying32 rfl (.int .u64 m2) rfl ?_)
      | (refine wpList_is (.load 32 (.tmp 22)) rfl ?_; refine wpList_load_cell rfl 32 (.tmp 22) rfl w.heap.size 1 rfl _ _ x1 _ Ybaf.underlying32 rfl (.int .u64 m1) rfl ?_)
      | (refine wpList_is (.load 32 (.tmp 24)) rfl ?_; refine wpList_load_cell rfl 32 (.tmp 24) rfl (w.heap.size + 1) 1 rfl _ _ x2 _ Ybaf.underlying32 rfl (.int .u64 m2) rfl ?_)
      | (refine wpList_is (.load 32 (.tmp 27)) rfl ?_; refine wpList_load_cell rfl 32 (.tmp 27) rfl w.heap.size 2 rfl _ _ x1 _ Ybaf.underlying32 rfl (.int .u64 l1) rfl ?_)
      | (refine wpList_is (.load 32 (.tmp 29)) rfl ?_; refine wpList_load_cell rfl 32 (.tmp 29) rfl (w.heap.size + 1) 2 rfl _ _ x2 _ Ybaf.underlying32 rfl (.int .u64 l2) rfl ?_))
    refine (cmp30 h1 h2 _).mono ?_
    rintro e w1 ⟨rfl, rfl⟩
    go_wp2_with fail
    refine bodyPost_ret (by kernel_rfl) rfl ⟨rfl, hg⟩

end Go.Proofs.YbulkdspqFmt
