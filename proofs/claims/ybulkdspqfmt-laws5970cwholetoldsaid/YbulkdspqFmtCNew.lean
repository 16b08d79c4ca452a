/-
  LawS5970CWhole: ValidateTrustsetSize (15), NewTrustset (9).
-/
import Derived.Test.YbulkdspqFmtCNearB
import Derived.Laws.MakeOwn
namespace Go.Proofs.YbulkdspqFmt
open Go.RowKit
set_option linter.unusedSimpArgs false
set_option linter.unusedVariables false

theorem any_three {P : Program} {ops : Array Oper} {S : World → Prop} {a : Act} {md : Region.Mode} {Q : Exit → Act → World → Prop} (i j k : Nat) {fuel : Nat} {listed : Array Bool} {w : World} (hr : Region.ready md ops listed = [i, j, k])
    (h1 : wpOp P ops Q i (fun a' w' => S w' ∧ wpAnyH P md ops Q S fuel (listed.setIfInBounds i true) a' w') a w) (h2 : wpOp P ops Q j (fun a' w' => S w' ∧ wpAnyH P md ops Q S fuel (listed.setIfInBounds j true) a' w') a w) (h3 : wpOp P ops Q k (fun a' w' => S w' ∧ wpAnyH P md ops Q S fuel (listed.setIfInBounds k true) a' w') a w) : wpAnyH P md ops Q S (fuel + 1) listed a w :=
  wpAnyH_all hr (by simp) (fun m hm => by
    have e : m = i ∨ m = j ∨ m = k := by simpa using hm
    rcases e with rfl | rfl | rfl
    · exact h1
    · exact h2
    · exact h3)
theorem exec_make0 {a : Act} {o : Oper} {w : World} {t e : TypeId} {z : Value} {size bytes : Nat} (ht : Ybaf.prog.underlying t = some (.slice e)) (hinfo : (Ybaf.prog.info? e).map (fun i => (i.zero, i.size, i.bytes)) = some (some z, size, bytes)) (hby : bytes ≤ 48) (x : Operand) (ho : o.op = .makeSlice t (.const (.int .i64 0)) x) (n : Int) (hn0 : 0 ≤ n) (hn : n ≤ 1000000) (hx : a.eval x = .int .i64 n) :
    (execOp a.eval o).run Ybaf.prog w = .ok (.value (.slice (some ⟨w.heap.size, 0, none⟩) 0 n.toNat)) (w.alloc (.cells (madeCells z.cells (n.toNat * size)) e)) := by
  obtain ⟨i, hi, hz, hs, hb⟩ := info_parts hinfo
  have e0 : a.eval (.const (.int .i64 0)) = .int .i64 0 := rfl
  have hbb : (i.bytes : Int) * n ≤ 281474976710656 := by
    rw [hb]
    have : bytes * n.toNat ≤ 48 * 1000000 := Nat.mul_le_mul hby (by omega)
    have h2 : ((bytes * n.toNat : Nat) : Int) ≤ 48000000 := by omega
    rw [Int.natCast_mul, Int.toNat_of_nonneg hn0] at h2
    omega
  have hr := run_make (P := Ybaf.prog) w t e i z ht hi hz .i64 .i64 0 n (by omega) (by omega) hbb (by omega)
  simp only [Int.toNat_zero, hs] at hr
  unfold execOp
  simp only [ho, hx, e0, Sem.run_bind, hr, Result.andThen_ok, Sem.run_pure]
theorem own_made0 {base : Nat} (w : World) (e : TypeId) (sz : Nat) (z : Array Value) (n : Nat) (hm : n ≤ maxLen) (hb : base ≤ w.heap.size) : (w.alloc (.cells (madeCells z (n * sz)) e)).ownsRow base e sz (.slice (some ⟨w.heap.size, 0, none⟩) 0 n) 0 [] :=
  ⟨by simp, .inr ⟨w.heap.size, n, _, rfl, hb, heap_alloc_new w _, Nat.zero_le _, hm, by simp [size_madeCells], by simp⟩⟩

theorem exec_half {a : Act} {o : Oper} {w : World} (x : Operand) (ho : o.op = .binOp .quo 3 x (.const (.int .i64 2)) 3) (h : Int) (h1 : 1 ≤ h) (h4 : h ≤ 4) (hx : a.eval x = .int .i64 (2 * h)) : (execOp a.eval o).run Ybaf.prog w = .ok (.value (.int .i64 h)) w := by
  have e : a.eval (.const (.int .i64 2)) = .int .i64 2 := rfl
  unfold execOp
  simp only [ho, hx, e]
  obtain rfl | rfl | rfl | rfl : h = 1 ∨ h = 2 ∨ h = 3 ∨ h = 4 := by omega
  all_goals first | rfl | (simp [binOp, eqGuard, Result.andThen, go_sem, Ybaf.underlying3, IntKind.wrap, IntKind.signed, IntKind.bits]; done)
set_option maxRecDepth 100000 in
theorem valid15 {h : Int} (h1 : 1 ≤ h) (h4 : h ≤ 4) (w : World) : Calls Ybaf.prog 15 #[.int .i64 (2 * h)] w fun e w' => e = .returned .nilIface ∧ w = w' := by
  obtain rfl | rfl | rfl | rfl : h = 1 ∨ h = 2 ∨ h = 3 ∨ h = 4 := by omega
  all_goals
    go_enter Ybaf.func15, Ybaf.ntmps15
    go_wp2_with fail
    refine bodyPost_ret (by kernel_rfl) rfl ⟨rfl, rfl⟩
/-- What NewTrustset leaves. -/
def NewPost (w : World) (s h : Int) (e : Ending) (w' : World) : Prop := ∃ p vi vt, e = .returned (.pointer (some ⟨p, 0, none⟩)) ∧ w.heap.size ≤ p ∧ w'.heap[p]? = some (.cells (tsc s h vi vt (.slice none 0 0)).toArray 43 (0, 0)) ∧ w'.ownsRow w.heap.size 25 20 vi 0 [] ∧ w'.ownsRow w.heap.size 32 1 vt 0 [] ∧ w.grownBy w' none

set_option maxRecDepth 100000 in
set_option maxHeartbeats 8000000 in
theorem new9 {s h : Int} (hs : Sm s) (h1 : 1 ≤ h) (h4 : h ≤ 4) (w : World) : Calls Ybaf.prog 9 #[.agg (ic s).toArray, .int .i64 (2 * h)] w (NewPost w s h) := by
  go_enter Ybaf.func9, Ybaf.ntmps9
  go_wp2_with (refine wpList_is (.box 25 (.tmp 0)) rfl ?_; refine wpList_box25 rfl (.tmp 0) rfl (cf s) rfl ?_)
  refine (valid15 h1 h4 _).mono ?_
  rintro e u ⟨rfl, rfl⟩
  have x0 : (w.alloc (.cells (ic s).toArray 25)).heap[w.heap.size]? = some (.cells (ic s).toArray 25 (0, 0)) := heap_alloc_new w _
  have g0 : w.grownBy (w.alloc (.cells (ic s).toArray 25)) none := World.grownBy_alloc _ _ none
  generalize (w.alloc (.cells (ic s).toArray 25)) = u at *
  go_upto_region 4 with fail
  refine wp_region_held (S := (fun w' : World => w'.heap[w.heap.size]? = some (.cells (ic s).toArray 25 (0, 0)))) (by kernel_rfl) ?_
  have Sv0 : (fun w' : World => w'.heap[w.heap.size]? = some (.cells (ic s).toArray 25 (0, 0))) { u with drawn := u.drawn + 1 } := x0
  have Gv0 : w.grownBy { u with drawn := u.drawn + 1 } none := grown_trans g0 (grown_drew u)
  clear x0 g0
  generalize ({ u with drawn := u.drawn + 1 } : World) = v0 at *
  refine any_take 0 (some 14) (.agg (ic s).toArray) rfl rfl (by kernel_rfl) (by kernel_rfl) (by kernel_rfl) (fun _ _ _ h => h) (yld_blk (by kernel_rfl) 25 (.tmp 2) rfl w.heap.size (by kernel_rfl) (ic s) 25 (fun _ h => h) _ Ybaf.underlying25 rfl (size25 _)) (by assumption) ?_
  simp only [Act.put, List.setIfInBounds_toArray, List.set_cons_zero, List.set_cons_succ]
  refine any_take 1 (some 15) (.agg (ic s).toArray) rfl rfl (by kernel_rfl) (by kernel_rfl) (by kernel_rfl) (fun _ _ _ h => h) (yld_blk (by kernel_rfl) 25 (.tmp 2) rfl w.heap.size (by kernel_rfl) (ic s) 25 (fun _ h => h) _ Ybaf.underlying25 rfl (size25 _)) (by assumption) ?_
  simp only [Act.put, List.setIfInBounds_toArray, List.set_cons_zero, List.set_cons_succ]
  refine any_take 3 (some 17) (.int .i64 (2 * h)) rfl rfl (by kernel_rfl) (by kernel_rfl) (by kernel_rfl) (fun _ _ _ h => h) (.inl ⟨by kernel_rfl, fun _ _ => by kernel_rfl⟩) (by assumption) ?_
  simp only [Act.put, List.setIfInBounds_toArray, List.set_cons_zero, List.set_cons_succ]
  refine any_take 4 (some 18) (.int .i64 h) rfl rfl (by kernel_rfl) (by kernel_rfl) (by kernel_rfl) (fun _ _ _ h => h) (.inl ⟨by kernel_rfl, fun w' _ => exec_half (.tmp 17) rfl h h1 h4 (by kernel_rfl)⟩) (by assumption) ?_
  simp only [Act.put, List.setIfInBounds_toArray, List.set_cons_zero, List.set_cons_succ]
  refine any_take 5 (some 19) (.int .i64 (2 * h)) rfl rfl (by kernel_rfl) (by kernel_rfl) (by kernel_rfl) (fun _ _ _ h => h) (.inl ⟨by kernel_rfl, fun _ _ => by kernel_rfl⟩) (by assumption) ?_
  simp only [Act.put, List.setIfInBounds_toArray, List.set_cons_zero, List.set_cons_succ]
  refine any_take 7 (some 21) (.int .i64 (2 * h)) rfl rfl (by kernel_rfl) (by kernel_rfl) (by kernel_rfl) (fun _ _ _ h => h) (.inl ⟨by kernel_rfl, fun _ _ => by kernel_rfl⟩) (by assumption) ?_
  simp only [Act.put, List.setIfInBounds_toArray, List.set_cons_zero, List.set_cons_succ]
  refine any_three 2 6 8 (by kernel_rfl) ?_ ?_ ?_
  · refine op_call 2 (some 16) 16 #[.agg (ic s).toArray] rfl rfl (by kernel_rfl) (by kernel_rfl) ((num_un (byt_cf hs) _).mono ?_)
    rintro e v1 ⟨rfl, qv1⟩
    have Sv1 : (fun w' : World => w'.heap[w.heap.size]? = some (.cells (ic s).toArray 25 (0, 0))) v1 := keep_blk qv1 Sv0 (by simp)
    have Gv1 : w.grownBy v1 none := grown_trans Gv0 qv1
    refine ⟨_, rfl, Sv1, ?_⟩
    simp only [Act.put, List.setIfInBounds_toArray, List.set_cons_zero, List.set_cons_succ]
    refine any_two 6 8 (by kernel_rfl) ?_ ?_
    · refine op_val 6 (some 20) (.slice (some ⟨v1.heap.size, 0, none⟩) 0 (2 * h).toNat) _ rfl rfl (by kernel_rfl) (exec_make0 (t := 27) Ybaf.underlying27 info25 (by omega) (.tmp 19) rfl (2 * h) (by omega) (by omega) (by kernel_rfl)) ?_
      have qv2 : v1.grownBy _ none := World.grownBy_alloc v1 (.cells (madeCells (Value.agg (ab fun _ => 0).toArray).cells ((2 * h).toNat * 20)) 25) none
      have oiv2 := own_made0 (base := w.heap.size) v1 25 20 (Value.agg (ab fun _ => 0).toArray).cells (2 * h).toNat (by unfold maxLen; omega) Gv1.size
      have Sv2 : (fun w' : World => w'.heap[w.heap.size]? = some (.cells (ic s).toArray 25 (0, 0))) _ := keep_blk qv2 Sv1 (by simp)
      have Gv2 : w.grownBy _ none := grown_trans Gv1 qv2
      refine ⟨Sv2, ?_⟩
      generalize (v1.alloc (.cells (madeCells (Value.agg (ab fun _ => 0).toArray).cells ((2 * h).toNat * 20)) 25)) = v2 at *
      generalize v1.heap.size = goi at *
      simp only [Act.put, List.setIfInBounds_toArray, List.set_cons_zero, List.set_cons_succ]
      refine wpAnyH_all (rs := [8]) (by kernel_rfl) (by simp) (fun k hk => ?_)
      obtain rfl : k = 8 := by simpa using hk
      clear hk
      refine op_val 8 (some 22) (.slice (some ⟨v2.heap.size, 0, none⟩) 0 (2 * h).toNat) _ rfl rfl (by kernel_rfl) (exec_make0 (t := 30) Ybaf.underlying30 info32 (by omega) (.tmp 21) rfl (2 * h) (by omega) (by omega) (by kernel_rfl)) ?_
      have qv3 : v2.grownBy _ none := World.grownBy_alloc v2 (.cells (madeCells (Value.int .u64 0).cells ((2 * h).toNat * 1)) 32) none
      have otv3 := own_made0 (base := w.heap.size) v2 32 1 (Value.int .u64 0).cells (2 * h).toNat (by unfold maxLen; omega) Gv2.size
      have oiv3 := own_kept oiv2 qv3 (by simp)
      have Sv3 : (fun w' : World => w'.heap[w.heap.size]? = some (.cells (ic s).toArray 25 (0, 0))) _ := keep_blk qv3 Sv2 (by simp)
      have Gv3 : w.grownBy _ none := grown_trans Gv2 qv3
      refine ⟨Sv3, ?_⟩
      generalize (v2.alloc (.cells (madeCells (Value.int .u64 0).cells ((2 * h).toNat * 1)) 32)) = v3 at *
      generalize v2.heap.size = got at *
      simp only [Act.put, List.setIfInBounds_toArray, List.set_cons_zero, List.set_cons_succ]
      refine any_take 9 (some 23) (.agg (tsc s h (.slice (some ⟨goi, 0, none⟩) 0 (2 * h).toNat) (.slice (some ⟨got, 0, none⟩) 0 (2 * h).toNat) (.slice none 0 0)).toArray) rfl rfl (by kernel_rfl) (by kernel_rfl) (by kernel_rfl) (fun _ _ _ h => h) (.inl ⟨by kernel_rfl, fun _ _ => by kernel_rfl⟩) (by assumption) ?_
      simp only [Act.put, List.setIfInBounds_toArray, List.set_cons_zero, List.set_cons_succ]
      refine any_one 10 (some 24) (.pointer (some ⟨v3.heap.size, 0, none⟩)) (v3.alloc (.cells (tsc s h (.slice (some ⟨goi, 0, none⟩) 0 (2 * h).toNat) (.slice (some ⟨got, 0, none⟩) 0 (2 * h).toNat) (.slice none 0 0)).toArray 43)) rfl rfl (by kernel_rfl) (by kernel_rfl) (by kernel_rfl) (keep_blk (World.grownBy_alloc v3 _ none) Sv3 (by simp)) ?_
      have qz : v3.grownBy _ none := World.grownBy_alloc v3 (.cells (tsc s h (.slice (some ⟨goi, 0, none⟩) 0 (2 * h).toNat) (.slice (some ⟨got, 0, none⟩) 0 (2 * h).toNat) (.slice none 0 0)).toArray 43) none
      have xz : (v3.alloc (.cells (tsc s h (.slice (some ⟨goi, 0, none⟩) 0 (2 * h).toNat) (.slice (some ⟨got, 0, none⟩) 0 (2 * h).toNat) (.slice none 0 0)).toArray 43)).heap[v3.heap.size]? = some (.cells (tsc s h (.slice (some ⟨goi, 0, none⟩) 0 (2 * h).toNat) (.slice (some ⟨got, 0, none⟩) 0 (2 * h).toNat) (.slice none 0 0)).toArray 43 (0, 0)) := heap_alloc_new v3 _
      have oz := own_kept oiv3 qz (by simp)
      have pz := own_kept otv3 qz (by simp)
      have Gz : w.grownBy _ none := grown_trans Gv3 qz
      have Sz : (fun w' : World => w'.heap[w.heap.size]? = some (.cells (ic s).toArray 25 (0, 0))) _ := keep_blk qz Sv3 (by simp)
      have lz := Gv3.size
      generalize (v3.alloc (.cells (tsc s h (.slice (some ⟨goi, 0, none⟩) 0 (2 * h).toNat) (.slice (some ⟨got, 0, none⟩) 0 (2 * h).toNat) (.slice none 0 0)).toArray 43)) = uz at *
      generalize v3.heap.size = pb at *
      simp only [Act.put, List.setIfInBounds_toArray, List.set_cons_zero, List.set_cons_succ]
      refine any_take 11 (some 4) (.pointer (some ⟨pb, 0, none⟩)) rfl rfl (by kernel_rfl) (by kernel_rfl) (by kernel_rfl) (fun _ _ _ h => h) (.inl ⟨by kernel_rfl, fun _ _ => by kernel_rfl⟩) (by assumption) ?_
      simp only [Act.put, List.setIfInBounds_toArray, List.set_cons_zero, List.set_cons_succ]
      refine wpAnyH_done (by kernel_rfl) ?_ _
      go_wp2_with fail
      refine bodyPost_ret (v := .pointer (some ⟨pb, 0, none⟩)) (by kernel_rfl) rfl ⟨pb, _, _, rfl, lz, xz, oz, pz, Gz⟩
    · refine op_val 8 (some 22) (.slice (some ⟨v1.heap.size, 0, none⟩) 0 (2 * h).toNat) _ rfl rfl (by kernel_rfl) (exec_make0 (t := 30) Ybaf.underlying30 info32 (by omega) (.tmp 21) rfl (2 * h) (by omega) (by omega) (by kernel_rfl)) ?_
      have qv2 : v1.grownBy _ none := World.grownBy_alloc v1 (.cells (madeCells (Value.int .u64 0).cells ((2 * h).toNat * 1)) 32) none
      have otv2 := own_made0 (base := w.heap.size) v1 32 1 (Value.int .u64 0).cells (2 * h).toNat (by unfold maxLen; omega) Gv1.size
      have Sv2 : (fun w' : World => w'.heap[w.heap.size]? = some (.cells (ic s).toArray 25 (0, 0))) _ := keep_blk qv2 Sv1 (by simp)
      have Gv2 : w.grownBy _ none := grown_trans Gv1 qv2
      refine ⟨Sv2, ?_⟩
      generalize (v1.alloc (.cells (madeCells (Value.int .u64 0).cells ((2 * h).toNat * 1)) 32)) = v2 at *
      generalize v1.heap.size = got at *
      simp only [Act.put, List.setIfInBounds_toArray, List.set_cons_zero, List.set_cons_succ]
      refine wpAnyH_all (rs := [6]) (by kernel_rfl) (by simp) (fun k hk => ?_)
      obtain rfl : k = 6 := by simpa using hk
      clear hk
      refine op_val 6 (some 20) (.slice (some ⟨v2.heap.size, 0, none⟩) 0 (2 * h).toNat) _ rfl rfl (by kernel_rfl) (exec_make0 (t := 27) Ybaf.underlying27 info25 (by omega) (.tmp 19) rfl (2 * h) (by omega) (by omega) (by kernel_rfl)) ?_
      have qv3 : v2.grownBy _ none := World.grownBy_alloc v2 (.cells (madeCells (Value.agg (ab fun _ => 0).toArray).cells ((2 * h).toNat * 20)) 25) none
      have oiv3 := own_made0 (base := w.heap.size) v2 25 20 (Value.agg (ab fun _ => 0).toArray).cells (2 * h).toNat (by unfold maxLen; omega) Gv2.size
      have otv3 := own_kept otv2 qv3 (by simp)
      have Sv3 : (fun w' : World => w'.heap[w.heap.size]? = some (.cells (ic s).toArray 25 (0, 0))) _ := keep_blk qv3 Sv2 (by simp)
      have Gv3 : w.grownBy _ none := grown_trans Gv2 qv3
      refine ⟨Sv3, ?_⟩
      generalize (v2.alloc (.cells (madeCells (Value.agg (ab fun _ => 0).toArray).cells ((2 * h).toNat * 20)) 25)) = v3 at *
      generalize v2.heap.size = goi at *
      simp only [Act.put, List.setIfInBounds_toArray, List.set_cons_zero, List.set_cons_succ]
      refine any_take 9 (some 23) (.agg (tsc s h (.slice (some ⟨goi, 0, none⟩) 0 (2 * h).toNat) (.slice (some ⟨got, 0, none⟩) 0 (2 * h).toNat) (.slice none 0 0)).toArray) rfl rfl (by kernel_rfl) (by kernel_rfl) (by kernel_rfl) (fun _ _ _ h => h) (.inl ⟨by kernel_rfl, fun _ _ => by kernel_rfl⟩) (by assumption) ?_
      simp only [Act.put, List.setIfInBounds_toArray, List.set_cons_zero, List.set_cons_succ]
      refine any_one 10 (some 24) (.pointer (some ⟨v3.heap.size, 0, none⟩)) (v3.alloc (.cells (tsc s h (.slice (some ⟨goi, 0, none⟩) 0 (2 * h).toNat) (.slice (some ⟨got, 0, none⟩) 0 (2 * h).toNat) (.slice none 0 0)).toArray 43)) rfl rfl (by kernel_rfl) (by kernel_rfl) (by kernel_rfl) (keep_blk (World.grownBy_alloc v3 _ none) Sv3 (by simp)) ?_
      have qz : v3.grownBy _ none := World.grownBy_alloc v3 (.cells (tsc s h (.slice (some ⟨goi, 0, none⟩) 0 (2 * h).toNat) (.slice (some ⟨got, 0, none⟩) 0 (2 * h).toNat) (.slice none 0 0)).toArray 43) none
      have xz : (v3.alloc (.cells (tsc s h (.slice (some ⟨goi, 0, none⟩) 0 (2 * h).toNat) (.slice (some ⟨got, 0, none⟩) 0 (2 * h).toNat) (.slice none 0 0)).toArray 43)).heap[v3.heap.size]? = some (.cells (tsc s h (.slice (some ⟨goi, 0, none⟩) 0 (2 * h).toNat) (.slice (some ⟨got, 0, none⟩) 0 (2 * h).toNat) (.slice none 0 0)).toArray 43 (0, 0)) := heap_alloc_new v3 _
      have oz := own_kept oiv3 qz (by simp)
      have pz := own_kept otv3 qz (by simp)
      have Gz : w.grownBy _ none := grown_trans Gv3 qz
      have Sz : (fun w' : World => w'.heap[w.heap.size]? = some (.cells (ic s).toArray 25 (0, 0))) _ := keep_blk qz Sv3 (by simp)
      have lz := Gv3.size
      generalize (v3.alloc (.cells (tsc s h (.slice (some ⟨goi, 0, none⟩) 0 (2 * h).toNat) (.slice (some ⟨got, 0, none⟩) 0 (2 * h).toNat) (.slice none 0 0)).toArray 43)) = uz at *
      generalize v3.heap.size = pb at *
      simp only [Act.put, List.setIfInBounds_toArray, List.set_cons_zero, List.set_cons_succ]
      refine any_take 11 (some 4) (.pointer (some ⟨pb, 0, none⟩)) rfl rfl (by kernel_rfl) (by kernel_rfl) (by kernel_rfl) (fun _ _ _ h => h) (.inl ⟨by kernel_rfl, fun _ _ => by kernel_rfl⟩) (by assumption) ?_
      simp only [Act.put, List.setIfInBounds_toArray, List.set_cons_zero, List.set_cons_succ]
      refine wpAnyH_done (by kernel_rfl) ?_ _
      go_wp2_with fail
      refine bodyPost_ret (v := .pointer (some ⟨pb, 0, none⟩)) (by kernel_rfl) rfl ⟨pb, _, _, rfl, lz, xz, oz, pz, Gz⟩
  · refine op_val 6 (some 20) (.slice (some ⟨v0.heap.size, 0, none⟩) 0 (2 * h).toNat) _ rfl rfl (by kernel_rfl) (exec_make0 (t := 27) Ybaf.underlying27 info25 (by omega) (.tmp 19) rfl (2 * h) (by omega) (by omega) (by kernel_rfl)) ?_
    have qv1 : v0.grownBy _ none := World.grownBy_alloc v0 (.cells (madeCells (Value.agg (ab fun _ => 0).toArray).cells ((2 * h).toNat * 20)) 25) none
    have oiv1 := own_made0 (base := w.heap.size) v0 25 20 (Value.agg (ab fun _ => 0).toArray).cells (2 * h).toNat (by unfold maxLen; omega) Gv0.size
    have Sv1 : (fun w' : World => w'.heap[w.heap.size]? = some (.cells (ic s).toArray 25 (0, 0))) _ := keep_blk qv1 Sv0 (by simp)
    have Gv1 : w.grownBy _ none := grown_trans Gv0 qv1
    refine ⟨Sv1, ?_⟩
    generalize (v0.alloc (.cells (madeCells (Value.agg (ab fun _ => 0).toArray).cells ((2 * h).toNat * 20)) 25)) = v1 at *
    generalize v0.heap.size = goi at *
    simp only [Act.put, List.setIfInBounds_toArray, List.set_cons_zero, List.set_cons_succ]
    refine any_two 2 8 (by kernel_rfl) ?_ ?_
    · refine op_call 2 (some 16) 16 #[.agg (ic s).toArray] rfl rfl (by kernel_rfl) (by kernel_rfl) ((num_un (byt_cf hs) _).mono ?_)
      rintro e v2 ⟨rfl, qv2⟩
      have Sv2 : (fun w' : World => w'.heap[w.heap.size]? = some (.cells (ic s).toArray 25 (0, 0))) v2 := keep_blk qv2 Sv1 (by simp)
      have Gv2 : w.grownBy v2 none := grown_trans Gv1 qv2
      have oiv2 := own_kept oiv1 qv2 (by simp)
      refine ⟨_, rfl, Sv2, ?_⟩
      simp only [Act.put, List.setIfInBounds_toArray, List.set_cons_zero, List.set_cons_succ]
      refine wpAnyH_all (rs := [8]) (by kernel_rfl) (by simp) (fun k hk => ?_)
      obtain rfl : k = 8 := by simpa using hk
      clear hk
      refine op_val 8 (some 22) (.slice (some ⟨v2.heap.size, 0, none⟩) 0 (2 * h).toNat) _ rfl rfl (by kernel_rfl) (exec_make0 (t := 30) Ybaf.underlying30 info32 (by omega) (.tmp 21) rfl (2 * h) (by omega) (by omega) (by kernel_rfl)) ?_
      have qv3 : v2.grownBy _ none := World.grownBy_alloc v2 (.cells (madeCells (Value.int .u64 0).cells ((2 * h).toNat * 1)) 32) none
      have otv3 := own_made0 (base := w.heap.size) v2 32 1 (Value.int .u64 0).cells (2 * h).toNat (by unfold maxLen; omega) Gv2.size
      have oiv3 := own_kept oiv2 qv3 (by simp)
      have Sv3 : (fun w' : World => w'.heap[w.heap.size]? = some (.cells (ic s).toArray 25 (0, 0))) _ := keep_blk qv3 Sv2 (by simp)
      have Gv3 : w.grownBy _ none := grown_trans Gv2 qv3
      refine ⟨Sv3, ?_⟩
      generalize (v2.alloc (.cells (madeCells (Value.int .u64 0).cells ((2 * h).toNat * 1)) 32)) = v3 at *
      generalize v2.heap.size = got at *
      simp only [Act.put, List.setIfInBounds_toArray, List.set_cons_zero, List.set_cons_succ]
      refine any_take 9 (some 23) (.agg (tsc s h (.slice (some ⟨goi, 0, none⟩) 0 (2 * h).toNat) (.slice (some ⟨got, 0, none⟩) 0 (2 * h).toNat) (.slice none 0 0)).toArray) rfl rfl (by kernel_rfl) (by kernel_rfl) (by kernel_rfl) (fun _ _ _ h => h) (.inl ⟨by kernel_rfl, fun _ _ => by kernel_rfl⟩) (by assumption) ?_
      simp only [Act.put, List.setIfInBounds_toArray, List.set_cons_zero, List.set_cons_succ]
      refine any_one 10 (some 24) (.pointer (some ⟨v3.heap.size, 0, none⟩)) (v3.alloc (.cells (tsc s h (.slice (some ⟨goi, 0, none⟩) 0 (2 * h).toNat) (.slice (some ⟨got, 0, none⟩) 0 (2 * h).toNat) (.slice none 0 0)).toArray 43)) rfl rfl (by kernel_rfl) (by kernel_rfl) (by kernel_rfl) (keep_blk (World.grownBy_alloc v3 _ none) Sv3 (by simp)) ?_
      have qz : v3.grownBy _ none := World.grownBy_alloc v3 (.cells (tsc s h (.slice (some ⟨goi, 0, none⟩) 0 (2 * h).toNat) (.slice (some ⟨got, 0, none⟩) 0 (2 * h).toNat) (.slice none 0 0)).toArray 43) none
      have xz : (v3.alloc (.cells (tsc s h (.slice (some ⟨goi, 0, none⟩) 0 (2 * h).toNat) (.slice (some ⟨got, 0, none⟩) 0 (2 * h).toNat) (.slice none 0 0)).toArray 43)).heap[v3.heap.size]? = some (.cells (tsc s h (.slice (some ⟨goi, 0, none⟩) 0 (2 * h).toNat) (.slice (some ⟨got, 0, none⟩) 0 (2 * h).toNat) (.slice none 0 0)).toArray 43 (0, 0)) := heap_alloc_new v3 _
      have oz := own_kept oiv3 qz (by simp)
      have pz := own_kept otv3 qz (by simp)
      have Gz : w.grownBy _ none := grown_trans Gv3 qz
      have Sz : (fun w' : World => w'.heap[w.heap.size]? = some (.cells (ic s).toArray 25 (0, 0))) _ := keep_blk qz Sv3 (by simp)
      have lz := Gv3.size
      generalize (v3.alloc (.cells (tsc s h (.slice (some ⟨goi, 0, none⟩) 0 (2 * h).toNat) (.slice (some ⟨got, 0, none⟩) 0 (2 * h).toNat) (.slice none 0 0)).toArray 43)) = uz at *
      generalize v3.heap.size = pb at *
      simp only [Act.put, List.setIfInBounds_toArray, List.set_cons_zero, List.set_cons_succ]
      refine any_take 11 (some 4) (.pointer (some ⟨pb, 0, none⟩)) rfl rfl (by kernel_rfl) (by kernel_rfl) (by kernel_rfl) (fun _ _ _ h => h) (.inl ⟨by kernel_rfl, fun _ _ => by kernel_rfl⟩) (by assumption) ?_
      simp only [Act.put, List.setIfInBounds_toArray, List.set_cons_zero, List.set_cons_succ]
      refine wpAnyH_done (by kernel_rfl) ?_ _
      go_wp2_with fail
      refine bodyPost_ret (v := .pointer (some ⟨pb, 0, none⟩)) (by kernel_rfl) rfl ⟨pb, _, _, rfl, lz, xz, oz, pz, Gz⟩
    · refine op_val 8 (some 22) (.slice (some ⟨v1.heap.size, 0, none⟩) 0 (2 * h).toNat) _ rfl rfl (by kernel_rfl) (exec_make0 (t := 30) Ybaf.underlying30 info32 (by omega) (.tmp 21) rfl (2 * h) (by omega) (by omega) (by kernel_rfl)) ?_
      have qv2 : v1.grownBy _ none := World.grownBy_alloc v1 (.cells (madeCells (Value.int .u64 0).cells ((2 * h).toNat * 1)) 32) none
      have otv2 := own_made0 (base := w.heap.size) v1 32 1 (Value.int .u64 0).cells (2 * h).toNat (by unfold maxLen; omega) Gv1.size
      have oiv2 := own_kept oiv1 qv2 (by simp)
      have Sv2 : (fun w' : World => w'.heap[w.heap.size]? = some (.cells (ic s).toArray 25 (0, 0))) _ := keep_blk qv2 Sv1 (by simp)
      have Gv2 : w.grownBy _ none := grown_trans Gv1 qv2
      refine ⟨Sv2, ?_⟩
      generalize (v1.alloc (.cells (madeCells (Value.int .u64 0).cells ((2 * h).toNat * 1)) 32)) = v2 at *
      generalize v1.heap.size = got at *
      simp only [Act.put, List.setIfInBounds_toArray, List.set_cons_zero, List.set_cons_succ]
      refine wpAnyH_all (rs := [2]) (by kernel_rfl) (by simp) (fun k hk => ?_)
      obtain rfl : k = 2 := by simpa using hk
      clear hk
      refine op_call 2 (some 16) 16 #[.agg (ic s).toArray] rfl rfl (by kernel_rfl) (by kernel_rfl) ((num_un (byt_cf hs) _).mono ?_)
      rintro e v3 ⟨rfl, qv3⟩
      have Sv3 : (fun w' : World => w'.heap[w.heap.size]? = some (.cells (ic s).toArray 25 (0, 0))) v3 := keep_blk qv3 Sv2 (by simp)
      have Gv3 : w.grownBy v3 none := grown_trans Gv2 qv3
      have oiv3 := own_kept oiv2 qv3 (by simp)
      have otv3 := own_kept otv2 qv3 (by simp)
      refine ⟨_, rfl, Sv3, ?_⟩
      simp only [Act.put, List.setIfInBounds_toArray, List.set_cons_zero, List.set_cons_succ]
      refine any_take 9 (some 23) (.agg (tsc s h (.slice (some ⟨goi, 0, none⟩) 0 (2 * h).toNat) (.slice (some ⟨got, 0, none⟩) 0 (2 * h).toNat) (.slice none 0 0)).toArray) rfl rfl (by kernel_rfl) (by kernel_rfl) (by kernel_rfl) (fun _ _ _ h => h) (.inl ⟨by kernel_rfl, fun _ _ => by kernel_rfl⟩) (by assumption) ?_
      simp only [Act.put, List.setIfInBounds_toArray, List.set_cons_zero, List.set_cons_succ]
      refine any_one 10 (some 24) (.pointer (some ⟨v3.heap.size, 0, none⟩)) (v3.alloc (.cells (tsc s h (.slice (some ⟨goi, 0, none⟩) 0 (2 * h).toNat) (.slice (some ⟨got, 0, none⟩) 0 (2 * h).toNat) (.slice none 0 0)).toArray 43)) rfl rfl (by kernel_rfl) (by kernel_rfl) (by kernel_rfl) (keep_blk (World.grownBy_alloc v3 _ none) Sv3 (by simp)) ?_
      have qz : v3.grownBy _ none := World.grownBy_alloc v3 (.cells (tsc s h (.slice (some ⟨goi, 0, none⟩) 0 (2 * h).toNat) (.slice (some ⟨got, 0, none⟩) 0 (2 * h).toNat) (.slice none 0 0)).toArray 43) none
      have xz : (v3.alloc (.cells (tsc s h (.slice (some ⟨goi, 0, none⟩) 0 (2 * h).toNat) (.slice (some ⟨got, 0, none⟩) 0 (2 * h).toNat) (.slice none 0 0)).toArray 43)).heap[v3.heap.size]? = some (.cells (tsc s h (.slice (some ⟨goi, 0, none⟩) 0 (2 * h).toNat) (.slice (some ⟨got, 0, none⟩) 0 (2 * h).toNat) (.slice none 0 0)).toArray 43 (0, 0)) := heap_alloc_new v3 _
      have oz := own_kept oiv3 qz (by simp)
      have pz := own_kept otv3 qz (by simp)
      have Gz : w.grownBy _ none := grown_trans Gv3 qz
      have Sz : (fun w' : World => w'.heap[w.heap.size]? = some (.cells (ic s).toArray 25 (0, 0))) _ := keep_blk qz Sv3 (by simp)
      have lz := Gv3.size
      generalize (v3.alloc (.cells (tsc s h (.slice (some ⟨goi, 0, none⟩) 0 (2 * h).toNat) (.slice (some ⟨got, 0, none⟩) 0 (2 * h).toNat) (.slice none 0 0)).toArray 43)) = uz at *
      generalize v3.heap.size = pb at *
      simp only [Act.put, List.setIfInBounds_toArray, List.set_cons_zero, List.set_cons_succ]
      refine any_take 11 (some 4) (.pointer (some ⟨pb, 0, none⟩)) rfl rfl (by kernel_rfl) (by kernel_rfl) (by kernel_rfl) (fun _ _ _ h => h) (.inl ⟨by kernel_rfl, fun _ _ => by kernel_rfl⟩) (by assumption) ?_
      simp only [Act.put, List.setIfInBounds_toArray, List.set_cons_zero, List.set_cons_succ]
      refine wpAnyH_done (by kernel_rfl) ?_ _
      go_wp2_with fail
      refine bodyPost_ret (v := .pointer (some ⟨pb, 0, none⟩)) (by kernel_rfl) rfl ⟨pb, _, _, rfl, lz, xz, oz, pz, Gz⟩
  · refine op_val 8 (some 22) (.slice (some ⟨v0.heap.size, 0, none⟩) 0 (2 * h).toNat) _ rfl rfl (by kernel_rfl) (exec_make0 (t := 30) Ybaf.underlying30 info32 (by omega) (.tmp 21) rfl (2 * h) (by omega) (by omega) (by kernel_rfl)) ?_
    have qv1 : v0.grownBy _ none := World.grownBy_alloc v0 (.cells (madeCells (Value.int .u64 0).cells ((2 * h).toNat * 1)) 32) none
    have otv1 := own_made0 (base := w.heap.size) v0 32 1 (Value.int .u64 0).cells (2 * h).toNat (by unfold maxLen; omega) Gv0.size
    have Sv1 : (fun w' : World => w'.heap[w.heap.size]? = some (.cells (ic s).toArray 25 (0, 0))) _ := keep_blk qv1 Sv0 (by simp)
    have Gv1 : w.grownBy _ none := grown_trans Gv0 qv1
    refine ⟨Sv1, ?_⟩
    generalize (v0.alloc (.cells (madeCells (Value.int .u64 0).cells ((2 * h).toNat * 1)) 32)) = v1 at *
    generalize v0.heap.size = got at *
    simp only [Act.put, List.setIfInBounds_toArray, List.set_cons_zero, List.set_cons_succ]
    refine any_two 2 6 (by kernel_rfl) ?_ ?_
    · refine op_call 2 (some 16) 16 #[.agg (ic s).toArray] rfl rfl (by kernel_rfl) (by kernel_rfl) ((num_un (byt_cf hs) _).mono ?_)
      rintro e v2 ⟨rfl, qv2⟩
      have Sv2 : (fun w' : World => w'.heap[w.heap.size]? = some (.cells (ic s).toArray 25 (0, 0))) v2 := keep_blk qv2 Sv1 (by simp)
      have Gv2 : w.grownBy v2 none := grown_trans Gv1 qv2
      have otv2 := own_kept otv1 qv2 (by simp)
      refine ⟨_, rfl, Sv2, ?_⟩
      simp only [Act.put, List.setIfInBounds_toArray, List.set_cons_zero, List.set_cons_succ]
      refine wpAnyH_all (rs := [6]) (by kernel_rfl) (by simp) (fun k hk => ?_)
      obtain rfl : k = 6 := by simpa using hk
      clear hk
      refine op_val 6 (some 20) (.slice (some ⟨v2.heap.size, 0, none⟩) 0 (2 * h).toNat) _ rfl rfl (by kernel_rfl) (exec_make0 (t := 27) Ybaf.underlying27 info25 (by omega) (.tmp 19) rfl (2 * h) (by omega) (by omega) (by kernel_rfl)) ?_
      have qv3 : v2.grownBy _ none := World.grownBy_alloc v2 (.cells (madeCells (Value.agg (ab fun _ => 0).toArray).cells ((2 * h).toNat * 20)) 25) none
      have oiv3 := own_made0 (base := w.heap.size) v2 25 20 (Value.agg (ab fun _ => 0).toArray).cells (2 * h).toNat (by unfold maxLen; omega) Gv2.size
      have otv3 := own_kept otv2 qv3 (by simp)
      have Sv3 : (fun w' : World => w'.heap[w.heap.size]? = some (.cells (ic s).toArray 25 (0, 0))) _ := keep_blk qv3 Sv2 (by simp)
      have Gv3 : w.grownBy _ none := grown_trans Gv2 qv3
      refine ⟨Sv3, ?_⟩
      generalize (v2.alloc (.cells (madeCells (Value.agg (ab fun _ => 0).toArray).cells ((2 * h).toNat * 20)) 25)) = v3 at *
      generalize v2.heap.size = goi at *
      simp only [Act.put, List.setIfInBounds_toArray, List.set_cons_zero, List.set_cons_succ]
      refine any_take 9 (some 23) (.agg (tsc s h (.slice (some ⟨goi, 0, none⟩) 0 (2 * h).toNat) (.slice (some ⟨got, 0, none⟩) 0 (2 * h).toNat) (.slice none 0 0)).toArray) rfl rfl (by kernel_rfl) (by kernel_rfl) (by kernel_rfl) (fun _ _ _ h => h) (.inl ⟨by kernel_rfl, fun _ _ => by kernel_rfl⟩) (by assumption) ?_
      simp only [Act.put, List.setIfInBounds_toArray, List.set_cons_zero, List.set_cons_succ]
      refine any_one 10 (some 24) (.pointer (some ⟨v3.heap.size, 0, none⟩)) (v3.alloc (.cells (tsc s h (.slice (some ⟨goi, 0, none⟩) 0 (2 * h).toNat) (.slice (some ⟨got, 0, none⟩) 0 (2 * h).toNat) (.slice none 0 0)).toArray 43)) rfl rfl (by kernel_rfl) (by kernel_rfl) (by kernel_rfl) (keep_blk (World.grownBy_alloc v3 _ none) Sv3 (by simp)) ?_
      have qz : v3.grownBy _ none := World.grownBy_alloc v3 (.cells (tsc s h (.slice (some ⟨goi, 0, none⟩) 0 (2 * h).toNat) (.slice (some ⟨got, 0, none⟩) 0 (2 * h).toNat) (.slice none 0 0)).toArray 43) none
      have xz : (v3.alloc (.cells (tsc s h (.slice (some ⟨goi, 0, none⟩) 0 (2 * h).toNat) (.slice (some ⟨got, 0, none⟩) 0 (2 * h).toNat) (.slice none 0 0)).toArray 43)).heap[v3.heap.size]? = some (.cells (tsc s h (.slice (some ⟨goi, 0, none⟩) 0 (2 * h).toNat) (.slice (some ⟨got, 0, none⟩) 0 (2 * h).toNat) (.slice none 0 0)).toArray 43 (0, 0)) := heap_alloc_new v3 _
      have oz := own_kept oiv3 qz (by simp)
      have pz := own_kept otv3 qz (by simp)
      have Gz : w.grownBy _ none := grown_trans Gv3 qz
      have Sz : (fun w' : World => w'.heap[w.heap.size]? = some (.cells (ic s).toArray 25 (0, 0))) _ := keep_blk qz Sv3 (by simp)
      have lz := Gv3.size
      generalize (v3.alloc (.cells (tsc s h (.slice (some ⟨goi, 0, none⟩) 0 (2 * h).toNat) (.slice (some ⟨got, 0, none⟩) 0 (2 * h).toNat) (.slice none 0 0)).toArray 43)) = uz at *
      generalize v3.heap.size = pb at *
      simp only [Act.put, List.setIfInBounds_toArray, List.set_cons_zero, List.set_cons_succ]
      refine any_take 11 (some 4) (.pointer (some ⟨pb, 0, none⟩)) rfl rfl (by kernel_rfl) (by kernel_rfl) (by kernel_rfl) (fun _ _ _ h => h) (.inl ⟨by kernel_rfl, fun _ _ => by kernel_rfl⟩) (by assumption) ?_
      simp only [Act.put, List.setIfInBounds_toArray, List.set_cons_zero, List.set_cons_succ]
      refine wpAnyH_done (by kernel_rfl) ?_ _
      go_wp2_with fail
      refine bodyPost_ret (v := .pointer (some ⟨pb, 0, none⟩)) (by kernel_rfl) rfl ⟨pb, _, _, rfl, lz, xz, oz, pz, Gz⟩
    · refine op_val 6 (some 20) (.slice (some ⟨v1.heap.size, 0, none⟩) 0 (2 * h).toNat) _ rfl rfl (by kernel_rfl) (exec_make0 (t := 27) Ybaf.underlying27 info25 (by omega) (.tmp 19) rfl (2 * h) (by omega) (by omega) (by kernel_rfl)) ?_
      have qv2 : v1.grownBy _ none := World.grownBy_alloc v1 (.cells (madeCells (Value.agg (ab fun _ => 0).toArray).cells ((2 * h).toNat * 20)) 25) none
      have oiv2 := own_made0 (base := w.heap.size) v1 25 20 (Value.agg (ab fun _ => 0).toArray).cells (2 * h).toNat (by unfold maxLen; omega) Gv1.size
      have otv2 := own_kept otv1 qv2 (by simp)
      have Sv2 : (fun w' : World => w'.heap[w.heap.size]? = some (.cells (ic s).toArray 25 (0, 0))) _ := keep_blk qv2 Sv1 (by simp)
      have Gv2 : w.grownBy _ none := grown_trans Gv1 qv2
      refine ⟨Sv2, ?_⟩
      generalize (v1.alloc (.cells (madeCells (Value.agg (ab fun _ => 0).toArray).cells ((2 * h).toNat * 20)) 25)) = v2 at *
      generalize v1.heap.size = goi at *
      simp only [Act.put, List.setIfInBounds_toArray, List.set_cons_zero, List.set_cons_succ]
      refine wpAnyH_all (rs := [2]) (by kernel_rfl) (by simp) (fun k hk => ?_)
      obtain rfl : k = 2 := by simpa using hk
      clear hk
      refine op_call 2 (some 16) 16 #[.agg (ic s).toArray] rfl rfl (by kernel_rfl) (by kernel_rfl) ((num_un (byt_cf hs) _).mono ?_)
      rintro e v3 ⟨rfl, qv3⟩
      have Sv3 : (fun w' : World => w'.heap[w.heap.size]? = some (.cells (ic s).toArray 25 (0, 0))) v3 := keep_blk qv3 Sv2 (by simp)
      have Gv3 : w.grownBy v3 none := grown_trans Gv2 qv3
      have otv3 := own_kept otv2 qv3 (by simp)
      have oiv3 := own_kept oiv2 qv3 (by simp)
      refine ⟨_, rfl, Sv3, ?_⟩
      simp only [Act.put, List.setIfInBounds_toArray, List.set_cons_zero, List.set_cons_succ]
      refine any_take 9 (some 23) (.agg (tsc s h (.slice (some ⟨goi, 0, none⟩) 0 (2 * h).toNat) (.slice (some ⟨got, 0, none⟩) 0 (2 * h).toNat) (.slice none 0 0)).toArray) rfl rfl (by kernel_rfl) (by kernel_rfl) (by kernel_rfl) (fun _ _ _ h => h) (.inl ⟨by kernel_rfl, fun _ _ => by kernel_rfl⟩) (by assumption) ?_
      simp only [Act.put, List.setIfInBounds_toArray, List.set_cons_zero, List.set_cons_succ]
      refine any_one 10 (some 24) (.pointer (some ⟨v3.heap.size, 0, none⟩)) (v3.alloc (.cells (tsc s h (.slice (some ⟨goi, 0, none⟩) 0 (2 * h).toNat) (.slice (some ⟨got, 0, none⟩) 0 (2 * h).toNat) (.slice none 0 0)).toArray 43)) rfl rfl (by kernel_rfl) (by kernel_rfl) (by kernel_rfl) (keep_blk (World.grownBy_alloc v3 _ none) Sv3 (by simp)) ?_
      have qz : v3.grownBy _ none := World.grownBy_alloc v3 (.cells (tsc s h (.slice (some ⟨goi, 0, none⟩) 0 (2 * h).toNat) (.slice (some ⟨got, 0, none⟩) 0 (2 * h).toNat) (.slice none 0 0)).toArray 43) none
      have xz : (v3.alloc (.cells (tsc s h (.slice (some ⟨goi, 0, none⟩) 0 (2 * h).toNat) (.slice (some ⟨got, 0, none⟩) 0 (2 * h).toNat) (.slice none 0 0)).toArray 43)).heap[v3.heap.size]? = some (.cells (tsc s h (.slice (some ⟨goi, 0, none⟩) 0 (2 * h).toNat) (.slice (some ⟨got, 0, none⟩) 0 (2 * h).toNat) (.slice none 0 0)).toArray 43 (0, 0)) := heap_alloc_new v3 _
      have oz := own_kept oiv3 qz (by simp)
      have pz := own_kept otv3 qz (by simp)
      have Gz : w.grownBy _ none := grown_trans Gv3 qz
      have Sz : (fun w' : World => w'.heap[w.heap.size]? = some (.cells (ic s).toArray 25 (0, 0))) _ := keep_blk qz Sv3 (by simp)
      have lz := Gv3.size
      generalize (v3.alloc (.cells (tsc s h (.slice (some ⟨goi, 0, none⟩) 0 (2 * h).toNat) (.slice (some ⟨got, 0, none⟩) 0 (2 * h).toNat) (.slice none 0 0)).toArray 43)) = uz at *
      generalize v3.heap.size = pb at *
      simp only [Act.put, List.setIfInBounds_toArray, List.set_cons_zero, List.set_cons_succ]
      refine any_take 11 (some 4) (.pointer (some ⟨pb, 0, none⟩)) rfl rfl (by kernel_rfl) (by kernel_rfl) (by kernel_rfl) (fun _ _ _ h => h) (.inl ⟨by kernel_rfl, fun _ _ => by kernel_rfl⟩) (by assumption) ?_
      simp only [Act.put, List.setIfInBounds_toArray, List.set_cons_zero, List.set_cons_succ]
      refine wpAnyH_done (by kernel_rfl) ?_ _
      go_wp2_with fail
      refine bodyPost_ret (v := .pointer (some ⟨pb, 0, none⟩)) (by kernel_rfl) rfl ⟨pb, _, _, rfl, lz, xz, oz, pz, Gz⟩
end Go.Proofs.YbulkdspqFmt
