/-
  LawS5970CWhole: bytes.Compare (14) at two identifiers; the order by clockwise distance (6).
-/
import Derived.Test.YbulkdspqFmtCEq
import Derived.Lib.BytesEntry
namespace Go.Proofs.YbulkdspqFmt
open Go.RowKit
set_option linter.unusedSimpArgs false
set_option linter.unusedVariables false

/-- The k lowest bytes, highest first. -/
def lowl (f : Nat → Int) (k : Nat) : List Int := (List.range' (20 - k) k).map f
theorem lowl_succ (f : Nat → Int) (k : Nat) (hk : k < 20) : lowl f (k + 1) = f (19 - k) :: lowl f k := by
  unfold lowl
  rw [List.range'_succ, List.map_cons, show 20 - (k + 1) = 19 - k by omega, show 19 - k + 1 = 20 - k by omega]
theorem cmp_low {f g : Nat → Int} (hf : Byt f) (hg : Byt g) : ∀ k, k ≤ 20 → Lib.compareBytes (Lib.bytesOf (lowl f k)) (Lib.bytesOf (lowl g k)) = cmpI (lowv f k) (lowv g k)
  | 0, _ => by simp [lowl, Lib.bytesOf, Lib.compareBytes, lowv, cmpI]
  | k + 1, hk => by
    have ih := cmp_low hf hg k (by omega)
    have b1 := lowv_bd hf k (by omega)
    have b2 := lowv_bd hg k (by omega)
    have x := hf (19 - k) (by omega)
    have y := hg (19 - k) (by omega)
    have hp := pow_pos' k
    rw [lowl_succ f k (by omega), lowl_succ g k (by omega)]
    unfold Lib.bytesOf
    rw [List.map_cons, List.map_cons, Lib.compareBytes]
    change (if UInt8.ofNat (f (19 - k)).toNat < UInt8.ofNat (g (19 - k)).toNat then -1 else if UInt8.ofNat (g (19 - k)).toNat < UInt8.ofNat (f (19 - k)).toNat then 1 else Lib.compareBytes (Lib.bytesOf (lowl f k)) (Lib.bytesOf (lowl g k))) = _
    rw [ih, lowv, lowv]
    have e1 : (UInt8.ofNat (f (19 - k)).toNat < UInt8.ofNat (g (19 - k)).toNat) ↔ f (19 - k) < g (19 - k) := by
      rw [UInt8.lt_iff_toNat_lt, UInt8.toNat_ofNat', UInt8.toNat_ofNat', Nat.mod_eq_of_lt (by omega), Nat.mod_eq_of_lt (by omega)]
      omega
    have e2 : (UInt8.ofNat (g (19 - k)).toNat < UInt8.ofNat (f (19 - k)).toNat) ↔ g (19 - k) < f (19 - k) := by
      rw [UInt8.lt_iff_toNat_lt, UInt8.toNat_ofNat', UInt8.toNat_ofNat', Nat.mod_eq_of_lt (by omega), Nat.mod_eq_of_lt (by omega)]
      omega
    simp only [e1, e2]
    rcases Int.lt_trichotomy (f (19 - k)) (g (19 - k)) with h | h | h
    · have := Int.mul_le_mul_of_nonneg_right (show f (19 - k) + 1 ≤ g (19 - k) by omega) (show (0 : Int) ≤ 256 ^ k by omega)
      rw [Int.add_mul, Int.one_mul] at this
      rw [if_pos h, cmpI_lt (by omega)]
    · rw [h, if_neg (by omega), if_neg (by omega)]
      unfold cmpI
      congr 1
      · exact propext ⟨fun _ => by omega, fun _ => by omega⟩
      · congr 1
        exact propext ⟨fun _ => by omega, fun _ => by omega⟩
    · have := Int.mul_le_mul_of_nonneg_right (show g (19 - k) + 1 ≤ f (19 - k) by omega) (show (0 : Int) ≤ 256 ^ k by omega)
      rw [Int.add_mul, Int.one_mul] at this
      rw [if_neg (by omega), if_pos h, cmpI_gt (by omega)]
theorem lowl_get (f : Nat → Int) (j : Nat) (x : Int) (h : (lowl f 20)[j]? = some x) : j < 20 ∧ x = f j := by
  unfold lowl at h
  have hj : j < 20 := by
    have := (List.getElem?_eq_some_iff.1 h).1
    simpa using this
  refine ⟨hj, ?_⟩
  simp [List.getElem?_map, List.getElem?_range' hj] at h
  simpa using h.symm
theorem bytes_of {w : World} {b : Nat} {f : Nat → Int} (hb : w.heap[b]? = some (.cells (ab f).toArray 25 (0, 0))) : (Extern.Bytes.bytesOf (.slice (some ⟨b, 0, none⟩) 20 20)).run Ybaf.prog w = .ok ⟨(Lib.bytesOf (lowl f 20)).toArray⟩ w := by
  have hl := Lib.run_loadBytesX (P := Ybaf.prog) w (lowl f 20) ⟨b, 0, none⟩ .empty (fun j x hj => by
    obtain ⟨h1, rfl⟩ := lowl_get f j x hj
    have := range_of_blk hb j _ (ab_get f j h1)
    rw [Addr.add_mid]
    simpa using this)
  have he : (⟨ByteArray.empty.data ++ (Lib.bytesOf (lowl f 20)).toArray⟩ : ByteArray) = ⟨(Lib.bytesOf (lowl f 20)).toArray⟩ := by
    apply ByteArray.ext
    show (#[] : Array UInt8) ++ _ = _
    simp
  rw [he] at hl
  exact hl
theorem run19 {w : World} {b1 b2 : Nat} {f g : Nat → Int} (hf : Byt f) (hg : Byt g) (h1 : w.heap[b1]? = some (.cells (ab f).toArray 25 (0, 0))) (h2 : w.heap[b2]? = some (.cells (ab g).toArray 25 (0, 0))) :
    (callFunc 19 #[.slice (some ⟨b1, 0, none⟩) 20 20, .slice (some ⟨b2, 0, none⟩) 20 20]).run Ybaf.prog w = .ok (.value (.int .i64 (cmpI (nm f) (nm g)))) w := by
  rw [run_callFunc_extern Ybaf.func19 (by kernel_rfl) (by kernel_rfl) (by kernel_rfl) (e := Extern.BytealgCompare.compare) (by kernel_rfl)]
  change (Sem.run Ybaf.prog (do pure (goInt (Extern.BytealgCompare.cmp (← Extern.Bytes.bytesOf (.slice (some ⟨b1, 0, none⟩) 20 20)) (← Extern.Bytes.bytesOf (.slice (some ⟨b2, 0, none⟩) 20 20))))) w).andThen _ = _
  simp only [Sem.run_bind, bytes_of h1, bytes_of h2, Sem.run_pure, Result.andThen, Lib.cmp_eq]
  rw [cmp_low hf hg 20 (Nat.le_refl _)]
  rfl
set_option maxRecDepth 100000 in
theorem cmp14 {w : World} {b1 b2 : Nat} {f g : Nat → Int} (hf : Byt f) (hg : Byt g) (h1 : w.heap[b1]? = some (.cells (ab f).toArray 25 (0, 0))) (h2 : w.heap[b2]? = some (.cells (ab g).toArray 25 (0, 0))) :
    Calls Ybaf.prog 14 #[.slice (some ⟨b1, 0, none⟩) 20 20, .slice (some ⟨b2, 0, none⟩) 20 20] w fun e w' => e = .returned (.int .i64 (cmpI (nm f) (nm g))) ∧ w = w' := by
  have hr := run19 hf hg h1 h2
  go_enter Ybaf.func14, Ybaf.ntmps14
  go_wp2_with fail
  refine bodyPost_ret (by kernel_rfl) rfl ⟨rfl, rfl⟩
/-- The clockwise distance from s to a. -/
def ds (s a : Nat → Int) : Int := (nm a - nm s) % MM
theorem ds_bd (s a : Nat → Int) : 0 ≤ ds s a ∧ ds s a < MM := ⟨Int.emod_nonneg _ (by decide), Int.emod_lt_of_pos _ (by decide)⟩
theorem ds_dg {s a : Nat → Int} (hs : Byt s) (ha : Byt a) : nm (dg a s) = ds s a := by
  rw [nm_dg ha hs]
  rfl
theorem byt_dg {s a : Nat → Int} (hs : Byt s) (ha : Byt a) : Byt (dg a s) := fun i hi => dg_bd ha hs hi
theorem exec_lss {a : Act} {o : Oper} {w : World} (x : Operand) (ho : o.op = .binOp .lss 3 x (.const (.int .i64 0)) 3) (p q : Int) (hx : a.eval x = .int .i64 (cmpI p q)) : (execOp a.eval o).run Ybaf.prog w = .ok (.value (.bool (decide (p < q)))) w := by
  have e : a.eval (.const (.int .i64 0)) = .int .i64 0 := rfl
  have hd : decide (cmpI p q < 0) = decide (p < q) := by
    apply decide_eq_decide.2
    unfold cmpI
    split
    · simp_all
    · split <;> simp_all
  unfold execOp
  simp only [ho, hx, e]
  simp [binOp, eqGuard, Result.andThen, go_sem, Ybaf.underlying3]
  simpa using hd

set_option maxRecDepth 100000 in
set_option maxHeartbeats 1000000 in
theorem less_any {a b s : Nat → Int} (ha : Byt a) (hb : Byt b) (hs : Byt s) (w : World) : Calls Ybaf.prog 6 #[.agg (ab a).toArray, .agg (ab b).toArray, .agg (ab s).toArray] w fun e w' => e = .returned (.bool (decide (ds s a < ds s b))) ∧ w.grownBy w' none := by
  go_enter Ybaf.func6, Ybaf.ntmps6
  go_upto_region 1 with (first
    | (refine wpList_is (.box 25 (.tmp 0)) rfl ?_; refine wpList_box25 rfl (.tmp 0) rfl a rfl ?_)
    | (refine wpList_is (.box 25 (.tmp 1)) rfl ?_; refine wpList_box25 rfl (.tmp 1) rfl b rfl ?_)
    | (refine wpList_is (.box 25 (.tmp 2)) rfl ?_; refine wpList_box25 rfl (.tmp 2) rfl s rfl ?_))
  obtain ⟨u, hu⟩ : ∃ u, u = ((w.alloc (.cells (ab a).toArray 25)).alloc (.cells (ab b).toArray 25)).alloc (.cells (ab s).toArray 25) := ⟨_, rfl⟩
  have x1 : u.heap[w.heap.size]? = some (.cells (ab a).toArray 25 (0, 0)) := by rw [hu]; exact blk_alloc (blk_alloc (heap_alloc_new w _) _) _
  have x2 : u.heap[w.heap.size + 1]? = some (.cells (ab b).toArray 25 (0, 0)) := by rw [hu]; exact blk_alloc (blk_new _ _ _ _ (by simp)) _
  have x3 : u.heap[w.heap.size + 2]? = some (.cells (ab s).toArray 25 (0, 0)) := by rw [hu]; exact blk_new _ _ _ _ (by simp)
  have g0 : w.grownBy u none := by rw [hu]; exact grown_trans (World.grownBy_alloc _ _ none) (grown_trans (World.grownBy_alloc _ _ none) (World.grownBy_alloc _ _ none))
  have sz1 : (w.alloc (.cells (ab a).toArray 25)).heap.size = w.heap.size + 1 := by simp
  have sz2 : ((w.alloc (.cells (ab a).toArray 25)).alloc (.cells (ab b).toArray 25)).heap.size = w.heap.size + 2 := by simp
  rw [← hu]
  try simp only [sz1, sz2]
  clear hu sz1 sz2
  go_wp2_with (first
    | (refine wpList_is (.load 25 (.tmp 3)) rfl ?_; refine wpList_load_blk rfl 25 (.tmp 3) rfl w.heap.size rfl (ab a) 25 x1 _ Ybaf.underlying25 rfl (size25 _) ?_)
    | (refine wpList_is (.load 25 (.tmp 5)) rfl ?_; refine wpList_load_blk rfl 25 (.tmp 5) rfl (w.heap.size + 2) rfl (ab s) 25 x3 _ Ybaf.underlying25 rfl (size25 _) ?_))
  refine (dist_any ha hs _).mono ?_
  rintro e u1 ⟨rfl, q1⟩
  go_wp2_with (first
    | (refine wpList_is (.alloc 25) rfl ?_; refine wpList_alloc25 rfl rfl ?_)
    | (refine wpList_is (.store 25 (.tmp 7) (.tmp 11)) rfl ?_; refine wpList_store_blk rfl 25 (.tmp 7) (.tmp 11) rfl u1.heap.size (ab (dg a s)) rfl rfl _ _ (heap_alloc_new u1 _) rfl (size25 _) (ab_one _) ?_; intro u2 y1 q2; have k2 : u1.grownBy u2 none := grown_new q2; have z2 := keep_blk k2 (keep_blk q1 x2 (by simp)) (by simp); have z3 := keep_blk k2 (keep_blk q1 x3 (by simp)) (by simp); clear q2)
    | (refine wpList_is (.load 25 (.tmp 4)) rfl ?_; refine wpList_load_blk rfl 25 (.tmp 4) rfl (w.heap.size + 1) rfl (ab b) 25 z2 _ Ybaf.underlying25 rfl (size25 _) ?_)
    | (refine wpList_is (.load 25 (.tmp 5)) rfl ?_; refine wpList_load_blk rfl 25 (.tmp 5) rfl (w.heap.size + 2) rfl (ab s) 25 z3 _ Ybaf.underlying25 rfl (size25 _) ?_))
  refine (dist_any hb hs _).mono ?_
  rintro e u3 ⟨rfl, q3⟩
  go_upto_region 3 with (first
    | (refine wpList_is (.alloc 25) rfl ?_; refine wpList_alloc25 rfl rfl ?_)
    | (refine wpList_is (.store 25 (.tmp 8) (.tmp 14)) rfl ?_; refine wpList_store_blk rfl 25 (.tmp 8) (.tmp 14) rfl u3.heap.size (ab (dg b s)) rfl rfl _ _ (heap_alloc_new u3 _) rfl (size25 _) (ab_one _) ?_; intro u4 y2 q4; have k4 : u3.grownBy u4 none := grown_new q4; have y3 := keep_blk k4 (keep_blk q3 y1 (by simp)) (by simp); clear q4))
  refine wp_region_held (S := fun w' : World => w'.heap[u1.heap.size]? = some (.cells (ab (dg a s)).toArray 25 (0, 0)) ∧ w'.heap[u3.heap.size]? = some (.cells (ab (dg b s)).toArray 25 (0, 0))) (by kernel_rfl) ?_
  have hS : (fun w' : World => w'.heap[u1.heap.size]? = some (.cells (ab (dg a s)).toArray 25 (0, 0)) ∧ w'.heap[u3.heap.size]? = some (.cells (ab (dg b s)).toArray 25 (0, 0))) { u4 with drawn := u4.drawn + 1 } := ⟨y3, y2⟩
  have k5 : w.grownBy { u4 with drawn := u4.drawn + 1 } none := grown_trans g0 (grown_trans q1 (grown_trans k2 (grown_trans q3 (grown_trans k4 (grown_drew u4)))))
  clear y1 y2 y3
  generalize ({ u4 with drawn := u4.drawn + 1 } : World) = u5 at *
  refine any_take 0 (some 15) (.slice (some ⟨u1.heap.size, 0, none⟩) 20 20) rfl rfl (by kernel_rfl) (by kernel_rfl) (by kernel_rfl) (fun _ _ _ h => h) (.inl ⟨by kernel_rfl, fun _ _ => by kernel_rfl⟩) (by assumption) ?_
  simp only [Act.put, List.setIfInBounds_toArray, List.set_cons_zero, List.set_cons_succ]
  refine any_take 1 (some 16) (.slice (some ⟨u3.heap.size, 0, none⟩) 20 20) rfl rfl (by kernel_rfl) (by kernel_rfl) (by kernel_rfl) (fun _ _ _ h => h) (.inl ⟨by kernel_rfl, fun _ _ => by kernel_rfl⟩) (by assumption) ?_
  simp only [Act.put, List.setIfInBounds_toArray, List.set_cons_zero, List.set_cons_succ]
  refine any_call 2 (some 17) 14 #[.slice (some ⟨u1.heap.size, 0, none⟩) 20 20, .slice (some ⟨u3.heap.size, 0, none⟩) 20 20] rfl rfl (by kernel_rfl) (by kernel_rfl) (by kernel_rfl) ?_
  refine (cmp14 (byt_dg hs ha) (byt_dg hs hb) hS.1 hS.2).mono ?_
  rintro e u6 ⟨rfl, rfl⟩
  rw [ds_dg hs ha, ds_dg hs hb]
  refine ⟨_, rfl, hS, ?_⟩
  simp only [Act.put, List.setIfInBounds_toArray, List.set_cons_zero, List.set_cons_succ]
  refine any_take 3 (some 18) (.bool (decide (ds s a < ds s b))) rfl rfl (by kernel_rfl) (by kernel_rfl) (by kernel_rfl) (fun _ _ _ h => h) (.inl ⟨by kernel_rfl, fun _ _ => exec_lss (.tmp 17) rfl _ _ (by kernel_rfl)⟩) (by assumption) ?_
  simp only [Act.put, List.setIfInBounds_toArray, List.set_cons_zero, List.set_cons_succ]
  refine any_take 4 (some 6) (.bool (decide (ds s a < ds s b))) rfl rfl (by kernel_rfl) (by kernel_rfl) (by kernel_rfl) (fun _ _ _ h => h) (.inl ⟨by kernel_rfl, fun _ _ => by kernel_rfl⟩) (by assumption) ?_
  simp only [Act.put, List.setIfInBounds_toArray, List.set_cons_zero, List.set_cons_succ]
  refine wpAnyH_done (by kernel_rfl) ?_ _
  go_wp2_with fail
  refine bodyPost_ret (by kernel_rfl) rfl ⟨rfl, k5⟩
end Go.Proofs.YbulkdspqFmt
