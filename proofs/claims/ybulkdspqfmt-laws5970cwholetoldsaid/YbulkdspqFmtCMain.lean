/-
  LawS5970CWhole: the law itself.
-/
import Derived.Test.YbulkdspqFmtCT19
namespace Go.Proofs.YbulkdspqFmt
open Go.RowKit
set_option linter.unusedSimpArgs false
set_option linter.unusedVariables false

theorem exec_cv53 {a : Act} {o : Oper} {w : World} (x : Operand) (ho : o.op = .convert 5 3 x) (z : Int) (h0 : 0 ≤ z) (h1 : z < 256) (hx : a.eval x = .int .u8 z) : (execOp a.eval o).run Ybaf.prog w = .ok (.value (.int .i64 z)) w := by
  have hc : (convert 5 3 (.int .u8 z)).run Ybaf.prog w = .ok (.int .i64 (IntKind.i64.wrap z)) w := by kernel_rfl
  have hw : IntKind.i64.wrap z = z := by simp [IntKind.wrap, IntKind.signed, IntKind.bits]; omega
  rw [hw] at hc
  unfold execOp
  simp only [ho, hx, Sem.run_bind, hc, Result.andThen_ok, Sem.run_pure]
theorem own_lt {w : World} {b : Nat} {e : TypeId} {sz g n c m : Nat} {xs : List Value} (h : w.ownsRow b e sz (.slice (some ⟨g, 0, none⟩) n c) m xs) : some w.heap.size ≠ some g := by
  have := (own_base h (q := g) rfl).2
  intro e
  have := Option.some.inj e
  omega
/-- The members with one more, before it has found its place. -/
def ins (A : List Int) (j : Nat) (x : Int) : List Int := A.take j ++ x :: A.drop j
theorem ins_len (A : List Int) (j : Nat) (x : Int) : (ins A j x).length = A.length + 1 := by
  unfold ins
  rw [List.length_append, List.length_cons, List.length_take, List.length_drop]
  omega
theorem ins_last (A : List Int) (x : Int) : ins A A.length x = A ++ [x] := by simp [ins]
theorem ins_at {A : List Int} {j : Nat} {x : Int} (hj : j ≤ A.length) : (ins A j x)[j]? = some x := by
  unfold ins
  rw [List.getElem?_append_right (by rw [List.length_take]; omega), List.length_take, Nat.min_eq_left hj]
  simp
theorem ins_before {A : List Int} {j : Nat} {x a : Int} (hj : j < A.length) (ha : A[j]? = some a) : (ins A (j + 1) x)[j]? = some a := by
  unfold ins
  rw [List.getElem?_append_left (by rw [List.length_take]; omega), List.getElem?_take_of_lt (by omega)]
  exact ha
theorem ins_swap {A : List Int} {j : Nat} {x a : Int} (hj : j < A.length) (ha : A[j]? = some a) : ((ins A (j + 1) x).set (j + 1) a).set j x = ins A j x := by
  have e1 : A.take (j + 1) = A.take j ++ [a] := by rw [List.take_add_one, ha]; rfl
  have e2 : A.drop j = a :: A.drop (j + 1) := by
    rw [List.drop_eq_getElem_cons hj]
    congr 1
    rw [List.getElem?_eq_getElem hj] at ha
    exact Option.some.inj ha
  have hl : (A.take j).length = j := by rw [List.length_take]; omega
  unfold ins
  rw [e1, e2]
  simp [List.set_append, hl]
theorem ins_ord {s x : Int} {A : List Int} {j : Nat} (ho : Ord s A) (h1 : ∀ y ∈ A.take j, D s y < D s x) (h2 : ∀ y ∈ A.drop j, D s x < D s y) : Ord s (ins A j x) := by
  unfold Ord ins
  rw [List.pairwise_append]
  have ho' : (A.take j ++ A.drop j).Pairwise (fun a b => D s a < D s b) := by rw [List.take_append_drop]; exact ho
  rw [List.pairwise_append] at ho'
  refine ⟨ho'.1, List.pairwise_cons.2 ⟨h2, ho'.2.1⟩, fun a ha b hb => ?_⟩
  rcases List.mem_cons.1 hb with rfl | hb
  · exact h1 a ha
  · exact ho'.2.2 a ha b hb
theorem mem_ins {A : List Int} {j : Nat} {x y : Int} (h : y ∈ ins A j x) : y = x ∨ y ∈ A := by
  unfold ins at h
  rcases List.mem_append.1 h with h | h
  · exact .inr (List.mem_of_mem_take h)
  · rcases List.mem_cons.1 h with h | h
    · exact .inl h
    · exact .inr (List.mem_of_mem_drop h)

attribute [local irreducible] wpList in
set_option maxRecDepth 1000000 in
set_option maxHeartbeats 16000000 in
theorem main_any (w : World) (s hf su ss al0 asl : Int) (a2 a3 : Option Addr) (n2 c2 n3 c3 : Nat) (ms rs : List Int) (m2 : n2 ≤ 140737488351232) (m3 : n3 ≤ 140737488351232) (l2 : ms.length = n2) (l3 : rs.length = n3) (r2 : Rdu w a2 ms) (r3 : Rdu w a3 rs) (f2 : ∀ y ∈ ms, Sm y) (f3 : ∀ y ∈ rs, Sm y) (hs : Sm s) (hhf : 0 ≤ hf ∧ hf < 256) (hsu : Sm su) (hss : 0 ≤ ss ∧ ss < 256) (hal0 : Sm al0) (has : 0 ≤ asl ∧ asl < 256) :
    Calls Ybaf.prog 3 #[.int .u16 s, .int .u8 hf, .slice a2 n2 c2, .slice a3 n3 c3, .int .u16 su, .int .u8 ss, .int .u16 al0, .int .u8 asl] w fun e w' => e = .returned (.bool true) ∧ w.grownBy w' none := by
  obtain ⟨ti, hti, _, hts, _⟩ := info_parts info25
  go_enter Ybaf.func3, Ybaf.ntmps3
  by_cases hbig : 4096 < n2 + n3
  · have hb1 : (4096 : Int) < (n2 : Int) + (n3 : Int) := by omega
    go_wp2_with fail
    refine bodyPost_ret (v := .bool true) (by kernel_rfl) rfl ⟨rfl, World.grownBy.refl _ _⟩
  · have hb1 : ¬ (4096 : Int) < (n2 : Int) + (n3 : Int) := by omega
    have hn2 : n2 ≤ 4096 := by omega
    have hn3 : n3 ≤ 4096 := by omega
    go_wp2_with fail
    refine (cid_any s hs.1 hs.2 _).mono ?_
    rintro e u1 ⟨rfl, q1⟩
    have hr0 : 0 ≤ hf % 4 := by omega
    have hr1 : hf % 4 < 256 := by omega
    obtain ⟨h, eh⟩ : ∃ h, h = 1 + hf % 4 := ⟨_, rfl⟩
    have hh : 1 ≤ h := by omega
    have hh4 : h ≤ 4 := by omega
    have heh : 1 + hf % 4 = h := eh.symm
    have HE : Aside (1 + hf % 4 = h) := heh
    clear eh heh
    go_wp2_with (first
      | (refine wpList_is (.alloc 25) rfl ?_; refine wpList_alloc25 rfl rfl ?_)
      | (refine wpList_is (.store 25 (.tmp 17) (.tmp 60)) rfl ?_; refine wpList_store_blk rfl 25 (.tmp 17) (.tmp 60) rfl u1.heap.size (ic s) rfl rfl _ _ (heap_alloc_new u1 _) rfl (size25 _) (ic_one _) ?_; intro wx x17 q2; have k2 : u1.grownBy wx none := grown_new q2; clear q2)
      | (refine wpList_is (.binOp .rem 5 (.tmp 61) (.const (.int .u8 4)) 5) rfl ?_; refine wpList_exec rfl _ (exec_rem5 (.tmp 61) 4 rfl hf hhf.1 (.inr (.inr rfl)) rfl hhf.2) ?_)
      | (refine wpList_is (.convert 5 3 (.tmp 62)) rfl ?_; refine wpList_exec rfl _ (exec_cv53 (.tmp 62) rfl (hf % 4) hr0 hr1 rfl) ?_)
      | (refine wpList_is (.binOp .add 3 (.const (.int .i64 1)) (.tmp 63) 3) rfl ?_; refine wpList_exec rfl (.int .i64 h) (HE.out ▸ exec_add3 (.const (.int .i64 1)) (.tmp 63) rfl 1 (hf % 4) (by omega) (by omega) rfl rfl) ?_))
    have gx : w.grownBy wx none := grown_trans q1 k2
    obtain ⟨b17, eb⟩ : ∃ b, b = u1.heap.size := ⟨_, rfl⟩
    rw [← eb] at x17 ⊢
    clear eb q1 k2 HE hr0 hr1
    go_loopg [19, 67] n2 (fun g v19 v67 wr => ∃ (i : Nat) (ids : List Int), i + g = n2 ∧ v67 = .int .i64 i ∧ wr.ownsRow 0 25 20 v19 ids.length (ids.flatMap ic) ∧ Aside (∀ q, v19.ownBlock = some q → wx.heap.size ≤ q) ∧ wx.grownBy wr none ∧ Aside (Ord s ids ∧ (∀ y ∈ ids, Sm y ∧ y ≠ s) ∧ ids.length ≤ i))
    case atStart => exact ⟨0, [], by omega, rfl, own_nil _ _ _, (fun q hq => by simp [Value.ownBlock] at hq), World.grownBy.refl _ none, ⟨List.Pairwise.nil, fun y hy => (by cases hy), Nat.le_refl _⟩⟩
    case round =>
      obtain ⟨i, ids, hi, rfl, ow, F, gr, O⟩ := hrel
      by_cases hin : i < n2
      · obtain ⟨x, hx⟩ : ∃ x, ms[i]? = some x := ⟨_, List.getElem?_eq_getElem (by omega)⟩
        have hsx := f2 x (List.mem_of_getElem? hx)
        obtain ⟨b, o, rfl, hb, hc0⟩ := r2 i x hx
        have hin' : (i : Int) < (n2 : Int) := by omega
        have hc : wr.cell? ⟨b, o + i, none⟩ = some (.int .u16 x) := by
          simp only [World.cell?] at hc0 ⊢
          rw [(grown_trans gx gr).block b hb (by simp)]
          exact hc0
        have hil : ids.length ≤ 4096 := by have := O.out.2.2; omega
        go_wp2_with fail
        refine (cid_any x hsx.1 hsx.2 _).mono ?_
        rintro e u2 ⟨rfl, q2⟩
        clear hc
        go_upto_region 10 with (first
          | (refine wpList_is (.alloc 25) rfl ?_; refine wpList_alloc25 rfl rfl ?_)
          | (refine wpList_is (.store 25 (.tmp 22) (.tmp 72)) rfl ?_; refine wpList_store_blk rfl 25 (.tmp 22) (.tmp 72) rfl u2.heap.size (ic x) rfl rfl _ _ (heap_alloc_new u2 _) rfl (size25 _) (ic_one _) ?_; intro u3 x22 q3; have k3 : u2.grownBy u3 none := grown_new q3; clear q3))
        have g3 := grown_trans gr (grown_trans q2 k3)
        have ow3 := own_kept ow (grown_trans q2 k3) (by simp)
        have z17 := keep_blk g3 x17 (by simp)
        obtain ⟨b22, eb⟩ : ∃ b, b = u2.heap.size := ⟨_, rfl⟩
        rw [← eb] at x22 ⊢
        clear eb ow gr q2 k3
        by_cases hxs : x = s
        · have hde : decide (nm (cf x) = nm (cf s)) = true := by simp [hxs]
          clear hxs
          go_wp2_with (first
            | (refine wpList_isD 73 (.load 25 (.tmp 22)) rfl rfl ?_; refine wpList_valG (by kernel_rfl) (.agg (ic x).toArray) (exec_load_row 25 (.tmp 22) rfl b22 0 (by kernel_rfl) (ic x) _ (range_of_blk x22) Ybaf.underlying25 rfl (size25 _)) ?_; simp only [Act.put, List.setIfInBounds_toArray, List.set_cons_zero, List.set_cons_succ])
            | (refine wpList_isD 74 (.load 25 (.tmp 17)) rfl rfl ?_; refine wpList_valG (by kernel_rfl) (.agg (ic s).toArray) (exec_load_row 25 (.tmp 17) rfl b17 0 (by kernel_rfl) (ic s) _ (range_of_blk z17) Ybaf.underlying25 rfl (size25 _)) ?_; simp only [Act.put, List.setIfInBounds_toArray, List.set_cons_zero, List.set_cons_succ])
            | (refine wpList_isD 75 (.binOp .eql 25 (.tmp 73) (.tmp 74) 25) rfl rfl ?_; refine wpList_valG (by kernel_rfl) (.bool true) (hde ▸ exec_eql25 (.tmp 73) (.tmp 74) rfl (p := cf x) (q := cf s) (byt_cf hsx) (byt_cf hs) (by kernel_rfl) (by kernel_rfl)) ?_; simp only [Act.put, List.setIfInBounds_toArray, List.set_cons_zero, List.set_cons_succ])
            | (refine wpList_isD 76 (.move (.tmp 75)) rfl rfl ?_; refine wpList_valG (by kernel_rfl) (.bool true) (by kernel_rfl) ?_; simp only [Act.put, List.setIfInBounds_toArray, List.set_cons_zero, List.set_cons_succ])
            | (refine wpList_isD 77 (.move (.tmp 19)) rfl rfl ?_; refine wpList_skipG (by kernel_rfl) ?_; simp only [Act.put, List.setIfInBounds_toArray, List.set_cons_zero, List.set_cons_succ])
            | (refine wpList_isD 78 (.load 25 (.tmp 22)) rfl rfl ?_; refine wpList_skipG (by kernel_rfl) ?_; simp only [Act.put, List.setIfInBounds_toArray, List.set_cons_zero, List.set_cons_succ])
            | (refine wpList_isD 79 (.call { callee := .value (.func 5), args := #[.tmp 77, .tmp 78], argTypes := #[27, 25] }) rfl rfl ?_; refine wpList_skipG (by kernel_rfl) ?_; simp only [Act.put, List.setIfInBounds_toArray, List.set_cons_zero, List.set_cons_succ])
            | (refine wpList_isD 80 (.pick (.tmp 76) (.const (.bool true)) (.tmp 79)) rfl rfl ?_; refine wpList_valG (by kernel_rfl) (.bool true) (by kernel_rfl) ?_; simp only [Act.put, List.setIfInBounds_toArray, List.set_cons_zero, List.set_cons_succ]))
          go_roundg (n2 - (i + 1))
          case measure => omega
          case rel => exact ⟨i + 1, ids, by omega, by go_num, ow3, F.out, g3, ⟨O.out.1, O.out.2.1, by have := O.out.2.2; omega⟩⟩
        · have hde : decide (nm (cf x) = nm (cf s)) = false := by simp [nm_cf hsx hs, hxs]
          have HX : Aside (x ≠ s) := hxs
          clear hxs
          go_wp2_with (first
            | (refine wpList_isD 73 (.load 25 (.tmp 22)) rfl rfl ?_; refine wpList_valG (by kernel_rfl) (.agg (ic x).toArray) (exec_load_row 25 (.tmp 22) rfl b22 0 (by kernel_rfl) (ic x) _ (range_of_blk x22) Ybaf.underlying25 rfl (size25 _)) ?_; simp only [Act.put, List.setIfInBounds_toArray, List.set_cons_zero, List.set_cons_succ])
            | (refine wpList_isD 74 (.load 25 (.tmp 17)) rfl rfl ?_; refine wpList_valG (by kernel_rfl) (.agg (ic s).toArray) (exec_load_row 25 (.tmp 17) rfl b17 0 (by kernel_rfl) (ic s) _ (range_of_blk z17) Ybaf.underlying25 rfl (size25 _)) ?_; simp only [Act.put, List.setIfInBounds_toArray, List.set_cons_zero, List.set_cons_succ])
            | (refine wpList_isD 75 (.binOp .eql 25 (.tmp 73) (.tmp 74) 25) rfl rfl ?_; refine wpList_valG (by kernel_rfl) (.bool false) (hde ▸ exec_eql25 (.tmp 73) (.tmp 74) rfl (p := cf x) (q := cf s) (byt_cf hsx) (byt_cf hs) (by kernel_rfl) (by kernel_rfl)) ?_; simp only [Act.put, List.setIfInBounds_toArray, List.set_cons_zero, List.set_cons_succ])
            | (refine wpList_isD 76 (.move (.tmp 75)) rfl rfl ?_; refine wpList_valG (by kernel_rfl) (.bool false) (by kernel_rfl) ?_; simp only [Act.put, List.setIfInBounds_toArray, List.set_cons_zero, List.set_cons_succ])
            | (refine wpList_isD 77 (.move (.tmp 19)) rfl rfl ?_; refine wpList_valG (by kernel_rfl) (u19) (by kernel_rfl) ?_; simp only [Act.put, List.setIfInBounds_toArray, List.set_cons_zero, List.set_cons_succ])
            | (refine wpList_isD 78 (.load 25 (.tmp 22)) rfl rfl ?_; refine wpList_valG (by kernel_rfl) (.agg (ic x).toArray) (exec_load_row 25 (.tmp 22) rfl b22 0 (by kernel_rfl) (ic x) _ (range_of_blk x22) Ybaf.underlying25 rfl (size25 _)) ?_; simp only [Act.put, List.setIfInBounds_toArray, List.set_cons_zero, List.set_cons_succ])
            | (refine wpList_is (.call { callee := .value (.func 5), args := #[.tmp 77, .tmp 78], argTypes := #[27, 25] }) rfl ?_; refine wpList_callG (by kernel_rfl) 5 #[u19, .agg (ic x).toArray] (by kernel_rfl) ?_))
          refine (cont5 hsx (fun y hy => (O.out.2.1 y hy).1) (by omega) ow3).mono ?_
          rintro e u4 ⟨rfl, q4⟩
          refine ⟨_, rfl, ?_⟩
          try simp only [Act.put, List.setIfInBounds_toArray, List.set_cons_zero, List.set_cons_succ]
          have g4 := grown_trans g3 q4
          have ow4 := own_kept ow3 q4 (by simp)
          have z22 := keep_blk q4 x22 (by simp)
          clear ow3 g3 q4 x22 z17 hde
          by_cases hm : x ∈ ids
          · have hmd : decide (x ∈ ids) = true := by simp [hm]
            rw [hmd]
            clear hm hmd
            go_wp2_with (refine wpList_isD 80 (.pick (.tmp 76) (.const (.bool true)) (.tmp 79)) rfl rfl ?_; refine wpList_valG (by kernel_rfl) (.bool true) (by kernel_rfl) ?_; simp only [Act.put, List.setIfInBounds_toArray, List.set_cons_zero, List.set_cons_succ])
            go_roundg (n2 - (i + 1))
            case measure => omega
            case rel => exact ⟨i + 1, ids, by omega, by go_num, ow4, F.out, g4, ⟨O.out.1, O.out.2.1, by have := O.out.2.2; omega⟩⟩
          · have hmd : decide (x ∈ ids) = false := by simp [hm]
            have HM : Aside (¬ x ∈ ids) := hm
            rw [hmd]
            clear hm hmd
            have ga : u4.grownBy (u4.alloc (.cells (ic x).toArray 25)) none := World.grownBy_alloc _ _ none
            have ow5 := own_kept ow4 ga (by simp)
            have ob := own_bs27 x u4
            have g5 := grown_trans g4 ga
            have hsz : u4.heap.size ≤ (u4.alloc (.cells (ic x).toArray 25)).heap.size := by simp
            have hs1 := g4.size
            go_upto_region 12 with (first
              | (refine wpList_isD 80 (.pick (.tmp 76) (.const (.bool true)) (.tmp 79)) rfl rfl ?_; refine wpList_valG (by kernel_rfl) (.bool false) (by kernel_rfl) ?_; simp only [Act.put, List.setIfInBounds_toArray, List.set_cons_zero, List.set_cons_succ])
              | (refine wpList_is (.load 25 (.tmp 22)) rfl ?_; refine wpList_load_blk rfl 25 (.tmp 22) rfl b22 rfl (ic x) 25 z22 _ Ybaf.underlying25 rfl (size25 _) ?_)
              | (refine wpList_is (.buildSlice 27 1 #[(0, .tmp 82)]) rfl ?_; refine wpList_exec rfl _ (exec_bs27 (.tmp 82) rfl x rfl) ?_)
              | (refine wpList_is (.call { callee := .builtin .append, args := #[.tmp 81, .tmp 83], argTypes := #[27, 27] }) rfl ?_; refine wpList_appR rfl Ybaf.underlying27 info25 rfl (by omega) (by omega) (.tmp 81) (.tmp 83) rfl u19 ids.length _ rfl ow5 _ 1 (ic x) rfl ob (ic_one x) (by omega) ?_; intro v' u6 o6 q6 hat))
            have F2 : Aside (∀ q, v'.ownBlock = some q → wx.heap.size ≤ q) := fun q hq => by
              rcases hat with h | h
              · exact F.out q (by rw [← h]; exact hq)
              · rw [h] at hq
                have := Option.some.inj hq
                omega
            have g6 := grow_own g5 q6 F.out
            have o7 : u6.ownsRow 0 25 20 v' (ids.length + 1) ((ins ids ids.length x).flatMap ic) := by rw [ins_last, List.flatMap_append]; simpa using o6
            clear o6 hat q6 ow4 ow5 ob ga g5 g4 hsz hs1 z22 F
            obtain ⟨ai, ci, evi, fi⟩ := own_form o7
            subst evi
            obtain ⟨gi, rfl⟩ := fi (by omega)
            obtain ⟨N, eN⟩ : ∃ N, N = ids.length + 1 := ⟨_, rfl⟩
            rw [← eN] at o7 ⊢
            have EN : Aside (N = ids.length + 1) := eN
            have hsb : (N : Int) - 1 = ((ids.length : Nat) : Int) := by omega
            have hNb : N ≤ 4097 := by omega
            clear eN fi
            go_wp2_with (refine wpList_is (.binOp .sub 3 (.tmp 86) (.const (.int .i64 1)) 3) rfl ?_; refine wpList_exec rfl (.int .i64 ((ids.length : Nat) : Int)) (hsb ▸ exec_sub3 (.tmp 86) (.const (.int .i64 1)) rfl (N : Int) 1 (by omega) (by omega) rfl rfl) ?_)
            clear hsb
            go_loopg [23] ids.length (fun g v23 wr => ∃ j : Nat, v23 = .int .i64 j ∧ Aside (j ≤ ids.length ∧ j ≤ g ∧ ∀ y ∈ ids.drop j, D s x < D s y) ∧ wr.ownsRow 0 25 20 (.slice (some ⟨gi, 0, none⟩) N ci) N ((ins ids j x).flatMap ic) ∧ wx.grownBy wr none)
            case atStart => exact ⟨ids.length, rfl, ⟨Nat.le_refl _, Nat.le_refl _, by simp⟩, o7, g6⟩
            case round =>
              clear o7 g6
              obtain ⟨j, rfl, B, o4, g4⟩ := hrel
              cases j with
              | zero =>
                have hz0 : Value.int IntKind.i64 ((0 : Nat) : Int) = Value.int IntKind.i64 0 := rfl
                go_upto_region 13 with fail
                refine wp_region_held (S := Gr { wr with drawn := wr.drawn + 1 }) (by kernel_rfl) ?_
                have o5 := own_kept o4 (grown_drew wr) (by simp)
                have g5 := grown_trans g4 (grown_drew wr)
                clear o4 g4
                generalize ({ wr with drawn := wr.drawn + 1 } : World) = u5 at *
                have hS := Gr.refl u5
                refine any_take 0 (some 88) (.int .i64 (0 : Nat)) rfl rfl (by kernel_rfl) (by kernel_rfl) (by kernel_rfl) (fun _ _ _ h => h) (.inl ⟨by kernel_rfl, fun _ _ => by kernel_rfl⟩) (by assumption) ?_
                simp only [Act.put, List.setIfInBounds_toArray, List.set_cons_zero, List.set_cons_succ]
                refine any_take 1 (some 89) (.bool false) rfl rfl (by kernel_rfl) (by kernel_rfl) (by kernel_rfl) (fun _ _ _ h => h) (.inl ⟨by kernel_rfl, fun _ _ => by kernel_rfl⟩) (by assumption) ?_
                simp only [Act.put, List.setIfInBounds_toArray, List.set_cons_zero, List.set_cons_succ]
                refine any_take 2 (some 90) (.bool false) rfl rfl (by kernel_rfl) (by kernel_rfl) (by kernel_rfl) (fun _ _ _ h => h) (.inl ⟨by kernel_rfl, fun _ _ => by kernel_rfl⟩) (by assumption) ?_
                simp only [Act.put, List.setIfInBounds_toArray, List.set_cons_zero, List.set_cons_succ]
                refine any_take 3 (some 91) undef rfl rfl (by kernel_rfl) (by kernel_rfl) (by kernel_rfl) (fun _ _ _ h => h) (.inr ⟨by kernel_rfl, rfl⟩) (by assumption) ?_
                simp only [Act.put, List.setIfInBounds_toArray, List.set_cons_zero, List.set_cons_succ]
                refine any_take 4 (some 92) undef rfl rfl (by kernel_rfl) (by kernel_rfl) (by kernel_rfl) (fun _ _ _ h => h) (.inr ⟨by kernel_rfl, rfl⟩) (by assumption) ?_
                simp only [Act.put, List.setIfInBounds_toArray, List.set_cons_zero, List.set_cons_succ]
                refine any_take 5 (some 93) undef rfl rfl (by kernel_rfl) (by kernel_rfl) (by kernel_rfl) (fun _ _ _ h => h) (.inr ⟨by kernel_rfl, rfl⟩) (by assumption) ?_
                simp only [Act.put, List.setIfInBounds_toArray, List.set_cons_zero, List.set_cons_succ]
                refine any_take 6 (some 94) undef rfl rfl (by kernel_rfl) (by kernel_rfl) (by kernel_rfl) (fun _ _ _ h => h) (.inr ⟨by kernel_rfl, rfl⟩) (by assumption) ?_
                simp only [Act.put, List.setIfInBounds_toArray, List.set_cons_zero, List.set_cons_succ]
                refine any_take 7 (some 95) undef rfl rfl (by kernel_rfl) (by kernel_rfl) (by kernel_rfl) (fun _ _ _ h => h) (.inr ⟨by kernel_rfl, rfl⟩) (by assumption) ?_
                simp only [Act.put, List.setIfInBounds_toArray, List.set_cons_zero, List.set_cons_succ]
                refine any_take 8 (some 96) undef rfl rfl (by kernel_rfl) (by kernel_rfl) (by kernel_rfl) (fun _ _ _ h => h) (.inr ⟨by kernel_rfl, rfl⟩) (by assumption) ?_
                simp only [Act.put, List.setIfInBounds_toArray, List.set_cons_zero, List.set_cons_succ]
                refine any_take 9 (some 97) undef rfl rfl (by kernel_rfl) (by kernel_rfl) (by kernel_rfl) (fun _ _ _ h => h) (.inr ⟨by kernel_rfl, rfl⟩) (by assumption) ?_
                simp only [Act.put, List.setIfInBounds_toArray, List.set_cons_zero, List.set_cons_succ]
                refine any_take 10 (some 98) undef rfl rfl (by kernel_rfl) (by kernel_rfl) (by kernel_rfl) (fun _ _ _ h => h) (.inr ⟨by kernel_rfl, rfl⟩) (by assumption) ?_
                simp only [Act.put, List.setIfInBounds_toArray, List.set_cons_zero, List.set_cons_succ]
                refine any_take 11 (some 99) undef rfl rfl (by kernel_rfl) (by kernel_rfl) (by kernel_rfl) (fun _ _ _ h => h) (.inr ⟨by kernel_rfl, rfl⟩) (by assumption) ?_
                simp only [Act.put, List.setIfInBounds_toArray, List.set_cons_zero, List.set_cons_succ]
                refine any_take 12 (some 100) undef rfl rfl (by kernel_rfl) (by kernel_rfl) (by kernel_rfl) (fun _ _ _ h => h) (.inr ⟨by kernel_rfl, rfl⟩) (by assumption) ?_
                simp only [Act.put, List.setIfInBounds_toArray, List.set_cons_zero, List.set_cons_succ]
                refine any_take 13 (some 101) undef rfl rfl (by kernel_rfl) (by kernel_rfl) (by kernel_rfl) (fun _ _ _ h => h) (.inr ⟨by kernel_rfl, rfl⟩) (by assumption) ?_
                simp only [Act.put, List.setIfInBounds_toArray, List.set_cons_zero, List.set_cons_succ]
                refine any_take 14 (some 102) (.bool false) rfl rfl (by kernel_rfl) (by kernel_rfl) (by kernel_rfl) (fun _ _ _ h => h) (.inl ⟨by kernel_rfl, fun _ _ => by kernel_rfl⟩) (by assumption) ?_
                simp only [Act.put, List.setIfInBounds_toArray, List.set_cons_zero, List.set_cons_succ]
                refine wpAnyH_done (by kernel_rfl) ?_ _
                clear hS
                go_wp2_with fail
                go_roundg (n2 - (i + 1))
                case measure => omega
                case rel =>
                  refine ⟨i + 1, ins ids 0 x, by omega, by go_num, ?_, F2.out, g5, ⟨ins_ord O.out.1 (by simp) B.out.2.2, fun y hy => ?_, by rw [ins_len]; have := O.out.2.2; omega⟩⟩
                  · have e := EN.out
                    rw [ins_len, ← e]
                    exact o5
                  · rcases mem_ins hy with rfl | h
                    · exact ⟨hsx, HX.out⟩
                    · exact O.out.2.1 y h
              | succ j =>
                have hB := B.out
                have hj : j + 1 ≤ ids.length := hB.1
                have hj' : j < ids.length := by omega
                have hN1 : j + 1 < N := by have := EN.out; omega
                have hN0 : j < N := by omega
                obtain ⟨a, ha⟩ : ∃ a, ids[j]? = some a := ⟨_, List.getElem?_eq_getElem hj'⟩
                have hsa := (O.out.2.1 a (List.mem_of_getElem? ha)).1
                have HGT : Aside (decide ((0 : Int) < ((j + 1 : Nat) : Int)) = true) := decide_eq_true (by omega)
                have HSUB : Aside (((j + 1 : Nat) : Int) - 1 = (j : Int)) := by unfold Aside; omega
                have z17 := keep_blk (grown_trans g4 (grown_drew wr)) x17 (by simp)
                have hsplit : ids.drop j = a :: ids.drop (j + 1) := by
                  rw [List.drop_eq_getElem_cons hj']
                  congr 1
                  rw [List.getElem?_eq_getElem hj'] at ha
                  exact Option.some.inj ha
                have HSP : Aside (ids.drop j = a :: ids.drop (j + 1)) := hsplit
                clear hB hsplit
                go_upto_region 13 with fail
                refine wp_region_held (S := Gr { wr with drawn := wr.drawn + 1 }) (by kernel_rfl) ?_
                have o5 := own_kept o4 (grown_drew wr) (by simp)
                have g5 := grown_trans g4 (grown_drew wr)
                clear o4 g4
                generalize ({ wr with drawn := wr.drawn + 1 } : World) = u5 at *
                have hS := Gr.refl u5
                refine any_take 0 (some 88) (.int .i64 (j + 1 : Nat)) rfl rfl (by kernel_rfl) (by kernel_rfl) (by kernel_rfl) (fun _ _ _ h => h) (.inl ⟨by kernel_rfl, fun _ _ => by kernel_rfl⟩) (by assumption) ?_
                simp only [Act.put, List.setIfInBounds_toArray, List.set_cons_zero, List.set_cons_succ]
                refine any_take 1 (some 89) (.bool true) rfl rfl (by kernel_rfl) (by kernel_rfl) (by kernel_rfl) (fun _ _ _ h => h) (.inl ⟨by kernel_rfl, fun w' _ => (exec_gtr3 (.tmp 88) (.const (.int .i64 0)) rfl ((j + 1 : Nat) : Int) 0 (by kernel_rfl) (by kernel_rfl)).trans (by rw [HGT.out])⟩) (by assumption) ?_
                simp only [Act.put, List.setIfInBounds_toArray, List.set_cons_zero, List.set_cons_succ]
                refine any_take 2 (some 90) (.bool true) rfl rfl (by kernel_rfl) (by kernel_rfl) (by kernel_rfl) (fun _ _ _ h => h) (.inl ⟨by kernel_rfl, fun _ _ => by kernel_rfl⟩) (by assumption) ?_
                simp only [Act.put, List.setIfInBounds_toArray, List.set_cons_zero, List.set_cons_succ]
                refine any_take 3 (some 91) (.slice (some ⟨gi, 0, none⟩) N ci) rfl rfl (by kernel_rfl) (by kernel_rfl) (by kernel_rfl) (fun _ _ _ h => h) (.inl ⟨by kernel_rfl, fun _ _ => by kernel_rfl⟩) (by assumption) ?_
                simp only [Act.put, List.setIfInBounds_toArray, List.set_cons_zero, List.set_cons_succ]
                refine any_take 4 (some 92) (.int .i64 (j + 1 : Nat)) rfl rfl (by kernel_rfl) (by kernel_rfl) (by kernel_rfl) (fun _ _ _ h => h) (.inl ⟨by kernel_rfl, fun _ _ => by kernel_rfl⟩) (by assumption) ?_
                simp only [Act.put, List.setIfInBounds_toArray, List.set_cons_zero, List.set_cons_succ]
                refine any_take 5 (some 93) (.pointer (some ⟨gi, (j + 1) * 20, none⟩)) rfl rfl (by kernel_rfl) (by kernel_rfl) (by kernel_rfl) (fun _ _ _ h => h) (.inl ⟨by kernel_rfl, fun w' _ => exec_index (.tmp 91) (.tmp 92) rfl Ybaf.underlying27 hti hts gi N ci (j + 1) hN1 (by kernel_rfl) (by kernel_rfl)⟩) (by assumption) ?_
                simp only [Act.put, List.setIfInBounds_toArray, List.set_cons_zero, List.set_cons_succ]
                refine any_take 6 (some 94) (.agg (ic x).toArray) rfl rfl (by kernel_rfl) (by kernel_rfl) (by kernel_rfl) (fun _ _ _ h => h) (yieldsIf_load_mid (by kernel_rfl) 25 (.tmp 93) rfl gi ((j + 1) * 20) (by kernel_rfl) (ic x) _ (fun _ h => own_ti (own_kept o5 h (by simp)) (ins_at hj)) Ybaf.underlying25 rfl (size25 _)) (by assumption) ?_
                simp only [Act.put, List.setIfInBounds_toArray, List.set_cons_zero, List.set_cons_succ]
                refine any_take 7 (some 95) (.slice (some ⟨gi, 0, none⟩) N ci) rfl rfl (by kernel_rfl) (by kernel_rfl) (by kernel_rfl) (fun _ _ _ h => h) (.inl ⟨by kernel_rfl, fun _ _ => by kernel_rfl⟩) (by assumption) ?_
                simp only [Act.put, List.setIfInBounds_toArray, List.set_cons_zero, List.set_cons_succ]
                refine any_take 8 (some 96) (.int .i64 (j + 1 : Nat)) rfl rfl (by kernel_rfl) (by kernel_rfl) (by kernel_rfl) (fun _ _ _ h => h) (.inl ⟨by kernel_rfl, fun _ _ => by kernel_rfl⟩) (by assumption) ?_
                simp only [Act.put, List.setIfInBounds_toArray, List.set_cons_zero, List.set_cons_succ]
                refine any_take 9 (some 97) (.int .i64 (j : Nat)) rfl rfl (by kernel_rfl) (by kernel_rfl) (by kernel_rfl) (fun _ _ _ h => h) (.inl ⟨by kernel_rfl, fun w' _ => (exec_sub3 (.tmp 96) (.const (.int .i64 1)) rfl ((j + 1 : Nat) : Int) 1 (by omega) (by omega) (by kernel_rfl) (by kernel_rfl)).trans (by rw [HSUB.out])⟩) (by assumption) ?_
                simp only [Act.put, List.setIfInBounds_toArray, List.set_cons_zero, List.set_cons_succ]
                refine any_take 10 (some 98) (.pointer (some ⟨gi, j * 20, none⟩)) rfl rfl (by kernel_rfl) (by kernel_rfl) (by kernel_rfl) (fun _ _ _ h => h) (.inl ⟨by kernel_rfl, fun w' _ => exec_index (.tmp 95) (.tmp 97) rfl Ybaf.underlying27 hti hts gi N ci j hN0 (by kernel_rfl) (by kernel_rfl)⟩) (by assumption) ?_
                simp only [Act.put, List.setIfInBounds_toArray, List.set_cons_zero, List.set_cons_succ]
                refine any_take 11 (some 99) (.agg (ic a).toArray) rfl rfl (by kernel_rfl) (by kernel_rfl) (by kernel_rfl) (fun _ _ _ h => h) (yieldsIf_load_mid (by kernel_rfl) 25 (.tmp 98) rfl gi (j * 20) (by kernel_rfl) (ic a) _ (fun _ h => own_ti (own_kept o5 h (by simp)) (ins_before hj' ha)) Ybaf.underlying25 rfl (size25 _)) (by assumption) ?_
                simp only [Act.put, List.setIfInBounds_toArray, List.set_cons_zero, List.set_cons_succ]
                refine any_take 12 (some 100) (.agg (ic s).toArray) rfl rfl (by kernel_rfl) (by kernel_rfl) (by kernel_rfl) (fun _ _ _ h => h) (yld_blk (by kernel_rfl) 25 (.tmp 17) rfl b17 (by kernel_rfl) (ic s) 25 (fun _ h => keep_blk h z17 (by simp)) _ Ybaf.underlying25 rfl (size25 _)) (by assumption) ?_
                simp only [Act.put, List.setIfInBounds_toArray, List.set_cons_zero, List.set_cons_succ]
                refine any_call 13 (some 101) 6 #[.agg (ic x).toArray, .agg (ic a).toArray, .agg (ic s).toArray] rfl rfl (by kernel_rfl) (by kernel_rfl) (by kernel_rfl) ?_
                refine (less_any (byt_cf hsx) (byt_cf hsa) (byt_cf hs) _).mono ?_
                rintro e u6 ⟨rfl, q6⟩
                have hS6 : Gr u5 u6 := q6
                have hld : decide (ds (cf s) (cf x) < ds (cf s) (cf a)) = decide (D s x < D s a) := rfl
                rw [hld]
                refine ⟨_, rfl, hS6, ?_⟩
                simp only [Act.put, List.setIfInBounds_toArray, List.set_cons_zero, List.set_cons_succ]
                refine any_take 14 (some 102) (.bool (decide (D s x < D s a))) rfl rfl (by kernel_rfl) (by kernel_rfl) (by kernel_rfl) (fun _ _ _ h => h) (.inl ⟨by kernel_rfl, fun _ _ => by kernel_rfl⟩) (by assumption) ?_
                simp only [Act.put, List.setIfInBounds_toArray, List.set_cons_zero, List.set_cons_succ]
                refine wpAnyH_done (by kernel_rfl) ?_ _
                have o6 := own_kept o5 q6 (by simp)
                have g6 := grown_trans g5 q6
                clear hS hS6 q6 o5 g5 z17 hld
                by_cases hlt : D s x < D s a
                · rw [decide_eq_true hlt]
                  have B2 : Aside (∀ y ∈ ids.drop j, D s x < D s y) := by
                    intro y hy
                    rw [HSP.out] at hy
                    rcases List.mem_cons.1 hy with rfl | hy
                    · exact hlt
                    · exact B.out.2.2 y hy
                  have ry := own_ti o6 (ins_at (x := x) hj)
                  clear hlt
                  go_wp2_with (first
                    | (refine wpList_is (.indexAddr 27 (.tmp 105) (.tmp 106)) rfl ?_; refine wpList_exec rfl _ (exec_index (.tmp 105) (.tmp 106) rfl Ybaf.underlying27 hti hts gi N ci (j + 1) hN1 rfl rfl) ?_)
                    | (refine wpList_is (.load 25 (.tmp 107)) rfl ?_; refine wpList_load_mid rfl 25 (.tmp 107) rfl gi ((j + 1) * 20) rfl (ic x) _ ry Ybaf.underlying25 rfl (size25 _) ?_)
                    | (refine wpList_is (.alloc 25) rfl ?_; refine wpList_alloc25 rfl rfl ?_)
                    | (refine wpList_is (.store 25 (.tmp 24) (.tmp 108)) rfl ?_; refine wpList_store_blk rfl 25 (.tmp 24) (.tmp 108) rfl u6.heap.size (ic x) rfl rfl _ _ (heap_alloc_new u6 _) rfl (size25 _) (ic_one _) ?_; intro u7 x24 q7; have k7 : u6.grownBy u7 none := grown_new q7; have o7 := own_kept o6 k7 (by simp); have ra := own_ti o7 (ins_before (x := x) hj' ha); clear q7)
                    | (refine wpList_is (.binOp .sub 3 (.tmp 112) (.const (.int .i64 1)) 3) rfl ?_; refine wpList_exec rfl (.int .i64 (j : Nat)) (HSUB.out ▸ exec_sub3 (.tmp 112) (.const (.int .i64 1)) rfl ((j + 1 : Nat) : Int) 1 (by omega) (by omega) rfl rfl) ?_)
                    | (refine wpList_is (.indexAddr 27 (.tmp 111) (.tmp 113)) rfl ?_; refine wpList_exec rfl _ (exec_index (.tmp 111) (.tmp 113) rfl Ybaf.underlying27 hti hts gi N ci j hN0 rfl rfl) ?_)
                    | (refine wpList_is (.load 25 (.tmp 114)) rfl ?_; refine wpList_load_mid rfl 25 (.tmp 114) rfl gi (j * 20) rfl (ic a) _ ra Ybaf.underlying25 rfl (size25 _) ?_)
                    | (refine wpList_is (.indexAddr 27 (.tmp 109) (.tmp 110)) rfl ?_; refine wpList_exec rfl _ (exec_index (.tmp 109) (.tmp 110) rfl Ybaf.underlying27 hti hts gi N ci (j + 1) hN1 rfl rfl) ?_)
                    | (refine wpList_is (.store 25 (.tmp 116) (.tmp 115)) rfl ?_; refine wpList_store_own rfl (.tmp 116) (.tmp 115) rfl gi N ci (j + 1) a rfl rfl o7 (by rw [ins_len]; omega) ?_; intro u8 o8 q8; have y24 := keep_blk q8 x24 (own_lt o6))
                    | (refine wpList_is (.binOp .sub 3 (.tmp 118) (.const (.int .i64 1)) 3) rfl ?_; refine wpList_exec rfl (.int .i64 (j : Nat)) (HSUB.out ▸ exec_sub3 (.tmp 118) (.const (.int .i64 1)) rfl ((j + 1 : Nat) : Int) 1 (by omega) (by omega) rfl rfl) ?_)
                    | (refine wpList_is (.load 25 (.tmp 24)) rfl ?_; refine wpList_load_blk rfl 25 (.tmp 24) rfl u6.heap.size rfl (ic x) 25 y24 _ Ybaf.underlying25 rfl (size25 _) ?_)
                    | (refine wpList_is (.indexAddr 27 (.tmp 117) (.tmp 119)) rfl ?_; refine wpList_exec rfl _ (exec_index (.tmp 117) (.tmp 119) rfl Ybaf.underlying27 hti hts gi N ci j hN0 rfl rfl) ?_)
                    | (refine wpList_is (.store 25 (.tmp 121) (.tmp 120)) rfl ?_; refine wpList_store_own rfl (.tmp 121) (.tmp 120) rfl gi N ci j x rfl rfl o8 (by rw [List.length_set, ins_len]; omega) ?_; intro u9 o9 q9)
                    | (refine wpList_is (.binOp .sub 3 (.tmp 103) (.const (.int .i64 1)) 3) rfl ?_; refine wpList_exec rfl (.int .i64 (j : Nat)) (HSUB.out ▸ exec_sub3 (.tmp 103) (.const (.int .i64 1)) rfl ((j + 1 : Nat) : Int) 1 (by omega) (by omega) rfl rfl) ?_))
                  go_roundg j
                  case measure => have := B.out; omega
                  case rel =>
                    refine ⟨j, rfl, ⟨by omega, Nat.le_refl _, B2.out⟩, ?_, ?_⟩
                    · rw [ins_swap hj' ha] at o9
                      exact o9
                    · have hfr : ∀ y, some gi = some y → wx.heap.size ≤ y := fun y hy => F2.out y hy
                      exact grow_own (grow_own (grown_trans g6 k7) q8 hfr) q9 hfr
                · have hxa : D s a < D s x := by
                    rcases Int.lt_trichotomy (D s a) (D s x) with h | h | h
                    · exact h
                    · rw [D_eq hs hsa hsx] at h
                      exact absurd (h ▸ List.mem_of_getElem? ha) HM.out
                    · exact absurd h hlt
                  have B2 : Aside (∀ y ∈ ids.take (j + 1), D s y < D s x) := by
                    intro y hy
                    have hkx : j < rk s ids x := (rk_get (x := x) O.out.1 j a ha).1 hxa
                    obtain ⟨k, hk, e⟩ := List.mem_iff_getElem.1 hy
                    rw [List.length_take] at hk
                    have hy' : ids[k]? = some y := by
                      rw [List.getElem_take] at e
                      rw [List.getElem?_eq_getElem (by omega), e]
                    exact (rk_get (x := x) O.out.1 k y hy').2 (by omega)
                  rw [decide_eq_false hlt]
                  clear hlt hxa
                  go_wp2_with fail
                  go_roundg (n2 - (i + 1))
                  case measure => omega
                  case rel =>
                    refine ⟨i + 1, ins ids (j + 1) x, by omega, by go_num, ?_, F2.out, g6, ⟨ins_ord O.out.1 B2.out B.out.2.2, fun y hy => ?_, by rw [ins_len]; have := O.out.2.2; omega⟩⟩
                    · have e := EN.out
                      rw [ins_len, ← e]
                      exact o6
                    · rcases mem_ins hy with rfl | h
                      · exact ⟨hsx, HX.out⟩
                      · exact O.out.2.1 y h
      · have ei : i = ms.length := by omega
        have x17' := keep_blk gr x17 (by simp)
        have gd : Good s ids rs := ⟨hs, O.out.1, O.out.2.1, f3, by have := O.out.2.2; omega, by omega⟩
        clear O F x17
        go_upto_if 68 with fail
        go_step
        go_step
        go_step
        refine by_K (c := ?cc) (Q := ?QQ) ?hr ?ht
        case hr => assumption
        exact tail19 w wr s h b17 u19 ids rs a3 n3 c3 l3 r3 gd hh hh4 (grown_trans gx gr) x17' ow su ss al0 asl hsu hss hal0 has _ _ _ _ _ _ _ _ _ _ _ _ _ _ _ _ _ _ _ _ _ _ _ _ _ _ _ _ _ _ _ _ _ _ _ _ _ _ _ _ _ _ _ _ _ _ _ _ _ _ _ _ _ _ _ _ _ _ _ _ _ _ _ _ _ _ _ _ _ _ _ _ _ _ _ _ _ _ _ _ _ _ _ _ _ _ _ _ _ _ _ _ _ _ _ _ _ _ _ _ _ _ _ _ _ _ _ _ _ _ _ _ _ _ _ _ _ _ _ _ _ _ _ _ _ _ _ _ _ _ _ _ _ _ _ _ _ _ _ _ _ _ _ _ _ _ _ _ _ _ _ _ _ _ _ _ _ _ _ _ _ _ _ _ _ _ _ _ _ _ _ _ _ _ _ _ _ _ _ _ _ _ _ _ _ _ _ _ _ _ _ _ _ _ _ _ _ _ _ _ _ _ _ _ _ _ _ _ _ _ _ _ _ _ _ _ _ _ _ _ _ _ _ _ _ _ _ _ _ _ _ _ _ _ _ _ _ _ _ _ _ _ _ _ _ _ _ _ _ _ _ _ _ _ _ _ _ _ _ _ _ _ _ _ _ _ _ _ _ _ _ _ _ _ _ _ _ _ _ _ _ _ _ _ _ _ _ _ _ _ _ _ _ _ _ _ _ _ _ _ _ _ _ _ _ _ _ _ _ _ _ _ _ _ _ _ _ _ _ _ _ _ _ _ _ _ _ _ _ _ _ _ _ _ _ _ _ _ _ _ _ _ _ _ _ _ _ _ _ _ _ _ _ _ _ _ _ _ _ _ _ _ _ _ _ _ _ _ _ _ _ _ _ _ _ _ _ _ _ _ _ _ _ _ _ _ _ _ _ _ _ _ _ _ _ _ _ _ _ _
end Go.Proofs.YbulkdspqFmt
