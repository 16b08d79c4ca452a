/-
  LawS5972COrder: slices.Sort, slices.Clone at uint64.
-/
import Derived.Test.YbulkdsqsORow
import Derived.Shelf.SlicesE.Clone
import Derived.Shelf.SlGeneric
import Derived.Ground.SlgnProg
namespace Go.Proofs
open Go.Shelf
shelf_lay_g SlLaysE0.n41 Slgn 41 at Yba 7 as Yba.laysClone
end Go.Proofs
namespace Go.Proofs.Ybulkdsqs
open Go.RowKit Go.Sort
set_option linter.unusedSimpArgs false
set_option linter.unusedVariables false

set_option maxRecDepth 1000000 in
theorem sort8 (w : World) (g n c : Nat) (d : Array Int) (h : Holds (Value.int .u64) w g 0 d) (hg : g < w.heap.size) (hd : d.size = n) (hn : n < 4611686018427387904) :
    Calls Yba.prog 8 #[.slice (some ⟨g, 0, none⟩) n c] w fun e w' => e = .returned (.tuple #[]) ∧ Done w g 0 n 0 n d w' := by
  have hs := St.start h hg
  rw [hd] at hs
  have hk : bitsLen n ≤ 62 := (bitsLen_le_iff n 62).2 (by omega)
  have hcall := pdq12 n w g 0 n c 0 n (bitsLen n) d w (by omega) hs (Nat.zero_le _) (Nat.le_refl _) hn (by omega) (.inl rfl)
  clear h hs hd
  go_enter Yba.func8, Yba.ntmps8
  go_wp2_with fail
  refine (len13 n hn _).mono ?_
  rintro e w' ⟨rfl, rfl⟩
  go_wp2_with fail
  refine Calls.mono hcall ?_
  rintro e w1 ⟨rfl, h1⟩
  go_wp2_with fail
  go_end0
  exact ⟨rfl, h1⟩
theorem ins15_none (p : Option Addr) (c : Nat) (w : World) : Calls Yba.prog 15 #[.slice p 0 c, .int .i64 0, .int .i64 0] w fun e w' => e = .returned (.tuple #[]) ∧ w' = w := by
  go_enter Yba.func15, Yba.ntmps15
  go_wp2_with fail
  go_loopg [6] 1 (fun k s6 wr => s6 = .int .i64 1 ∧ wr = w)
  case atStart => exact ⟨rfl, rfl⟩
  case round =>
    obtain ⟨rfl, rfl⟩ := hrel
    go_wp2_with fail
    go_end0
    exact ⟨rfl, rfl⟩
set_option maxRecDepth 1000000 in
theorem pdq12_none (p : Option Addr) (c : Nat) (w : World) : Calls Yba.prog 12 #[.slice p 0 c, .int .i64 0, .int .i64 0, .int .i64 0] w fun e w' => e = .returned (.tuple #[]) ∧ w' = w := by
  go_enter Yba.func12, Yba.ntmps12
  go_wp2_with fail
  go_loopg [1, 2, 3, 8, 9] 1 (fun k s1 s2 s3 s8 s9 wr => s1 = .int .i64 0 ∧ s2 = .int .i64 0 ∧ s3 = .int .i64 0 ∧ s8 = .bool true ∧ s9 = .bool true ∧ wr = w)
  case atStart => exact ⟨rfl, rfl, rfl, rfl, rfl, rfl⟩
  case round =>
    obtain ⟨rfl, rfl, rfl, rfl, rfl, rfl⟩ := hrel
    go_wp2_with fail
    refine (ins15_none p c _).mono ?_
    rintro e w' ⟨rfl, rfl⟩
    go_wp2_with fail
    refine bodyPost_ret (results_none rfl _ _ _) rfl ⟨rfl, rfl⟩
theorem sort8_none (p : Option Addr) (c : Nat) (w : World) : Calls Yba.prog 8 #[.slice p 0 c] w fun e w' => e = .returned (.tuple #[]) ∧ w' = w := by
  have hl := len13 0 (by omega) w
  have hl' : Calls Yba.prog 13 #[.int .u64 0] w fun e w' => e = .returned (.int .i64 0) ∧ w' = w := hl
  go_enter Yba.func8, Yba.ntmps8
  go_wp2_with fail
  refine Calls.mono hl' ?_
  rintro e w' ⟨rfl, rfl⟩
  go_wp2_with fail
  refine (pdq12_none p c _).mono ?_
  rintro e w' ⟨rfl, rfl⟩
  go_wp2_with fail
  go_end0
  exact ⟨rfl, rfl⟩

/-- A row of the call's own is sorted. -/
theorem sort_own (w : World) (base n : Nat) (v : Value) (d : Array Int) (ho : w.ownsRow base 26 1 v n (d.toList.map (Value.int .u64))) (hn : n < 4611686018427387904) :
    Calls Yba.prog 8 #[v] w fun e w' => e = .returned (.tuple #[]) ∧ ∃ R : Array Int, R.toList.Perm d.toList ∧ R.toList.Pairwise (· ≤ ·) ∧ w'.ownsRow base 26 1 v n (R.toList.map (Value.int .u64)) ∧ w.grownBy w' v.ownBlock := by
  rcases ho.2 with ⟨rfl, rfl⟩ | ⟨g, c, cur, rfl, hrest⟩
  · refine (sort8_none none 0 w).mono ?_
    rintro e w' ⟨rfl, rfl⟩
    have hl := ho.1
    simp at hl
    subst hl
    exact ⟨rfl, #[], .refl _, by simp, ho, ⟨rfl, rfl, rfl, Nat.le_refl _, fun _ _ _ => rfl⟩⟩
  · obtain ⟨hd, hh, hg⟩ := own_holds ho
    refine (sort8 w g n c d hh hg hd hn).mono ?_
    rintro e w' ⟨rfl, R, p, s, st⟩
    have hz := st.size
    refine ⟨rfl, R, ?_, ?_, at_own st.here hz ho, at_grown st.here⟩
    · have := p.2.2
      rwa [show R.extract 0 n = R by rw [← hz]; simp, show d.extract 0 n = d by rw [← hd]; simp] at this
    · rw [List.pairwise_iff_getElem]
      intro i j hi hj hij
      have h1 := s i j (Nat.zero_le _) hij (by rw [Array.length_toList] at hj; omega)
      rw [Array.length_toList] at hi hj
      rw [getElem!_pos R i hi, getElem!_pos R j hj] at h1
      have : ¬ R[j] < R[i] := by simpa [ltInt] using h1
      simpa using this
noncomputable def i26 : TypeInfo := (Yba.prog.info? 26).get (by kernel_rfl)
theorem clone7 (w : World) (a : Option Addr) (n c : Nat) (Z : List Int) (hl : Z.length = n) (hn : n ≤ 4096) (ha : ∀ j z, Z[j]? = some z → ∃ b o, a = some ⟨b, o, none⟩ ∧ w.cell? ⟨b, o + j, none⟩ = some (.int .u64 z)) (hne : ∀ ad, a = some ad → ad.spot = none) :
    Calls Yba.prog 7 #[.slice a n c] w fun e w' => ∃ v, e = .returned v ∧ w'.ownsRow w.heap.size 26 1 v n (Z.map (Value.int .u64)) ∧ w.grownBy w' none := by
  rcases a with _ | ⟨b, o, s⟩
  · have h := AnyE.slices_Clone_nil Yba.laysClone n c w
    change Calls Yba.prog 7 _ _ _ at h
    refine h.mono ?_
    rintro e w' ⟨rfl, rfl⟩
    have hZ : Z = [] := by
      cases Z with
      | nil => rfl
      | cons z t => obtain ⟨b, o, e, _⟩ := ha 0 z rfl; cases e
    subst hZ
    simp at hl
    subst hl
    exact ⟨_, rfl, ⟨rfl, .inl ⟨rfl, rfl⟩⟩, ⟨rfl, rfl, rfl, Nat.le_refl _, fun _ _ _ => rfl⟩⟩
  · obtain rfl : s = none := hne _ rfl
    have h := AnyE.slices_Clone Yba.laysClone i26 (.int .u64 0) 1 8 (by kernel_rfl) (by kernel_rfl) (by kernel_rfl) (by kernel_rfl) rfl (by decide) (fun w => by kernel_rfl) b o n c (Z.map (Value.int .u64)) w (by simp [hl]) (by simp [maxLen]; omega) (by omega) (by
      intro j u hu
      rw [List.getElem?_map] at hu
      cases hz : Z[j]? with
      | none => simp [hz] at hu
      | some z =>
        obtain ⟨b', o', e, hc⟩ := ha j z hz
        simp [hz] at hu
        subst hu
        cases e
        exact hc) (by intro u hu; simp at hu; obtain ⟨z, _, rfl⟩ := hu; rfl)
    change Calls Yba.prog 7 _ _ _ at h
    refine h.mono ?_
    rintro e w' ⟨v, rfl, ho, _, hb⟩
    exact ⟨v, rfl, ho, below_grown hb⟩
end Go.Proofs.Ybulkdsqs
