/-
  LawS5972COrder: slices.pdqsortOrdered at uint64: what it leaves behind is a sorted permutation.
-/
import Derived.Test.YbulkdsqsORev
import Derived.Test.YbulkdsqsOHs
import Derived.Test.YbulkdsqsOPrt
import Derived.Test.YbulkdsqsOPis
import Derived.Test.YbulkdsqsOBrk
import Derived.Sort.AssemblyPlain
namespace Go.Proofs.Ybulkdsqs
open Go.RowKit Go.Sort
set_option linter.unusedSimpArgs false
set_option linter.unusedVariables false

/-- To sort [a', b') of e is to sort [a, b) of d. -/
structure Cl (a b a' b' : Nat) (d e : Array Int) : Prop where
  below : Sort.Below ltInt a' b' e
  fin : ∀ R, PermIn a' b' e R → SortedIn ltInt a' b' R → PermIn a b d R ∧ SortedIn ltInt a b R
theorem Cl.perm {a b a' b' : Nat} {d e e' : Array Int} (h : Cl a b a' b' d e) (hb : b' ≤ e.size) (p : PermIn a' b' e e') : Cl a b a' b' d e' :=
  ⟨h.below.perm hb p, fun R q s => h.fin R (permIn_trans _ _ _ _ _ p q) s⟩
theorem swo : SWO ltInt := swo_ltInt

/-- What a sorting call leaves. -/
def Done (w0 : World) (g o n a b : Nat) (d : Array Int) (w' : World) : Prop := ∃ R, PermIn a b d R ∧ SortedIn ltInt a b R ∧ St w0 g o n R w'
theorem Cl.done {w0 w' : World} {g o n a b a' b' : Nat} {d e R : Array Int} (h : Cl a b a' b' d e) (p : PermIn a' b' e R ∧ SortedIn ltInt a' b' R) (s : St w0 g o n R w') : Done w0 g o n a b d w' :=
  ⟨R, (h.fin R p.1 p.2).1, (h.fin R p.1 p.2).2, s⟩

set_option maxHeartbeats 12800000 in
set_option maxRecDepth 1000000 in
theorem pdq12 (m : Nat) : ∀ (w0 : World) (g o n c a b lim : Nat) (d : Array Int) (w : World), b - a ≤ m → St w0 g o n d w → a ≤ b → b ≤ n → n < 4611686018427387904 → lim < 4611686018427387904 → Sort.Below ltInt a b d →
    Calls Yba.prog 12 #[.slice (some ⟨g, o, none⟩) n c, .int .i64 a, .int .i64 b, .int .i64 lim] w fun e w' => e = .returned (.tuple #[]) ∧ Done w0 g o n a b d w' := by
  induction m using Nat.strongRecOn with
  | _ m ih =>
  intro w0 g o n c a b lim d w hm h hab hb hn hlim hB
  have IH : Aside _ := ih
  clear ih
  go_enter Yba.func12, Yba.ntmps12
  go_wp2_with fail
  go_loopg [1, 2, 3, 8, 9] (b - a) (fun k s1 s2 s3 s8 s9 wr => ∃ (a' b' l : Nat) (wb wp : Bool) (e : Array Int), s1 = .int .i64 a' ∧ s2 = .int .i64 b' ∧ s3 = .int .i64 l ∧ s8 = .bool wb ∧ s9 = .bool wp ∧ a' ≤ b' ∧ b' ≤ n ∧ b' - a' ≤ k ∧ b' - a' ≤ m ∧ l ≤ lim ∧ St w0 g o n e wr ∧ Cl a b a' b' d e)
  case atStart => exact ⟨a, b, lim, true, true, d, rfl, rfl, rfl, rfl, rfl, hab, hb, Nat.le_refl _, hm, Nat.le_refl _, h, ⟨hB, fun R p s => ⟨p, s⟩⟩⟩
  case round =>
    obtain ⟨a', b', l, wb, wp, e, rfl, rfl, rfl, rfl, rfl, hab', hb', hk, hm', hl, hs, hC⟩ := hrel
    clear h hB hab hb hm
    by_cases h12 : b' - a' ≤ 12
    · have h12z : (b' : Int) - (a' : Int) ≤ 12 := by omega
      go_wp2_with fail
      refine (ins15 w0 g o n c a' b' e _ hs hab' hb' hn).mono ?_
      rintro x w1 ⟨rfl, hs1⟩
      go_wp2_with fail
      refine bodyPost_ret (results_none rfl _ _ _) rfl ⟨rfl, hC.done (insertionSort_holds swo e a' b' hab' (by rw [hs.size]; exact hb')) hs1⟩
    have h12z : ¬ (b' : Int) - (a' : Int) ≤ 12 := by omega
    have hab2 : a' < b' := by omega
    by_cases hl0 : l = 0
    · subst hl0
      go_wp2_with fail
      refine (heap16 w0 g o n c a' b' e _ hs hab' hb' hn).mono ?_
      rintro x w1 ⟨rfl, hs1⟩
      go_wp2_with fail
      refine bodyPost_ret (results_none rfl _ _ _) rfl ⟨rfl, hC.done (heapSort_holds swo e a' b' hab' (by rw [hs.size]; exact hb')) hs1⟩
    have hl0z : ¬ (l : Int) = 0 := by omega
    go_upto_if 35 with fail
    go_cut [3] (fun s3 wc => ∃ (l' : Nat) (e' : Array Int), s3 = .int .i64 l' ∧ l' ≤ lim ∧ St w0 g o n e' wc ∧ Cl a b a' b' d e')
    case first =>
      cases wb
      · go_wp2_with fail
        refine (brk17 w0 g o n c a' b' e _ hs hab' hb' hn).mono ?_
        rintro x w1 ⟨rfl, hs1⟩
        go_wp2_with fail
        go_meet
        case rel => exact ⟨l - 1, _, by congr 1; omega, by omega, hs1, hC.perm (by rw [hs.size]; exact hb') (breakPatterns_holds e a' b' hab' (by rw [hs.size]; exact hb'))⟩
      · go_wp2_with fail
        go_meet
        case rel => exact ⟨l, e, rfl, hl, hs, hC⟩
    case rest =>
    clear hs hC hl hl0 hl0z
    obtain ⟨l', e1, rfl, hl, hs, hC⟩ := hcut
    have hpv := choosePivot_holds ltInt e1 a' b' hab2
    have hc18 := piv18 w0 g o n c a' b' e1 wc hs hab2 hb' hn
    generalize (choosePivot ltInt e1 a' b').1 = p0 at hpv hc18
    generalize hintCode (choosePivot ltInt e1 a' b').2 = h0 at hc18
    go_upto_if 50 with (go_at_call 18; refine hc18.mono ?_; rintro x w1 ⟨rfl, hs1⟩)
    clear hs hc18
    go_cut [11, 12] (fun s11 s12 wx => ∃ (p : Nat) (hh : Int) (e2 : Array Int), s11 = .int .i64 p ∧ s12 = .int .i64 hh ∧ a' ≤ p ∧ p < b' ∧ St w0 g o n e2 wx ∧ Cl a b a' b' d e2)
    case first =>
      by_cases h2 : h0 = 2
      · subst h2
        go_wp2_with fail
        refine (rev19 w0 g o n c a' b' e1 _ hs1 hab' hb' hn).mono ?_
        rintro x w2 ⟨rfl, hs2⟩
        go_wp2_with fail
        go_meet
        case rel => exact ⟨(b' - 1) - (p0 - a'), 1, _, by congr 1; omega, rfl, by omega, by omega, hs2, hC.perm (by rw [hs1.size]; exact hb') (reverseRange_holds e1 a' b' hab' (by rw [hs1.size]; exact hb'))⟩
      · go_wp2_with fail
        go_meet
        case rel => exact ⟨p0, h0, e1, rfl, rfl, hpv.1, hpv.2, hs1, hC⟩
    case rest =>
    clear hs1 hC hpv
    obtain ⟨p, hh, e2, rfl, rfl, hp1, hp2, hs, hC⟩ := hcut
    go_upto_region 15 with fail
    go_cut [68] (fun s68 wx => ∃ B, s68 = .bool B ∧ wx = wc)
    case first =>
      cases wb <;> cases wp <;> (by_cases h1 : hh = 1) <;> (go_wp2_with fail; go_meet; exact ⟨_, rfl, rfl⟩)
    case rest =>
    obtain ⟨B, rfl, rfl⟩ := hcut
    go_upto_if 68 with fail
    go_cut [] (fun wx => ∃ e3 : Array Int, St w0 g o n e3 wx ∧ Cl a b a' b' d e3)
    case first =>
      cases B
      · go_wp2_with fail
        go_meet
        case rel => exact ⟨e2, hs, hC⟩
      · have hpi := partialInsertionSort_holds swo e2 a' b' hab2 (by rw [hs.size]; exact hb') hC.below
        have hc20 := pis20 w0 g o n c a' b' e2 wc hs hab2 hb' hn
        generalize partialInsertionSort ltInt e2 a' b' = r at hpi hc20
        obtain ⟨r1, r2⟩ := r
        simp only at hpi hc20
        go_wp2_with fail
        refine hc20.mono ?_
        rintro x w2 ⟨rfl, hs2⟩
        clear hc20
        cases r2
        · go_wp2_with fail
          go_meet
          case rel => exact ⟨r1, hs2, hC.perm (by rw [hs.size]; exact hb') hpi.1⟩
        · go_wp2_with fail
          refine bodyPost_ret (results_none rfl _ _ _) rfl ⟨rfl, hC.done ⟨hpi.1, hpi.2 trivial⟩ hs2⟩
    case rest =>
    clear hs hC
    obtain ⟨e3, hs, hC⟩ := hcut
    obtain ⟨G, hG, hc, hf⟩ := hs.sees
    go_upto_region 17 with fail
    go_cut [87] (fun s87 wx => ∃ B, s87 = .bool B ∧ Aside (B = true → 0 < a' ∧ ltInt e3[a' - 1]! e3[p]! = false) ∧ St w0 g o n e3 wx)
    case first =>
      by_cases ha0 : 0 < a'
      · have ha0z : (0 : Int) < (a' : Int) := by omega
        go_quiet (first | (go_at_call 21; refine Calls.quiet_of_same (lss _ _ _)))
        go_wp2_with fail
        go_meet
        case rel =>
          refine ⟨_, rfl, ?_, hs.drewN nq⟩
          intro hB
          exact ⟨ha0, by rw [← hG.out, ← hG.out]; simpa using hB⟩
      · have ha0z : decide ((0 : Int) < (a' : Int)) = false := decide_eq_false (by omega)
        go_quiet (first | (go_at_call 21; refine Calls.quiet_of_same (lss _ _ _)))
        go_wp2_with fail
        go_meet
        case rel => exact ⟨false, rfl, (fun hB => by cases hB), hs.drewN nq⟩
    case rest =>
    clear hs hc hf
    obtain ⟨B, rfl, hB, hs⟩ := hcut
    have hsz : b' ≤ e3.size := by rw [hs.size]; exact hb'
    cases B
    · obtain ⟨mid, ap, d4, hx⟩ : ∃ mid ap d4, partition ltInt e3 a' b' p = (mid, ap, d4) := ⟨_, _, _, rfl⟩
      obtain ⟨r1, r2, r3, r4, r5, r6, r7⟩ := round_part swo (partition_holds (lt := ltInt)) hp1 hp2 hsz hC.below hx
      have hc23 := prt23 w0 g o n c a' b' p e3 wc hs hp1 hp2 hb' hn
      rw [hx] at hc23
      simp only at hc23
      have R6 : Aside _ := r6
      have R7 : Aside _ := r7
      clear hx r6 r7
      go_upto_if 113 with (go_at_call 23; refine hc23.mono ?_; rintro x w1 ⟨rfl, hs1⟩)
      clear hc23
      by_cases hlr : mid - a' < b' - mid
      · have hz : (mid : Int) - (a' : Int) < (b' : Int) - (mid : Int) := by omega
        have hrec := IH.out (mid - a') (by omega) w0 g o n c a' mid l' d4 w1 (Nat.le_refl _) hs1 r1 (by omega) hn (by omega) r4
        go_wp2_with (go_at_call 12; refine hrec.mono ?_; rintro x w2 ⟨rfl, hw2⟩)
        obtain ⟨Lf, pL, sL, hs2⟩ := hw2
        have q := R6.out Lf pL sL
        go_roundg (b' - (mid + 1))
        case measure => omega
        case rel => exact ⟨mid + 1, b', l', _, ap, Lf, by simp, rfl, rfl, rfl, rfl, by omega, hb', Nat.le_refl _, by omega, hl, hs2, ⟨q.1, fun R p s => hC.fin R (q.2 R p s).1 (q.2 R p s).2⟩⟩
      · have hz : ¬ (mid : Int) - (a' : Int) < (b' : Int) - (mid : Int) := by omega
        have hrec := IH.out (b' - (mid + 1)) (by omega) w0 g o n c (mid + 1) b' l' d4 w1 (Nat.le_refl _) hs1 (by omega) hb' hn (by omega) r5
        rw [show ((mid + 1 : Nat) : Int) = (mid : Int) + 1 by omega] at hrec
        go_wp2_with (go_at_call 12; refine hrec.mono ?_; rintro x w2 ⟨rfl, hw2⟩)
        obtain ⟨Rt, pR, sR, hs2⟩ := hw2
        have q := R7.out Rt pR sR
        go_roundg (mid - a')
        case measure => omega
        case rel => exact ⟨a', mid, l', _, ap, Rt, rfl, rfl, rfl, rfl, rfl, r1, by omega, Nat.le_refl _, by omega, hl, hs2, ⟨q.1, fun R p s => hC.fin R (q.2 R p s).1 (q.2 R p s).2⟩⟩
    · obtain ⟨ha0, hnl⟩ := hB.out rfl
      obtain ⟨mid, d4, hx⟩ : ∃ mid d4, partitionEqual ltInt e3 a' b' p = (mid, d4) := ⟨_, _, rfl⟩
      obtain ⟨r1, r2, r3, r4, r5⟩ := round_eq swo (partitionEqual_holds (lt := ltInt)) ha0 hp1 hp2 hsz hC.below hnl hx
      have hc22 := peq22 w0 g o n c a' b' p e3 wc hs hp1 hp2 hb' hn
      rw [hx] at hc22
      simp only at hc22
      have R5 : Aside _ := r5
      clear hx r5 hnl
      go_wp2_with (go_at_call 22; refine hc22.mono ?_; rintro x w1 ⟨rfl, hs1⟩)
      go_roundg (b' - mid)
      case measure => omega
      case rel => exact ⟨mid, b', l', wb, wp, d4, rfl, rfl, rfl, rfl, rfl, r2, hb', Nat.le_refl _, by omega, hl, hs1, ⟨r4, fun R p s => hC.fin R (R5.out R p s).1 (R5.out R p s).2⟩⟩
end Go.Proofs.Ybulkdsqs
