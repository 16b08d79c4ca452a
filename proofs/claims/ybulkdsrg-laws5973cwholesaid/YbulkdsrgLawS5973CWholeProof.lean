/-
  THE PROOF OF 'Rows.LawS5973CWholeSaid': the frame after the guide's shell: a slice of structs of three cells, two arrays of sixteen bytes, four plain values; the walk is 'main_any' (YbulkdsrgCMain.lean).
-/
import Derived.Test.YbulkdsrgRows
import Derived.Test.YbulkdsrgCMain
import Derived.WalkKit
import Derived.ProofKit
import Derived.SizedLaws
import Derived.Deep.Slices
import Derived.OpenShut
import Derived.ShutString
import Derived.ChangeOld
import Derived.Below
namespace Go.Proofs.Ybulkdsrg.lawS5973CWhole
open Go.ChangeShapes Go.WideShapes Go.ChangeAt Go.RowKit
open Go.ChangeMaps (open_string shut_string)
set_option linter.unusedVariables false
set_option linter.unusedSimpArgs false

theorem own : ownKnob Yba.prog.godebug = none := by kernel_rfl
theorem laidOut : laidOutB Yba.prog = true := by kernel_rfl
theorem cells5 : Yba.prog.cellsOf 5 = 1 := by kernel_rfl
theorem cells2 : Yba.prog.cellsOf 2 = 1 := by kernel_rfl
theorem cells23 : Yba.prog.cellsOf 23 = 16 := by kernel_rfl
theorem cells31 : Yba.prog.cellsOf 31 = 3 := by kernel_rfl

section
variable {H : Type} {enc : TypeId × Value → H} {W : World} {base b0 : Nat} {spare : Nat → Bool} {held : Bool}

/-- An array of sixteen bytes that came in. -/
theorem open16 {v : Value} {d : DataW H} {p : List MemPlace} (hval : Value.okWide Yba.prog W .any b0 23 v) (h : DataW.Trod enc Yba.prog W base spare held 23 v d p) : ∃ s : Nat → Int, v = .agg (sc s).toArray ∧ Wb s := by
  unfold Value.okWide at hval
  rw [Yba.underlying23] at hval
  obtain ⟨cs, rfl, hsz, _⟩ := hval
  rw [cells23] at hsz
  obtain ⟨fuel, hf⟩ := h
  obtain ⟨xs, m, _, _, hl, hxl, hx⟩ := DataW.trod_array Yba.underlying23 hf
  have key : ∀ i, i < 16 → ∃ n : Int, cs.toList[i]? = some (.int .u8 n) ∧ (Lit.int .u8 n).wf = true := by
    intro i hi
    have h1 := hx i hi
    rw [cells5, List.getElem?_eq_getElem (by omega)] at h1
    obtain ⟨n, hn, _, hw⟩ := DataW.trod_int Yba.underlying5 h1
    refine ⟨n, ?_, hw⟩
    have h2 : ((cs.toList.drop (i * 1)).take 1)[0]? = some (.int .u8 n) := by
      rw [show (cs.toList.drop (i * 1)).take 1 = [.int .u8 n] from hn]; rfl
    rw [List.getElem?_take_of_lt (by omega), List.getElem?_drop] at h2
    simpa using h2
  obtain ⟨s, hs⟩ := Go.Deep.choose_lt key
  refine ⟨s, ?_, fun i hi => (hs i hi).2⟩
  have : cs.toList = sc s := by
    apply List.ext_getElem?
    intro i
    by_cases hi : i < 16
    · rw [(hs i hi).1]
      have : i = 0 ∨ i = 1 ∨ i = 2 ∨ i = 3 ∨ i = 4 ∨ i = 5 ∨ i = 6 ∨ i = 7 ∨ i = 8 ∨ i = 9 ∨ i = 10 ∨ i = 11 ∨ i = 12 ∨ i = 13 ∨ i = 14 ∨ i = 15 := by omega
      rcases this with rfl | rfl | rfl | rfl | rfl | rfl | rfl | rfl | rfl | rfl | rfl | rfl | rfl | rfl | rfl | rfl <;> rfl
    · rw [List.getElem?_eq_none (by simp; omega), List.getElem?_eq_none (by rw [sc_len]; omega)]
  rw [← this]

/-- The script that came in. -/
theorem open_script {a : Option Addr} {len cap : Nat} {d : DataW H} {p : List MemPlace} (h : DataW.Trod enc Yba.prog W base spare held 22 (.slice a len cap) d p) :
    len ≤ maxLen ∧ ∃ pp qq rr : Nat → Int, (∀ j, j < len → (Lit.int .u8 (qq j)).wf = true) ∧ ∀ j, j < len → ∃ b o, a = some ⟨b, o, none⟩ ∧ b < W.heap.size ∧ W.rangeAt b (o + j * 3) [.int .u8 (pp j), .int .u8 (qq j), .int .i64 (rr j)] := by
  obtain ⟨fuel, hf⟩ := h
  rcases Go.Deep.open_slice Yba.underlying22 hf with ⟨hcs, _⟩ | ⟨x, l, c, m, n, D, Pl, hcs, _, hl, hm, hmm, _, hx⟩
  · simp [Value.cells] at hcs
    obtain ⟨rfl, rfl, rfl⟩ := hcs
    exact ⟨Nat.zero_le _, fun _ => 0, fun _ => 0, fun _ => 0, fun j hj => absurd hj (Nat.not_lt_zero _), fun j hj => absurd hj (Nat.not_lt_zero _)⟩
  · simp [Value.cells] at hcs
    obtain ⟨rfl, rfl, rfl⟩ := hcs
    refine ⟨Nat.le_trans hl hm, ?_⟩
    have hlm : len ≤ m := by rw [hmm]; split <;> omega
    have hsp : 0 < len → x.spot = none := by
      intro h0
      obtain ⟨cs', h1, _⟩ := hx 0 (by omega)
      rw [cells31] at h1
      obtain ⟨_, hlen, hcell⟩ := World.cells?_some h1
      have c0 := hcell 0 (by omega)
      rw [List.getElem?_eq_getElem (by omega), Go.Deep.add_add] at c0
      simpa [Addr.add] using World.cell?_spot c0
    have key : ∀ j, j < len → ∃ t : Int × Int × Int, (Lit.int .u8 t.2.1).wf = true ∧ ∃ b o, x = ⟨b, o, none⟩ ∧ b < W.heap.size ∧ W.rangeAt b (o + j * 3) [.int .u8 t.1, .int .u8 t.2.1, .int .i64 t.2.2] := by
      intro j hj
      obtain ⟨cs', h1, h2⟩ := hx j (by omega)
      rw [cells31] at h1
      obtain ⟨_, hlen, hcell⟩ := World.cells?_some h1
      obtain ⟨xs, k, _, _, _, hxl, hfd⟩ := DataW.trod_struct Yba.underlying31 h2
      match xs, hxl, cs', hlen with
      | [y0, y1, y2], _, [v0, v1, v2], _ =>
        have g0 := hfd 0 _ rfl
        have g1 := hfd 1 _ rfl
        have g2 := hfd 2 _ rfl
        simp only [List.getElem?_cons_zero, List.getElem?_cons_succ] at g0 g1 g2
        obtain ⟨n0, e0, _, w0⟩ := DataW.trod_int Yba.underlying5 g0
        obtain ⟨n1, e1, _, w1⟩ := DataW.trod_int Yba.underlying5 g1
        obtain ⟨n2, e2, _, w2⟩ := DataW.trod_int Yba.underlying2 g2
        cases e0
        cases e1
        cases e2
        obtain ⟨b, o, spot⟩ := x
        have c0 := hcell 0 (by omega)
        have c1 := hcell 1 (by omega)
        have c2 := hcell 2 (by omega)
        rw [Go.Deep.add_add] at c0 c1 c2
        have hspot : spot = none := hsp (by omega)
        subst hspot
        rw [Addr.add_lit] at c0 c1 c2
        refine ⟨(n0, n1, n2), w1, b, o, rfl, ?_, ?_⟩
        · exact World.block_lt_of_cell? W _ c0
        · intro i u hu
          match i with
          | 0 => exact c0.trans hu
          | 1 => exact c1.trans hu
          | 2 => exact c2.trans hu
          | (i + 3) => cases hu
    obtain ⟨t, ht⟩ := Go.Deep.choose_lt key
    refine ⟨fun j => (t j).1, fun j => (t j).2.1, fun j => (t j).2.2, fun j hj => (ht j hj).1, fun j hj => ?_⟩
    obtain ⟨b, o, rfl, h1, h2⟩ := (ht j hj).2
    exact ⟨b, o, rfl, h1, h2⟩
end

/-! ### THE ROW's STEP -/
set_option maxRecDepth 100000 in
theorem lifted (os : Os) (started : os.Started) (H : Type) (enc : TypeId × Value → H) :
    ReturnsInHanded {} Yba.checked os 3 .any (Rows.lawS5973CWholeSpec.pre6 enc Yba.prog Yba.f3 Rows.lawS5973CWholeRow.domain false) (Rows.lawS5973CWholeSpec.post enc Yba.prog Yba.f3 false true false false) := by
  refine returnsInHanded_of_change_sized (C := Yba.checked) own started (by kernel_rfl) Yba.func3
    (ChangeSpec.witness6 (enc := enc) (C := Yba.checked) false ⟨#[], #[.slice none 0 0, .agg #[.int .u8 0, .int .u8 0, .int .u8 0, .int .u8 0, .int .u8 0, .int .u8 0, .int .u8 0, .int .u8 0, .int .u8 0, .int .u8 0, .int .u8 0, .int .u8 0, .int .u8 0, .int .u8 0, .int .u8 0, .int .u8 0], .agg #[.int .u8 0, .int .u8 0, .int .u8 0, .int .u8 0, .int .u8 0, .int .u8 0, .int .u8 0, .int .u8 0, .int .u8 0, .int .u8 0, .int .u8 0, .int .u8 0, .int .u8 0, .int .u8 0, .int .u8 0, .int .u8 0], .int .u32 0, .int .u8 0, .bool false, .int .i64 0], []⟩ 8 (by kernel_rfl) (by kernel_rfl) (by kernel_rfl) (by kernel_rfl)) ?_
  intro W base args ds gs before hval0 hW hcnd hsz0 _
  clear hsz0
  have hval : ∀ (j : Nat) t v, Yba.f3.params[j]? = some t → args[j]? = some v → Value.okWide Yba.prog W .any base t v := hval0
  have hW' := hW
  obtain ⟨p, q, hA0, hV, rfl, hfz, hnd⟩ := hW
  have hA : DataW.TrodAll enc Yba.prog W 0 (fun _ => true) true Yba.f3.params.toList args.toList ds p := hA0
  rw [Yba.params3] at hA hval
  obtain ⟨v0, vs0, d0, ds0, p0, q0, hargs, rfl, rfl, h0, r0⟩ := trodAll_cons hA
  obtain ⟨v1, vs1, d1, ds1, p1, q1, rfl, rfl, rfl, h1, r1⟩ := trodAll_cons r0
  obtain ⟨v2, vs2, d2, ds2, p2, q2, rfl, rfl, rfl, h2, r2⟩ := trodAll_cons r1
  obtain ⟨v3, vs3, d3, ds3, p3, q3, rfl, rfl, rfl, h3, r3⟩ := trodAll_cons r2
  obtain ⟨v4, vs4, d4, ds4, p4, q4, rfl, rfl, rfl, h4, r4⟩ := trodAll_cons r3
  obtain ⟨v5, vs5, d5, ds5, p5, q5, rfl, rfl, rfl, h5, r5⟩ := trodAll_cons r4
  obtain ⟨v6, vs6, d6, ds6, p6, q6, rfl, rfl, rfl, h6, r6⟩ := trodAll_cons r5
  obtain ⟨rfl, rfl, rfl⟩ := trodAll_nil r6
  obtain rfl : args = #[v0, v1, v2, v3, v4, v5, v6] := by cases args; simp_all
  obtain ⟨rfl, rfl⟩ := trodVars_none hV
  have lts : ∀ {t v d p}, DataW.Trod enc Yba.prog W 0 (fun _ => true) true t v d p → ∀ x ∈ p, x.block < W.heap.size := by
    rintro t v d p ⟨m, hm⟩
    exact DataW.trod_lt m _ _ _ hm
  obtain ⟨a0, len0, cap0, rfl⟩ := okWide_slice Yba.underlying22 (hval 0 22 v0 rfl rfl)
  obtain ⟨hN, pp, qq, rr, hq, hrd⟩ := open_script h0
  obtain ⟨s, rfl, hs⟩ := open16 (hval 1 23 v1 rfl rfl) h1
  obtain ⟨dd, rfl, hdd⟩ := open16 (hval 2 23 v2 rfl rfl) h2
  obtain ⟨x, rfl, _, _, hx⟩ := open_int Yba.underlying24 (hval 3 24 v3 rfl rfl) h3
  obtain ⟨pr, rfl, _, _, hpr⟩ := open_int Yba.underlying5 (hval 4 5 v4 rfl rfl) h4
  obtain ⟨vb, rfl, _, _⟩ := open_bool Yba.underlying4 (hval 5 4 v5 rfl rfl) h5
  obtain ⟨ts, rfl, _, _, hts⟩ := open_int Yba.underlying2 (hval 6 2 v6 rfl rfl) h6
  clear hA0 hval0
  refine (main_any (k := ⟨s, dd, pr, vb⟩) ⟨hs, hdd, hpr⟩ W a0 len0 cap0 pp qq rr hN hq hrd x ts hx).mono fun e W' ⟨he, bel⟩ => ?_
  subst he
  exact ⟨_, rfl, _, _, _, [], _, [], hW', trodAll_mk1 (shut_bool Yba.underlying4 _), (trodAll_cons_mk (Below.trod laidOut (by kernel_rfl) (of_decide_eq_true (by kernel_rfl)) h0 bel (lts h0)) (trodAll_cons_mk (Below.trod laidOut (by kernel_rfl) (of_decide_eq_true (by kernel_rfl)) h1 bel (lts h1)) (trodAll_cons_mk (Below.trod laidOut (by kernel_rfl) (of_decide_eq_true (by kernel_rfl)) h2 bel (lts h2)) (trodAll_cons_mk (Below.trod laidOut (by kernel_rfl) (of_decide_eq_true (by kernel_rfl)) h3 bel (lts h3)) (trodAll_cons_mk (Below.trod laidOut (by kernel_rfl) (of_decide_eq_true (by kernel_rfl)) h4 bel (lts h4)) (trodAll_cons_mk (Below.trod laidOut (by kernel_rfl) (of_decide_eq_true (by kernel_rfl)) h5 bel (lts h5)) (trodAll_cons_mk (Below.trod laidOut (by kernel_rfl) (of_decide_eq_true (by kernel_rfl)) h6 bel (lts h6)) trodAll_mk0))))))), rfl, bel.frame _, fun h => by cases h⟩

theorem over : Rows.lawS5973CWholeRow.holds Yba.pinned (OpenSpec.ofChange Rows.lawS5973CWholeSpec) :=
  OpenClaim.holds_of_wide 3 Yba.f3 rfl rfl rfl rfl rfl rfl rfl ⟨rfl, rfl, rfl, rfl, rfl⟩ rfl rfl rfl rfl rfl (by kernel_rfl) Yba.func3 (by kernel_rfl)
    (of_decide_eq_true (by kernel_rfl)) (by unfold Func.isWrapper; first | (rw [if_pos (by decide +kernel)]; kernel_rfl) | (rw [if_neg (by decide +kernel)]; exact ⟨rfl, rfl⟩))
    (fun os started H enc _ => lifted os started H enc)

/-- ████ THE STATEMENT ████ -/
theorem proved : Rows.LawS5973CWholeSaid := over
#print axioms proved
end Go.Proofs.Ybulkdsrg.lawS5973CWhole
