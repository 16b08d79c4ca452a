/-
  THE PROOF OF 'Rows.LawS5970AWholeSaid': the frame after the guide's shell: three slices of bytes, a slice of structs of four cells, four plain values; the walk is 'main_any' (YbulkdspqAMain.lean).
-/
import Derived.Test.YbulkdspqRows
import Derived.Test.YbulkdspqAMain
import Derived.WalkKit
import Derived.ProofKit
import Derived.SizedLaws
import Derived.Deep.Slices
import Derived.OpenShut
import Derived.ShutString
import Derived.ChangeOld
import Derived.Below
namespace Go.Proofs.Ybulkdspq.lawS5970AWhole
open Go.ChangeShapes Go.WideShapes Go.ChangeAt Go.RowKit
open Go.ChangeMaps (open_string shut_string)
set_option linter.unusedVariables false
set_option linter.unusedSimpArgs false

theorem own : ownKnob Yba.prog.godebug = none := by kernel_rfl
theorem bytes5 : Yba.prog.bytesOf 5 = 1 := by kernel_rfl
theorem bytes43 : Yba.prog.bytesOf 43 = 4 := by kernel_rfl
theorem laidOut : laidOutB Yba.prog = true := by kernel_rfl
theorem cells5 : Yba.prog.cellsOf 5 = 1 := by kernel_rfl
theorem cells4 : Yba.prog.cellsOf 4 = 1 := by kernel_rfl
theorem cells43 : Yba.prog.cellsOf 43 = 4 := by kernel_rfl

/-- WHAT THE WALK IS TOLD OF A SLICE OF INTEGERS THAT CAME IN. -/
def IsRow (k : IntKind) (w : World) (a : Option Addr) (len cap : Nat) (zs : List Int) : Prop :=
  (a = none ∧ len = 0 ∧ cap = 0 ∧ zs = []) ∨
  ∃ x, a = some x ∧ len ≤ cap ∧ cap ≤ maxLen ∧ zs.length = cap ∧ (∀ i, i < zs.length → w.cell? (x.add i) = some (.int k (zs.getD i 0))) ∧ ∀ n ∈ zs, (Lit.int k n).wf = true

theorem rd_bytes {w : World} {a : Option Addr} {len cap : Nat} {zs : List Int} (h : IsRow .u8 w a len cap zs) :
    (zs.take len).length = len ∧ Rd1 w a (zs.take len) ∧ (a = none → len = 0 ∧ cap = 0) ∧ ∀ b ∈ zs.take len, (Lit.int .u8 b).wf = true := by
  rcases h with ⟨rfl, rfl, rfl, rfl⟩ | ⟨x, rfl, hl, hm, hz, hc, hw⟩
  · exact ⟨rfl, fun j x hx => by simp at hx, fun _ => ⟨rfl, rfl⟩, fun b hb => by simp at hb⟩
  · refine ⟨by simp; omega, fun j x' hx => ?_, (fun h => (by cases h)), fun b hb => hw b (List.mem_of_mem_take hb)⟩
    have hj : j < (zs.take len).length := (List.getElem?_eq_some_iff.1 hx).1
    simp at hj
    obtain ⟨b, off, rfl, hc'⟩ := ints_at hc (by omega)
    have hcj := hc' j (by omega)
    have e : zs.getD j 0 = x' := by
      rw [List.getElem?_take_of_lt (by omega)] at hx
      rw [List.getD_eq_getElem?_getD, hx]; rfl
    rw [e] at hcj
    exact ⟨b, off, rfl, World.block_lt_of_cell? w _ hcj, hcj⟩

section
variable {H : Type} {enc : TypeId × Value → H} {W : World} {base : Nat} {spare : Nat → Bool} {held : Bool}
set_option maxRecDepth 100000 in
/-- What was heard, as it came in. -/
theorem open_heard {a : Option Addr} {len cap : Nat} {d : DataW H} {p : List MemPlace} (h : DataW.Trod enc Yba.prog W base spare held 23 (.slice a len cap) d p) :
    (len = 0 ∨ ∃ D E, d = .slice ((List.range len).map D) E) ∧ ∃ hd : List Hd, hd.length = len ∧ Rd3 W a hd ∧ ∀ h ∈ hd, (Lit.int .u8 h.b).wf = true := by
  obtain ⟨fuel, hf⟩ := h
  rcases Go.Deep.open_slice Yba.underlying23 hf with ⟨hcs, _⟩ | ⟨x, l, c, m, n, D, Pl, hcs, _, hl, hm, hmm, hx0, hx⟩
  · simp [Value.cells] at hcs
    obtain ⟨rfl, rfl, rfl⟩ := hcs
    exact ⟨.inl rfl, [], rfl, fun j h hj => by simp at hj, fun h hh => by cases hh⟩
  · simp [Value.cells] at hcs
    obtain ⟨rfl, rfl, rfl⟩ := hcs
    simp only [Prod.mk.injEq] at hx0
    refine ⟨.inr ⟨D, _, hx0.1⟩, ?_⟩
    have hlm : len ≤ m := by rw [hmm]; split <;> omega
    have hsp : 0 < len → x.spot = none := by
      intro h0
      obtain ⟨cs', h1, _⟩ := hx 0 (by omega)
      rw [cells43] at h1
      obtain ⟨_, hlen, hcell⟩ := World.cells?_some h1
      have c0 := hcell 0 (by omega)
      rw [List.getElem?_eq_getElem (by omega), Go.Deep.add_add] at c0
      simpa [Addr.add] using World.cell?_spot c0
    have key : ∀ j, j < len → ∃ t : Int × Int × Bool × Int, (Lit.int .u8 t.2.1).wf = true ∧ ∃ b o, x = ⟨b, o, none⟩ ∧ b < W.heap.size ∧ W.rangeAt b (o + j * 4) (hc4 ⟨t.1, t.2.1, t.2.2.1, t.2.2.2⟩) := by
      intro j hj
      obtain ⟨cs', h1, h2⟩ := hx j (by omega)
      rw [cells43] at h1
      obtain ⟨_, hlen, hcell⟩ := World.cells?_some h1
      obtain ⟨xs, k, _, _, _, hxl, hfd⟩ := DataW.trod_struct Yba.underlying43 h2
      match xs, hxl, cs', hlen with
      | [y0, y1, y2, y3], _, [v0, v1, v2, v3], _ =>
        have g0 := hfd 0 _ rfl
        have g1 := hfd 1 _ rfl
        have g2 := hfd 2 _ rfl
        have g3 := hfd 3 _ rfl
        simp only [List.getElem?_cons_zero, List.getElem?_cons_succ] at g0 g1 g2 g3
        obtain ⟨n0, e0, _, w0⟩ := DataW.trod_int Yba.underlying5 g0
        obtain ⟨n1, e1, _, w1⟩ := DataW.trod_int Yba.underlying5 g1
        obtain ⟨n2, e2, _⟩ := DataW.trod_bool Yba.underlying4 g2
        obtain ⟨n3, e3, _, w3⟩ := DataW.trod_int Yba.underlying5 g3
        cases e0
        cases e1
        cases e2
        cases e3
        obtain ⟨b, o, spot⟩ := x
        have c0 := hcell 0 (by omega)
        have c1 := hcell 1 (by omega)
        have c2 := hcell 2 (by omega)
        have c3 := hcell 3 (by omega)
        rw [Go.Deep.add_add] at c0 c1 c2 c3
        have hspot : spot = none := hsp (by omega)
        subst hspot
        rw [Addr.add_lit] at c0 c1 c2 c3
        refine ⟨(n0, n1, n2, n3), w1, b, o, rfl, World.block_lt_of_cell? W _ c0, ?_⟩
        intro i u hu
        match i with
        | 0 => exact c0.trans hu
        | 1 => exact c1.trans hu
        | 2 => exact c2.trans hu
        | 3 => exact c3.trans hu
        | (i + 4) => cases hu
    obtain ⟨t, ht⟩ := Go.Deep.choose_lt key
    refine ⟨(List.range len).map (fun j => ⟨(t j).1, (t j).2.1, (t j).2.2.1, (t j).2.2.2⟩), by simp, fun j h hj => ?_, fun h hh => ?_⟩
    · have hjl : j < len := by have := (List.getElem?_eq_some_iff.1 hj).1; simpa using this
      simp [hjl] at hj
      subst hj
      obtain ⟨b, o, rfl, h1, h2⟩ := (ht j hjl).2
      exact ⟨b, o, rfl, h1, h2⟩
    · obtain ⟨j, hj, rfl⟩ := List.mem_map.1 hh
      exact (ht j (List.mem_range.1 hj)).1
end

/-! ### THE ROW's STEP -/
set_option maxRecDepth 100000 in
theorem lifted (os : Os) (started : os.Started) (H : Type) (enc : TypeId × Value → H) :
    ReturnsInHanded {} Yba.checked os 3 .any (Rows.lawS5970AWholeSpec.pre6 enc Yba.prog Yba.f3 Rows.lawS5970AWholeRow.domain false) (Rows.lawS5970AWholeSpec.post enc Yba.prog Yba.f3 false true false false) := by
  refine returnsInHanded_of_change_sized (C := Yba.checked) own started (by kernel_rfl) Yba.func3
    (ChangeSpec.witness6 (enc := enc) (C := Yba.checked) false ⟨#[], #[.slice none 0 0, .slice none 0 0, .slice none 0 0, .slice none 0 0, .int .i64 0, .int .u8 0, .int .i64 0, .int .u8 0], []⟩ 8 (by kernel_rfl) (by kernel_rfl) (by kernel_rfl) (by kernel_rfl)) ?_
  intro W base args ds gs before hval0 hW hcnd hsz0 _
  have hsz : (DataW.weightsEach Yba.prog (Yba.f3.params.toList ++ Rows.lawS5970AWholeSpec.plain.varTypes Yba.prog) (ds ++ gs)).all (· ≤ reachBytes) = true := hsz0
  clear hsz0
  have hval : ∀ (j : Nat) t v, Yba.f3.params[j]? = some t → args[j]? = some v → Value.okWide Yba.prog W .any base t v := hval0
  have hW' := hW
  obtain ⟨p, q, hA0, hV, rfl, hfz, hnd⟩ := hW
  have hA : DataW.TrodAll enc Yba.prog W 0 (fun _ => true) true Yba.f3.params.toList args.toList ds p := hA0
  rw [Yba.params3] at hA hval hsz
  obtain ⟨v0, vs0, d0, ds0, p0, q0, hargs, rfl, rfl, h0, r0⟩ := trodAll_cons hA
  obtain ⟨v1, vs1, d1, ds1, p1, q1, rfl, rfl, rfl, h1, r1⟩ := trodAll_cons r0
  obtain ⟨v2, vs2, d2, ds2, p2, q2, rfl, rfl, rfl, h2, r2⟩ := trodAll_cons r1
  obtain ⟨v3, vs3, d3, ds3, p3, q3, rfl, rfl, rfl, h3, r3⟩ := trodAll_cons r2
  obtain ⟨v4, vs4, d4, ds4, p4, q4, rfl, rfl, rfl, h4, r4⟩ := trodAll_cons r3
  obtain ⟨v5, vs5, d5, ds5, p5, q5, rfl, rfl, rfl, h5, r5⟩ := trodAll_cons r4
  obtain ⟨v6, vs6, d6, ds6, p6, q6, rfl, rfl, rfl, h6, r6⟩ := trodAll_cons r5
  obtain ⟨v7, vs7, d7, ds7, p7, q7, rfl, rfl, rfl, h7, r7⟩ := trodAll_cons r6
  obtain ⟨rfl, rfl, rfl⟩ := trodAll_nil r7
  obtain rfl : args = #[v0, v1, v2, v3, v4, v5, v6, v7] := by cases args; simp_all
  obtain ⟨rfl, rfl⟩ := trodVars_none hV
  have lts : ∀ {t v d p}, DataW.Trod enc Yba.prog W 0 (fun _ => true) true t v d p → ∀ x ∈ p, x.block < W.heap.size := by
    rintro t v d p ⟨m, hm⟩
    exact DataW.trod_lt m _ _ _ hm
  have k0 := h0
  have k1 := h1
  have k3 := h3
  obtain ⟨a0, len0, cap0, rfl⟩ := okWide_slice Yba.underlying22 (hval 0 22 v0 rfl rfl)
  obtain ⟨z0, w0, rb0⟩ : ∃ zs, IsRow .u8 W a0 len0 cap0 zs ∧ len0 ≤ 140737488351232 := by
    obtain ⟨fuel, hf⟩ := h0
    rcases open_ints Yba.underlying22 Yba.underlying5 (by kernel_rfl) hf with ⟨hcs, _⟩ | ⟨x, l, c, zs, hcs, _, hl, hm, hz, hx, hcell, hwz⟩
    · simp [Value.cells] at hcs
      obtain ⟨rfl, rfl, rfl⟩ := hcs
      exact ⟨[], .inl ⟨rfl, rfl, rfl, rfl⟩, by omega⟩
    · simp [Value.cells] at hcs
      obtain ⟨rfl, rfl, rfl⟩ := hcs
      refine ⟨zs, .inr ⟨_, rfl, hl, hm, by simpa using hz, hcell, hwz⟩, ?_⟩
      simp only [Prod.mk.injEq] at hx
      have hs := sized_slice hsz (j := 0) (t := 22) (e := 5) rfl (by rw [hx.1]; rfl) Yba.underlying22
      rw [bytes5] at hs
      simp at hz
      simp only [lits, List.length_map, List.length_take, List.length_drop, reachBytes, hz] at hs
      omega
  obtain ⟨t0, y0, n0, f0⟩ := rd_bytes w0
  obtain ⟨a1, len1, cap1, rfl⟩ := okWide_slice Yba.underlying22 (hval 1 22 v1 rfl rfl)
  obtain ⟨z1, w1, rb1⟩ : ∃ zs, IsRow .u8 W a1 len1 cap1 zs ∧ len1 ≤ 140737488351232 := by
    obtain ⟨fuel, hf⟩ := h1
    rcases open_ints Yba.underlying22 Yba.underlying5 (by kernel_rfl) hf with ⟨hcs, _⟩ | ⟨x, l, c, zs, hcs, _, hl, hm, hz, hx, hcell, hwz⟩
    · simp [Value.cells] at hcs
      obtain ⟨rfl, rfl, rfl⟩ := hcs
      exact ⟨[], .inl ⟨rfl, rfl, rfl, rfl⟩, by omega⟩
    · simp [Value.cells] at hcs
      obtain ⟨rfl, rfl, rfl⟩ := hcs
      refine ⟨zs, .inr ⟨_, rfl, hl, hm, by simpa using hz, hcell, hwz⟩, ?_⟩
      simp only [Prod.mk.injEq] at hx
      have hs := sized_slice hsz (j := 1) (t := 22) (e := 5) rfl (by rw [hx.1]; rfl) Yba.underlying22
      rw [bytes5] at hs
      simp at hz
      simp only [lits, List.length_map, List.length_take, List.length_drop, reachBytes, hz] at hs
      omega
  obtain ⟨t1, y1, n1, f1⟩ := rd_bytes w1
  obtain ⟨a3, len3, cap3, rfl⟩ := okWide_slice Yba.underlying22 (hval 3 22 v3 rfl rfl)
  obtain ⟨z3, w3, rb3⟩ : ∃ zs, IsRow .u8 W a3 len3 cap3 zs ∧ len3 ≤ 140737488351232 := by
    obtain ⟨fuel, hf⟩ := h3
    rcases open_ints Yba.underlying22 Yba.underlying5 (by kernel_rfl) hf with ⟨hcs, _⟩ | ⟨x, l, c, zs, hcs, _, hl, hm, hz, hx, hcell, hwz⟩
    · simp [Value.cells] at hcs
      obtain ⟨rfl, rfl, rfl⟩ := hcs
      exact ⟨[], .inl ⟨rfl, rfl, rfl, rfl⟩, by omega⟩
    · simp [Value.cells] at hcs
      obtain ⟨rfl, rfl, rfl⟩ := hcs
      refine ⟨zs, .inr ⟨_, rfl, hl, hm, by simpa using hz, hcell, hwz⟩, ?_⟩
      simp only [Prod.mk.injEq] at hx
      have hs := sized_slice hsz (j := 3) (t := 22) (e := 5) rfl (by rw [hx.1]; rfl) Yba.underlying22
      rw [bytes5] at hs
      simp at hz
      simp only [lits, List.length_map, List.length_take, List.length_drop, reachBytes, hz] at hs
      omega
  obtain ⟨t3, y3, n3, f3⟩ := rd_bytes w3
  obtain ⟨a2, len2, cap2, rfl⟩ := okWide_slice Yba.underlying23 (hval 2 23 v2 rfl rfl)
  obtain ⟨hd2, hds, t2, y2, f2⟩ := open_heard h2
  have rb2 : len2 ≤ 140737488351232 := by
    rcases hd2 with hd2 | ⟨D, E, rfl⟩
    · omega
    · have hs := sized_slice hsz (j := 2) (t := 23) (e := 43) rfl rfl Yba.underlying23
      rw [bytes43] at hs
      simp only [List.length_map, List.length_range, reachBytes] at hs
      omega
  obtain ⟨sf, rfl, _, _, _⟩ := open_int Yba.underlying3 (hval 4 3 v4 rfl rfl) h4
  obtain ⟨sB, rfl, _, _, fs⟩ := open_int Yba.underlying5 (hval 5 5 v5 rfl rfl) h5
  obtain ⟨su, rfl, _, _, _⟩ := open_int Yba.underlying3 (hval 6 3 v6 rfl rfl) h6
  obtain ⟨uB, rfl, _, _, fu⟩ := open_int Yba.underlying5 (hval 7 5 v7 rfl rfl) h7
  clear hA0 hval0
  refine (main_any W a0 a1 a2 a3 len0 cap0 len1 cap1 len2 cap2 len3 cap3 (z0.take len0) (z1.take len1) (z3.take len3) hds sB sf su uB rb0 rb1 rb2 rb3 t0 t1 t2 t3 y0 y1 y2 y3 n0 n1 f0 f1 f2 fs fu).mono fun e W' ⟨he, bel⟩ => ?_
  subst he
  exact ⟨_, rfl, _, _, _, [], _, [], hW', trodAll_mk1 (shut_bool Yba.underlying4 _), (trodAll_cons_mk (Below.trod laidOut (by kernel_rfl) (of_decide_eq_true (by kernel_rfl)) k0 bel (lts k0)) (trodAll_cons_mk (Below.trod laidOut (by kernel_rfl) (of_decide_eq_true (by kernel_rfl)) k1 bel (lts k1)) (trodAll_cons_mk (Below.trod laidOut (by kernel_rfl) (of_decide_eq_true (by kernel_rfl)) h2 bel (lts h2)) (trodAll_cons_mk (Below.trod laidOut (by kernel_rfl) (of_decide_eq_true (by kernel_rfl)) k3 bel (lts k3)) (trodAll_cons_mk (Below.trod laidOut (by kernel_rfl) (of_decide_eq_true (by kernel_rfl)) h4 bel (lts h4)) (trodAll_cons_mk (Below.trod laidOut (by kernel_rfl) (of_decide_eq_true (by kernel_rfl)) h5 bel (lts h5)) (trodAll_cons_mk (Below.trod laidOut (by kernel_rfl) (of_decide_eq_true (by kernel_rfl)) h6 bel (lts h6)) (trodAll_cons_mk (Below.trod laidOut (by kernel_rfl) (of_decide_eq_true (by kernel_rfl)) h7 bel (lts h7)) trodAll_mk0)))))))), rfl, bel.frame _, fun h => by cases h⟩

theorem over : Rows.lawS5970AWholeRow.holds Yba.pinned (OpenSpec.ofChange Rows.lawS5970AWholeSpec) :=
  OpenClaim.holds_of_wide 3 Yba.f3 rfl rfl rfl rfl rfl rfl rfl ⟨rfl, rfl, rfl, rfl, rfl⟩ rfl rfl rfl rfl rfl (by kernel_rfl) Yba.func3 (by kernel_rfl)
    (of_decide_eq_true (by kernel_rfl)) (by unfold Func.isWrapper; first | (rw [if_pos (by decide +kernel)]; kernel_rfl) | (rw [if_neg (by decide +kernel)]; exact ⟨rfl, rfl⟩))
    (fun os started H enc _ => lifted os started H enc)

/-- ████ THE STATEMENT ████ -/
theorem proved : Rows.LawS5970AWholeSaid := over
#print axioms proved
end Go.Proofs.Ybulkdspq.lawS5970AWhole
