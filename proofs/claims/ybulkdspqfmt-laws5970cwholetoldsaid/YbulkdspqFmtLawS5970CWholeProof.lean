/-
  THE PROOF OF 'Rows.LawS5970CWholeToldSaid': the told card; the walk is 'main_any' (YbulkdspqFmtCMain.lean). fmt is never reached.
-/
import Derived.Test.YbulkdspqFmtCards
import Derived.Test.YbulkdspqFmtCMain
import Derived.WalkKit
import Derived.ProofKit
import Derived.SizedLaws
import Derived.Deep.Slices
import Derived.OpenShut
import Derived.ShutString
import Derived.ChangeOld
import Derived.Below
import Derived.SevenToldRow
namespace Go.Proofs.YbulkdspqFmt.lawS5970CWhole
open Go.ChangeShapes Go.WideShapes Go.ChangeAt Go.RowKit
open Go.ChangeMaps (open_string shut_string)
open Go.Extern.Stop Go.Stop Go.Extern
set_option linter.unusedVariables false
set_option linter.unusedSimpArgs false

theorem own : ownKnob Ybaf.prog.godebug = none := by kernel_rfl
theorem bytes22 : Ybaf.prog.bytesOf 22 = 2 := by kernel_rfl
theorem laidOut : laidOutB Ybaf.prog = true := by kernel_rfl

/-- WHAT THE WALK IS TOLD OF A SLICE OF INTEGERS THAT CAME IN. -/
def IsRow (k : IntKind) (w : World) (a : Option Addr) (len cap : Nat) (zs : List Int) : Prop :=
  (a = none ∧ len = 0 ∧ cap = 0 ∧ zs = []) ∨
  ∃ x, a = some x ∧ len ≤ cap ∧ cap ≤ maxLen ∧ zs.length = cap ∧ (∀ i, i < zs.length → w.cell? (x.add i) = some (.int k (zs.getD i 0))) ∧ ∀ n ∈ zs, (Lit.int k n).wf = true
theorem sm_wf {z : Int} (h : (Lit.int .u16 z).wf = true) : Sm z := by
  simp [Lit.wf, IntKind.min, IntKind.max, IntKind.signed, IntKind.bits] at h
  unfold Sm
  omega
theorem u8_wf {z : Int} (h : (Lit.int .u8 z).wf = true) : 0 ≤ z ∧ z < 256 := by
  simp [Lit.wf, IntKind.min, IntKind.max, IntKind.signed, IntKind.bits] at h
  omega
theorem rd_u16 {w : World} {a : Option Addr} {len cap : Nat} {zs : List Int} (h : IsRow .u16 w a len cap zs) :
    (zs.take len).length = len ∧ Rdu w a (zs.take len) ∧ ∀ b ∈ zs.take len, Sm b := by
  rcases h with ⟨rfl, rfl, rfl, rfl⟩ | ⟨x, rfl, hl, hm, hz, hc, hw⟩
  · exact ⟨rfl, fun j x hx => by simp at hx, fun b hb => by simp at hb⟩
  · refine ⟨by simp; omega, fun j x' hx => ?_, fun b hb => sm_wf (hw b (List.mem_of_mem_take hb))⟩
    have hj : j < (zs.take len).length := (List.getElem?_eq_some_iff.1 hx).1
    simp at hj
    obtain ⟨b, off, rfl, hc'⟩ := ints_at hc (by omega)
    have hcj := hc' j (by omega)
    have e : zs.getD j 0 = x' := by
      rw [List.getElem?_take_of_lt (by omega)] at hx
      rw [List.getD_eq_getElem?_getD, hx]; rfl
    rw [e] at hcj
    exact ⟨b, off, rfl, World.block_lt_of_cell? w _ hcj, hcj⟩

set_option maxRecDepth 100000 in
theorem lifted (os : Os) (started : os.Started) (H : Type) (enc : TypeId × Value → H) :
    ReturnsInTold none {} Ybaf.checked os 3 .any Input.okWide ((OpenSpec.ofChange Rows.lawS5970CWholeSpec).preRow enc Ybaf.prog Ybaf.f3 [] false []) (fun F => ((OpenSpec.ofChange Rows.lawS5970CWholeSpec).at F).post enc Ybaf.prog Ybaf.f3 false true false false) (aloneAtReturn Ybaf.prog) nothingAlways := by
  refine returnsInTold_of_row (C := Ybaf.checked) (s := OpenSpec.ofChange Rows.lawS5970CWholeSpec) (by kernel_rfl) own started (by kernel_rfl) Ybaf.func3
    (OpenSpec.witness_stopped (enc := enc) (C := Ybaf.checked) false ⟨#[], #[.int .u16 0, .int .u8 0, .slice none 0 0, .slice none 0 0, .int .u16 0, .int .u8 0, .int .u16 0, .int .u8 0], []⟩ 8 (by kernel_rfl) (by kernel_rfl) (by kernel_rfl) (by kernel_rfl)) ?_
  intro F W base args ds gs before _ hF hval0 hW hcnd _ hsz0 _ _
  have hsz : (DataW.weightsEach Ybaf.prog (Ybaf.f3.params.toList ++ (OpenSpec.ofChange Rows.lawS5970CWholeSpec).bare.plain.varTypes Ybaf.prog) (ds ++ gs)).all (· ≤ reachBytes) = true := hsz0
  clear hsz0
  have hval : ∀ (j : Nat) t v, Ybaf.f3.params[j]? = some t → args[j]? = some v → Value.okWide Ybaf.prog W .any base t v := hval0
  have hW' := hW
  obtain ⟨p, q, hA0, hV, rfl, hfz, hnd⟩ := hW
  have hA : DataW.TrodAll enc Ybaf.prog W 0 (fun _ => true) true Ybaf.f3.params.toList args.toList ds p := hA0
  rw [Ybaf.params3] at hA hval hsz
  obtain ⟨v0, vs0, d0, ds0, p0, q0, hargs, rfl, rfl, h0, r0⟩ := trodAll_cons hA
  obtain ⟨v1, vs1, d1, ds1, p1, q1, rfl, rfl, rfl, h1, r1⟩ := trodAll_cons r0
  obtain ⟨v2, vs2, d2, ds2, p2, q2, rfl, rfl, rfl, h2, r2⟩ := trodAll_cons r1
  obtain ⟨v3, vs3, d3, ds3, p3, q3, rfl, rfl, rfl, h3, r3⟩ := trodAll_cons r2
  obtain ⟨v4, vs4, d4, ds4, p4, q4, rfl, rfl, rfl, h4, r4⟩ := trodAll_cons r3
  obtain ⟨v5, vs5, d5, ds5, p5, q5, rfl, rfl, rfl, h5, r5⟩ := trodAll_cons r4
  obtain ⟨v6, vs6, d6, ds6, p6, q6, rfl, rfl, rfl, h6, r6⟩ := trodAll_cons r5
  obtain ⟨v7, vs7, d7, ds7, p7, q7, rfl, rfl, rfl, h7, r7⟩ := trodAll_cons r6
  obtain ⟨rfl, rfl, rfl⟩ := trodAll_nil r7
  obtain rfl : args = #[v0, v1, v2, v3, v4, v5, v6, v7] := by cases args; simp_all
  obtain ⟨rfl, rfl⟩ := trodVars_none hV
  have lts : ∀ {t v d p}, DataW.Trod enc Ybaf.prog W 0 (fun _ => true) true t v d p → ∀ x ∈ p, x.block < W.heap.size := by
    rintro t v d p ⟨m, hm⟩
    exact DataW.trod_lt m _ _ _ hm
  have k2 := h2
  have k3 := h3
  obtain ⟨a2, len2, cap2, rfl⟩ := okWide_slice Ybaf.underlying23 (hval 2 23 v2 rfl rfl)
  obtain ⟨z2, w2, rb2⟩ : ∃ zs, IsRow .u16 W a2 len2 cap2 zs ∧ len2 ≤ 140737488351232 := by
    obtain ⟨fuel, hf⟩ := h2
    rcases open_ints Ybaf.underlying23 Ybaf.underlying22 (by kernel_rfl) hf with ⟨hcs, _⟩ | ⟨x, l, c, zs, hcs, _, hl, hm, hz, hx, hcell, hwz⟩
    · simp [Value.cells] at hcs
      obtain ⟨rfl, rfl, rfl⟩ := hcs
      exact ⟨[], .inl ⟨rfl, rfl, rfl, rfl⟩, by omega⟩
    · simp [Value.cells] at hcs
      obtain ⟨rfl, rfl, rfl⟩ := hcs
      refine ⟨zs, .inr ⟨_, rfl, hl, hm, by simpa using hz, hcell, hwz⟩, ?_⟩
      simp only [Prod.mk.injEq] at hx
      have hs := sized_slice hsz (j := 2) (t := 23) (e := 22) rfl (by rw [hx.1]; rfl) Ybaf.underlying23
      rw [bytes22] at hs
      simp at hz
      simp only [lits, List.length_map, List.length_take, List.length_drop, reachBytes, hz] at hs
      omega
  obtain ⟨t2, y2, f2⟩ := rd_u16 w2
  obtain ⟨a3, len3, cap3, rfl⟩ := okWide_slice Ybaf.underlying23 (hval 3 23 v3 rfl rfl)
  obtain ⟨z3, w3, rb3⟩ : ∃ zs, IsRow .u16 W a3 len3 cap3 zs ∧ len3 ≤ 140737488351232 := by
    obtain ⟨fuel, hf⟩ := h3
    rcases open_ints Ybaf.underlying23 Ybaf.underlying22 (by kernel_rfl) hf with ⟨hcs, _⟩ | ⟨x, l, c, zs, hcs, _, hl, hm, hz, hx, hcell, hwz⟩
    · simp [Value.cells] at hcs
      obtain ⟨rfl, rfl, rfl⟩ := hcs
      exact ⟨[], .inl ⟨rfl, rfl, rfl, rfl⟩, by omega⟩
    · simp [Value.cells] at hcs
      obtain ⟨rfl, rfl, rfl⟩ := hcs
      refine ⟨zs, .inr ⟨_, rfl, hl, hm, by simpa using hz, hcell, hwz⟩, ?_⟩
      simp only [Prod.mk.injEq] at hx
      have hs := sized_slice hsz (j := 3) (t := 23) (e := 22) rfl (by rw [hx.1]; rfl) Ybaf.underlying23
      rw [bytes22] at hs
      simp at hz
      simp only [lits, List.length_map, List.length_take, List.length_drop, reachBytes, hz] at hs
      omega
  obtain ⟨t3, y3, f3⟩ := rd_u16 w3
  obtain ⟨sv, rfl, _, _, fs⟩ := open_int Ybaf.underlying22 (hval 0 22 v0 rfl rfl) h0
  obtain ⟨hv, rfl, _, _, fh⟩ := open_int Ybaf.underlying5 (hval 1 5 v1 rfl rfl) h1
  obtain ⟨su, rfl, _, _, fsu⟩ := open_int Ybaf.underlying22 (hval 4 22 v4 rfl rfl) h4
  obtain ⟨ss, rfl, _, _, fss⟩ := open_int Ybaf.underlying5 (hval 5 5 v5 rfl rfl) h5
  obtain ⟨al, rfl, _, _, fal⟩ := open_int Ybaf.underlying22 (hval 6 22 v6 rfl rfl) h6
  obtain ⟨asl, rfl, _, _, fas⟩ := open_int Ybaf.underlying5 (hval 7 5 v7 rfl rfl) h7
  clear hA0 hval0
  refine (main_any W sv hv su ss al asl a2 a3 len2 cap2 len3 cap3 (z2.take len2) (z3.take len3) rb2 rb3 t2 t3 y2 y3 f2 f3 (sm_wf fs) (u8_wf fh) (sm_wf fsu) (u8_wf fss) (sm_wf fal) (u8_wf fas)).mono fun e W' ⟨he, gr⟩ => ?_
  have bel : Below W.heap.size W W' := ⟨gr.os, gr.tape, gr.output, gr.size, fun k hk => gr.block k hk (by simp)⟩
  subst he
  exact ⟨_, rfl, _, _, _, [], _, [], hW', trodAll_mk1 (shut_bool Ybaf.underlying4 _), (trodAll_cons_mk (Below.trod laidOut (by kernel_rfl) (of_decide_eq_true (by kernel_rfl)) h0 bel (lts h0)) (trodAll_cons_mk (Below.trod laidOut (by kernel_rfl) (of_decide_eq_true (by kernel_rfl)) h1 bel (lts h1)) (trodAll_cons_mk (Below.trod laidOut (by kernel_rfl) (of_decide_eq_true (by kernel_rfl)) k2 bel (lts k2)) (trodAll_cons_mk (Below.trod laidOut (by kernel_rfl) (of_decide_eq_true (by kernel_rfl)) k3 bel (lts k3)) (trodAll_cons_mk (Below.trod laidOut (by kernel_rfl) (of_decide_eq_true (by kernel_rfl)) h4 bel (lts h4)) (trodAll_cons_mk (Below.trod laidOut (by kernel_rfl) (of_decide_eq_true (by kernel_rfl)) h5 bel (lts h5)) (trodAll_cons_mk (Below.trod laidOut (by kernel_rfl) (of_decide_eq_true (by kernel_rfl)) h6 bel (lts h6)) (trodAll_cons_mk (Below.trod laidOut (by kernel_rfl) (of_decide_eq_true (by kernel_rfl)) h7 bel (lts h7)) trodAll_mk0)))))))), rfl, bel.frame _, fun h => by cases h⟩

theorem laidOutP : laidOutB Ybaf.pinned.checked.prog = true := by kernel_rfl
theorem stops : Ybaf.pinned.checked.prog.stops = ["fmt.errorf"] := by kernel_rfl
theorem stopKnobs : Ybaf.pinned.checked.prog.stopKnobs = [] := by kernel_rfl
theorem quiet (os : Os) : Stop.quiet Ybaf.pinned.checked.prog os := by
  intro k hk
  rw [stopKnobs] at hk
  cases hk

/-- ████ THE STATEMENT ████ -/
theorem proved : Rows.LawS5970CWholeToldSaid :=
  Claim7.holds_of_told_any 3 Ybaf.f3 "fmt.errorf" [] [] _ _ _ (by kernel_rfl) rfl rfl rfl laidOutP (by kernel_rfl) rfl ⟨rfl, rfl, rfl, rfl, rfl, rfl, rfl⟩ rfl rfl (by kernel_rfl) (by kernel_rfl) Ybaf.func3 (by kernel_rfl)
    (of_decide_eq_true (by kernel_rfl)) (of_decide_eq_true (by kernel_rfl)) stops.symm rfl stopKnobs.symm (by kernel_rfl)
    (by kernel_rfl) (by kernel_rfl) (by kernel_rfl) (by kernel_rfl) (by kernel_rfl) (by kernel_rfl) (by kernel_rfl) (by kernel_rfl) (by kernel_rfl) rfl (by kernel_rfl) rfl rfl
    rfl rfl
    rfl (by kernel_rfl) (by kernel_rfl) (by kernel_rfl) (by decide) (by kernel_rfl)
    (OpenClaim.moreEntering_of (by kernel_rfl) (by kernel_rfl) (by kernel_rfl) (by kernel_rfl) (by kernel_rfl) (by kernel_rfl) (by kernel_rfl) (by kernel_rfl) (by kernel_rfl) (by kernel_rfl))
    ⟨_, WideRow.started_initial, quiet _⟩
    (fun os started _ H enc _ => lifted os started H enc)
#print axioms proved
end Go.Proofs.YbulkdspqFmt.lawS5970CWhole
