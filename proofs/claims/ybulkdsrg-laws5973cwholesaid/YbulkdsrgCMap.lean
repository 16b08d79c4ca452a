/-
  LawS5973CWhole: the key type's law, how a map's element reads, and the datagram's cells.
-/
import Derived.Test.YbulkdsrgCLaws
import Derived.Maps.OwnSet
import Derived.DeepKeys4
namespace Go.Proofs.Ybulkdsrg
open Go.RowKit
set_option linter.unusedSimpArgs false
set_option linter.unusedVariables false

theorem laid : laidOutB Yba.prog = true := by kernel_rfl
theorem row34 : (34 : TypeId) < Yba.prog.types.size := of_decide_eq_true (by kernel_rfl)
theorem wide34 : (match Yba.prog.underlying 34 with | some (.array _ _) | some (.struct _) => true | _ => false) = true := by kernel_rfl
theorem law34 : WideMaps.KeyLaw Yba.prog 34 := deep_law_laid laid (m := 3) (by omega) row34 (by kernel_rfl) wide34
theorem keyed : Maps.Keyed Yba.prog 34 := Maps.Keyed.of_law law34

/-- All bytes of s are bytes. -/
def Wb (s : Nat → Int) : Prop := ∀ i, i < 16 → (Lit.int .u8 (s i)).wf = true
structure Ky.Wf (k : Ky) : Prop where
  s : Wb k.s
  d : Wb k.d
  pr : (Lit.int .u8 k.pr).wf = true

theorem lits23 (m : Nat) (s : Nat → Int) (h : Wb s) : ∃ l, Yba.prog.keyLits (m + 2) 23 (sc s) = some l := by
  have hc : ∀ i, i < 16 → Yba.prog.keyLits (m + 1) 5 [.int .u8 (s i)] = some [.int .u8 (s i)] := fun i hi => by
    simp [Program.keyLits, Yba.underlying5, h i hi]
  have c5 : Yba.prog.cellsOf 5 = 1 := by kernel_rfl
  have c23 : Yba.prog.cellsOf 23 = 16 := by kernel_rfl
  refine ⟨[.int .u8 (s 0), .int .u8 (s 1), .int .u8 (s 2), .int .u8 (s 3), .int .u8 (s 4), .int .u8 (s 5), .int .u8 (s 6), .int .u8 (s 7), .int .u8 (s 8), .int .u8 (s 9), .int .u8 (s 10), .int .u8 (s 11), .int .u8 (s 12), .int .u8 (s 13), .int .u8 (s 14), .int .u8 (s 15)], ?_⟩
  unfold Program.keyLits
  simp only [Yba.underlying23, c5, c23, sc_len, if_true]
  have e : List.range 16 = [0, 1, 2, 3, 4, 5, 6, 7, 8, 9, 10, 11, 12, 13, 14, 15] := rfl
  rw [e]
  simp [sc, hc]

theorem key34 (k : Ky) (hk : k.Wf) (x : Int) (hx : (Lit.int .u32 x).wf = true) : ∃ l, keyOf Yba.prog 34 (.agg (kc k x).toArray) = some l := by
  obtain ⟨n, hn⟩ : ∃ n, Yba.prog.types.size + 1 = n + 3 := ⟨Yba.prog.types.size - 2, by have h : (34 : Nat) < Yba.prog.types.size := row34; omega⟩
  obtain ⟨l1, h1⟩ := lits23 n k.s hk.s
  obtain ⟨l2, h2⟩ := lits23 n k.d hk.d
  have ht : Yba.prog.keyType 34 = true := by kernel_rfl
  have hf : (Value.agg (kc k x).toArray).formed Yba.prog 34 = true := by kernel_rfl
  have c34 : Yba.prog.cellsOf 34 = 35 := by kernel_rfl
  have c23 : Yba.prog.cellsOf 23 = 16 := by kernel_rfl
  have c24 : Yba.prog.cellsOf 24 = 1 := by kernel_rfl
  have c5 : Yba.prog.cellsOf 5 = 1 := by kernel_rfl
  have c4 : Yba.prog.cellsOf 4 = 1 := by kernel_rfl
  have d1 : (kc k x).take 16 = sc k.s := rfl
  have d2 : ((kc k x).drop 16).take 16 = sc k.d := rfl
  have d3 : ((kc k x).drop 32).take 1 = [.int .u32 x] := rfl
  have d4 : ((kc k x).drop 33).take 1 = [.int .u8 k.pr] := rfl
  have d5 : ((kc k x).drop 34).take 1 = [.bool k.v] := rfl
  have e3 : Yba.prog.keyLits (n + 2) 24 [.int .u32 x] = some [.int .u32 x] := by simp [Program.keyLits, Yba.underlying24, hx]
  have e4 : Yba.prog.keyLits (n + 2) 5 [.int .u8 k.pr] = some [.int .u8 k.pr] := by simp [Program.keyLits, Yba.underlying5, hk.pr]
  have e5 : Yba.prog.keyLits (n + 2) 4 [.bool k.v] = some [.bool k.v] := by simp [Program.keyLits, Yba.underlying4]
  unfold keyOf
  simp only [Yba.underlying34, ht, hf, Bool.and_self, if_true, hn, Value.cells]
  unfold Program.keyLits
  simp [Yba.underlying34, c34, c23, c24, c5, c4, kc_len, d1, d2, d3, d4, d5, h1, h2, e3, e4, e5]

/-- What the key with number x reads as. -/
noncomputable def kl (k : Ky) (x : Int) : Lit := (keyOf Yba.prog 34 (.agg (kc k x).toArray)).getD (.bool false)
theorem kl_key {k : Ky} (hk : k.Wf) {x : Int} (hx : (Lit.int .u32 x).wf = true) : keyOf Yba.prog 34 (.agg (kc k x).toArray) = some (kl k x) := by
  obtain ⟨l, hl⟩ := key34 k hk x hx
  simp [kl, hl]
theorem kl_ne {k : Ky} (hk : k.Wf) {x y : Int} (hx : (Lit.int .u32 x).wf = true) (hy : (Lit.int .u32 y).wf = true) (h : x ≠ y) : kl k x ≠ kl k y := fun e =>
  h (kc_inj (keyed.inj (kl_key hk hx) (by rw [e]; exact kl_key hk hy)))

/-- How an element (a pointer to a whole block, or nil) reads. -/
def Re : Value → Option (DataW Unit × List MemPlace)
  | .pointer none => some (.lit (.int .i64 0), [])
  | .pointer (some ⟨b, 0, none⟩) => some (.lit (.int .i64 (b + 1)), [])
  | _ => none

/-- A pointer to the whole block n, or nil. -/
def vp : Option Nat → Value
  | none => .pointer none
  | some b => .pointer (some ⟨b, 0, none⟩)
def vd : Option Nat → DataW Unit
  | none => .lit (.int .i64 0)
  | some b => .lit (.int .i64 (b + 1))

theorem Re_vp (o : Option Nat) : Re (vp o) = some (vd o, []) := by cases o <;> rfl
theorem vd_inj {o o' : Option Nat} (h : vd o = vd o') : o = o' := by
  cases o <;> cases o' <;> simp [vd] at h ⊢ <;> omega
theorem Re_inv {v : Value} {d : DataW Unit} {ps : List MemPlace} (h : Re v = some (d, ps)) : ∃ o, v = vp o ∧ d = vd o := by
  unfold Re at h
  split at h
  · exact ⟨none, rfl, by simpa [vd, eq_comm] using congrArg Prod.fst (Option.some.inj h)⟩
  · rename_i b
    exact ⟨some b, rfl, by simpa [vd, eq_comm] using congrArg Prod.fst (Option.some.inj h)⟩
  · cases h

end Go.Proofs.Ybulkdsrg
