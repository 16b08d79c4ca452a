/-
  LawS5972COrder: container/heap.Push and container/heap.Pop over *waitHeap.
-/
import Derived.Test.YbulkdsqsOPush
namespace Go.Proofs.Ybulkdsqs
open Go.RowKit Go.Sort
set_option linter.unusedSimpArgs false
set_option linter.unusedVariables false

/-- A wait and its number. -/
def Wt (w : World) (kf : Nat → Int) (x : Nat) : Prop := ∃ cs : Array Value, w.heap[x]? = some (.cells cs 33 (0, 0)) ∧ cs[6]? = some (.int .u64 (kf x))
theorem Wt.cell {w : World} {kf : Nat → Int} {x : Nat} (h : Wt w kf x) : w.cell? ⟨x, 6, none⟩ = some (.int .u64 (kf x)) := by
  obtain ⟨cs, h1, h2⟩ := h
  simp only [World.cell?, h1]
  exact h2
theorem Wt.lt {w : World} {kf : Nat → Int} {x : Nat} (h : Wt w kf x) : x < w.heap.size := by
  obtain ⟨cs, h1, h2⟩ := h
  exact (Array.getElem?_eq_some_iff.1 h1).1
theorem Wt.ne {w : World} {kf : Nat → Int} {x g : Nat} {cs : Array Value} {t : TypeId} (h : Wt w kf x) (hg : w.heap[g]? = some (.cells cs t (0, 0))) (ht : t ≠ 33) : x ≠ g := by
  intro e
  subst e
  obtain ⟨cs, h1, h2⟩ := h
  rw [h1] at hg
  simp at hg
  exact ht hg.2.symm
theorem Wt.keep {w w' : World} {kf : Nat → Int} {x : Nat} {S : Nat → Prop} (h : Wt w kf x) (c : Chg S w w') (hn : ¬ S x) : Wt w' kf x := by
  obtain ⟨cs, h1, h2⟩ := h
  exact ⟨cs, c.keep h1 hn, h2⟩
/-- The blocks of the variable and of its row are no waits. -/
theorem Hv.noWait {w : World} {hb base : Nat} {v : Value} {A : Array Nat} {kf : Nat → Int} {x : Nat} (h : Hv w hb base v A) (hx : Wt w kf x) : ¬ (x = hb ∨ v.ownBlock = some x) := by
  rintro (e | e)
  · exact hx.ne h.var (by decide) e
  · rcases h.own.2 with ⟨rfl, _⟩ | ⟨g, cap, cur, rfl, _, hg, _⟩
    · cases e
    · cases e
      exact hx.ne hg (by decide) rfl
theorem Hv.kx {w : World} {hb base g n c : Nat} {A : Array Nat} {kf : Nat → Int} (h : Hv w hb base (.slice (some ⟨g, 0, none⟩) n c) A) (hx : ∀ x ∈ A.toList, Wt w kf x) : A.size = n ∧ Sp w g n A w ∧ Kx w hb g n c kf A.toList := by
  have hap := h.apart
  have hn : A.size = n := by
    rcases h.own.2 with ⟨e, _⟩ | ⟨g', cap, cur, e, _⟩
    · simp at e
    · simp at e; exact e.2.1.symm
  obtain ⟨_, hh, hlt⟩ := own_holds (hn ▸ h.own)
  refine ⟨hn, hn ▸ Sp.start hh hlt, ⟨?_, (Array.getElem?_eq_some_iff.1 h.var).1, fun e => hap (by rw [e]; rfl), fun x hm => ⟨(hx x hm).lt, ?_, (hx x hm).cell⟩⟩⟩
  · simp [World.cell?, h.var]
  · exact fun e => h.noWait (hx x hm) (.inr (by rw [e]; rfl))
/-- The heap's own steps, seen from outside. -/
theorem Hv.steps {w w' : World} {hb base g n c : Nat} {A d : Array Nat} (h : Hv w hb base (.slice (some ⟨g, 0, none⟩) n c) A) (hs : Sp w g n d w') : Hv w' hb base (.slice (some ⟨g, 0, none⟩) n c) d ∧ w.grownBy w' (some g) := by
  have hg := at_grown hs.here
  have hap := h.apart
  have hn : A.size = n := by
    rcases h.own.2 with ⟨e, _⟩ | ⟨g', cap, cur, e, _⟩
    · simp at e
    · simp at e; exact e.2.1.symm
  refine ⟨⟨keep_blk hg h.var (fun e => hap (by rw [e]; rfl)), ?_⟩, hg⟩
  have := at_own hs.here hs.size (hn ▸ h.own)
  rw [hs.size]
  exact this

/-- What heap.Push leaves. -/
def HPu (w : World) (hb base : Nat) (v : Value) (A : Array Nat) (b : Nat) (kf : Nat → Int) (w' : World) : Prop :=
  ∃ v' A', Hv w' hb base v' A' ∧ A'.toList.Perm (A.toList ++ [b]) ∧ Heap (ks kf A') A'.size ∧ (v'.ownBlock = v.ownBlock ∨ ∃ q, v'.ownBlock = some q ∧ w.heap.size ≤ q) ∧ Chg (fun q => q = hb ∨ v.ownBlock = some q) w w'

theorem mPush (hb : Nat) (w : World) : Sem.run Yba.prog (method 226 39 (.pointer (some ⟨hb, 0, none⟩)) "Push") w = .ok (54, .pointer (some ⟨hb, 0, none⟩)) w := by kernel_rfl
theorem mPop (hb : Nat) (w : World) : Sem.run Yba.prog (method 226 39 (.pointer (some ⟨hb, 0, none⟩)) "Pop") w = .ok (5, .pointer (some ⟨hb, 0, none⟩)) w := by kernel_rfl
theorem ks_push (kf : Nat → Int) (A : Array Nat) (b : Nat) {k : Nat} (hk : k < A.size) : ks kf (A.push b) k = ks kf A k := by
  unfold ks
  rw [getElem!_pos (A.push b) k (by simp; omega), getElem!_pos A k hk, Array.getElem_push_lt hk]

set_option maxHeartbeats 1600000 in
set_option maxRecDepth 1000000 in
theorem hpush6 (w : World) (hb base b : Nat) (v : Value) (A : Array Nat) (kf : Nat → Int) (h : Hv w hb base v A) (hn : A.size < 4096) (hbase : base ≤ w.heap.size) (hh : Heap (ks kf A) A.size) (hx : ∀ x ∈ A.toList ++ [b], Wt w kf x) :
    Calls Yba.prog 6 #[hI hb, .iface 25 (pc b)] w fun e w' => e = .returned (.tuple #[]) ∧ HPu w hb base v A b kf w' := by
  have mP := mPush hb w
  go_enter Yba.func6, Yba.ntmps6
  go_wp2_with fail
  refine (push54 w hb base b v A h (by omega) hbase).mono ?_
  rintro e w1 ⟨rfl, v1, h1, ho1, c1⟩
  clear mP
  have hz : (A.push b).size = A.size + 1 := by simp
  obtain ⟨a, c, hv1, hg⟩ := own_form h1.own
  obtain ⟨g, rfl⟩ := hg (by omega)
  subst hv1
  have hx1 : ∀ x ∈ (A.push b).toList, Wt w1 kf x := fun x hm => (hx x (by simpa using hm)).keep c1 (h.noWait (hx x (by simpa using hm)))
  obtain ⟨-, s1, K1⟩ := h1.kx hx1
  have hu : UpI (ks kf (A.push b)) (A.push b).size ((A.push b).size - 1) := by
    rw [hz, Nat.add_sub_cancel]
    refine UpI.start (fun k k0 kn => ?_)
    rw [ks_push kf A b (by omega), ks_push kf A b kn]
    exact hh k k0 kn
  have S1 : Aside _ := s1
  have HU : Aside _ := hu
  have hN : 1 ≤ (A.push b).size ∧ (A.push b).size ≤ 4096 := by omega
  have H1 : Aside _ := h1
  have C1 : Aside _ := c1
  have O1 : Aside _ := ho1
  clear hu h1 c1 hx1 hx ho1 hh hz s1
  have mL := K1.mLen S1.out
  generalize hB : A.push b = B at *
  generalize hNn : B.size = N at *
  go_wp2_with fail
  refine (len9 _ _ _ _).mono ?_
  rintro e w' ⟨rfl, rfl⟩
  clear mL
  have hcall := up11 K1 B w' S1.out (List.Perm.refl _) (N - 1) (by omega) hN.2 HU.out
  rw [show ((N - 1 : Nat) : Int) = (N : Int) - 1 by omega] at hcall
  go_wp2_with fail
  refine hcall.mono ?_
  rintro e w2 ⟨rfl, d, p2, q2, s2⟩
  go_wp2_with fail
  go_end0
  have hv1 := H1.out
  obtain ⟨hv2, g2⟩ := hv1.steps s2
  refine ⟨rfl, _, d, hv2, ?_, ?_, O1.out, ?_⟩
  · rw [← hB] at p2
    simpa using p2
  · rw [s2.size]; exact q2
  · refine C1.out.trans (S' := fun q => q = g) (Chg.of g2 (fun q e => .inl (by cases e; rfl))) (fun q e => ?_)
    subst e
    rcases O1.out with e | ⟨y, e, hy⟩
    · exact .inl (.inr (by rw [← e]; rfl))
    · cases e; exact .inr hy
end Go.Proofs.Ybulkdsqs
