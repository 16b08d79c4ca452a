/-
  LawS5972COrder: (*waitHeap).Pop and container/heap.Pop.
-/
import Derived.Test.YbulkdsqsOHp
namespace Go.Proofs.Ybulkdsqs
open Go.RowKit Go.Sort
set_option linter.unusedSimpArgs false
set_option linter.unusedVariables false

theorem heap_set {w : World} {b : Nat} {v x : Value} {t : TypeId} {fr : Nat × Nat} (h : w.heap[b]? = some (.cells [v].toArray t fr)) : (w.setCell ⟨b, 0, none⟩ x).heap[b]? = some (.cells [x].toArray t fr) := by
  rw [setCell_eq]
  simp [mapBlock, Array.getElem?_modify, h, onCells]
theorem grown_set (w : World) (b k : Nat) (v : Value) : w.grownBy (w.setCell ⟨b, k, none⟩ v) (some b) :=
  ⟨rfl, rfl, rfl, by simp [World.setCell], fun q _ hq => Below.heap_setCell _ _ _ _ (fun e => hq (by rw [e]))⟩

set_option maxHeartbeats 1600000 in
theorem pop5 (w : World) (hb g n c x : Nat) (hn : 0 < n) (hn1 : n ≤ 4096) (hnc : n ≤ c) (hc1 : c ≤ 9223372036854775807) (hc : w.cell? ⟨hb, 0, none⟩ = some (.slice (some ⟨g, 0, none⟩) n c)) (hf : w.frozen? ⟨hb, 0, none⟩ = false) (hx : w.cell? ⟨g, n - 1, none⟩ = some (.pointer (some ⟨x, 0, none⟩))) :
    Calls Yba.prog 5 #[.pointer (some ⟨hb, 0, none⟩)] w fun e w' => e = .returned (.iface 25 (.pointer (some ⟨x, 0, none⟩))) ∧ w' = w.setCell ⟨hb, 0, none⟩ (.slice (some ⟨g, 0, none⟩) (n - 1) c) := by
  go_enter Yba.func5, Yba.ntmps5
  go_wp2
  go_ret
  exact ⟨rfl, rfl⟩

/-- What heap.Pop leaves. -/
def HPo (w : World) (hb base : Nat) (v : Value) (A : Array Nat) (kf : Nat → Int) (w' : World) : Prop :=
  ∃ v' A', Hv w' hb base v' A' ∧ A'.size + 1 = A.size ∧ (A'.toList ++ [A[0]!]).Perm A.toList ∧ Heap (ks kf A') A'.size ∧ v'.ownBlock = v.ownBlock ∧ Chg (fun q => q = hb ∨ v.ownBlock = some q) w w'

theorem pop_list (d : Array Nat) {n x : Nat} (hn : d.size = n) (h0 : 0 < n) (hx : d[n - 1]! = x) : d.toList = d.pop.toList ++ [x] := by
  subst hn hx
  have e := Array.eq_push_pop_back!_of_size_ne_zero (xs := d) (by omega)
  have e2 := congrArg Array.toList e
  rw [Array.toList_push] at e2
  exact e2
theorem pop_get (kf : Nat → Int) (d : Array Nat) {k : Nat} (hk : k < d.pop.size) : ks kf d.pop k = ks kf d k := by
  unfold ks
  have hk' : k < d.size := by simp at hk; omega
  rw [getElem!_pos d.pop k hk, getElem!_pos d k hk', Array.getElem_pop]

set_option maxHeartbeats 1600000 in
set_option maxRecDepth 1000000 in
theorem hpop10 (w : World) (hb base : Nat) (v : Value) (A : Array Nat) (kf : Nat → Int) (h : Hv w hb base v A) (hn0 : 0 < A.size) (hn : A.size ≤ 4096) (hh : Heap (ks kf A) A.size) (hx : ∀ x ∈ A.toList, Wt w kf x) :
    Calls Yba.prog 10 #[hI hb] w fun e w' => e = .returned (.iface 25 (pc A[0]!)) ∧ HPo w hb base v A kf w' := by
  obtain ⟨a, c, hv1, hg⟩ := own_form h.own
  obtain ⟨g, rfl⟩ := hg hn0
  subst hv1
  obtain ⟨-, s0, K⟩ := h.kx hx
  have hcap : A.size ≤ c ∧ c ≤ 9223372036854775807 := by
    rcases h.own.2 with ⟨e, _⟩ | ⟨g', cap, cur, e, _, _, h1, h2, _⟩
    · simp at e
    · simp at e
      simp only [maxLen] at h2
      obtain ⟨_, rfl⟩ := e
      exact ⟨h1, by omega⟩
  generalize hN : A.size = n at *
  obtain ⟨m, rfl⟩ : ∃ m, n = m + 1 := ⟨n - 1, by omega⟩
  have H : Aside _ := h
  have HH : Aside _ := hh
  have HN : Aside _ := hN
  have mL := K.mLen s0
  clear h hh hN
  go_enter Yba.func10, Yba.ntmps10
  go_wp2_with fail
  refine (len9 _ _ _ _).mono ?_
  rintro e w' ⟨rfl, rfl⟩
  clear mL
  have mS := K.mSwap s0
  go_wp2_with fail
  have hc53 := swap53 c A w' s0 0 m (by omega) (by omega) hn
  refine Calls.mono (by simpa using hc53) ?_
  rintro e w1 ⟨rfl, s1⟩
  clear mS hc53
  have hz := HN.out
  have hp1 : (swp A 0 m).toList.Perm A.toList := swp_perm A (by omega) (by omega)
  have hx1 : (swp A 0 m)[m]! = A[0]! := swp_right A 0 m (by omega)
  have hu : DnI (ks kf (swp A 0 m)) m 0 := by
    rw [ks_swp kf A (by omega) (by omega)]
    refine DnI.start (fun k k0 km pk => ?_)
    unfold sw
    rw [if_neg (by omega), if_neg pk, if_neg (by omega), if_neg (by omega)]
    exact HH.out k k0 (by omega)
  have hc14 := down14 K (swp A 0 m) w1 s1 hp1 m A[0]! (by omega) hn hx1 hu
  clear hu hx1 hp1 hz
  go_wp2_with fail
  refine Calls.mono hc14 ?_
  rintro e w2 ⟨⟨B, rfl⟩, d, p2, q2, x2, s2⟩
  have mP := mPop hb w2
  have hvs := H.out.steps s2
  obtain ⟨G, hG, hc, hf⟩ := s2.sees
  have hxm := hc m (by omega)
  rw [hG.out, x2] at hxm
  have hfr : w2.frozen? ⟨hb, 0, none⟩ = false := by simp [World.frozen?, hvs.1.var]
  have hcall := pop5 w2 hb g (m + 1) c A[0]! (by omega) hn hcap.1 hcap.2 (K.cell s2) hfr (by rw [Nat.add_sub_cancel]; exact hxm)
  rw [Nat.add_sub_cancel] at hcall
  have HV : Aside _ := hvs
  have X2 : Aside _ := x2
  clear hvs hG hc hf hxm hfr hc14 x2
  go_wp2_with fail
  refine hcall.mono ?_
  rintro e w3 ⟨rfl, rfl⟩
  clear mP hcall
  go_wp2_with fail
  refine bodyPost_ret (v := .iface 25 (pc A[0]!)) (by kernel_rfl) rfl ⟨rfl, .slice (some ⟨g, 0, none⟩) m c, d.pop, ?_⟩
  have hz := HN.out
  have hds := s2.size
  have hps : d.pop.size = m := by simp; omega
  obtain ⟨hv2, g2⟩ := HV.out
  have hl := pop_list d (x := A[0]!) hds (by omega) (by rw [Nat.add_sub_cancel]; exact X2.out)
  have gs := grown_set w2 hb 0 (.slice (some ⟨g, 0, none⟩) m c)
  refine ⟨⟨?_, ?_⟩, by omega, ?_, ?_, rfl, ?_⟩
  · exact heap_set hv2.var
  · have ho := hv2.own
    rw [hds, hl] at ho
    have ho2 := own_kept ho gs (fun q hq e => hv2.apart (by rw [hq, e]))
    refine ⟨by simp, .inr ?_⟩
    rcases ho2.2 with ⟨e, _⟩ | ⟨g', cap, cur, e, hb', hg', hc', hm', hsz', ht'⟩
    · simp at e
    · simp at e
      obtain ⟨rfl, rfl⟩ := e
      refine ⟨g, c, cur, by rw [hps], hb', hg', by omega, hm', hsz', ?_⟩
      rw [hps, Nat.mul_one]
      rw [Nat.mul_one] at ht'
      have : (cur.toList.take (m + 1)).take m = cur.toList.take m := by rw [List.take_take, Nat.min_eq_left (by omega)]
      rw [← this, ht', List.map_append, List.take_left' (by rw [List.length_map, Array.length_toList]; exact hps)]
  · rw [← hl]; exact p2
  · rw [hps]
    intro k k0 km
    rw [pop_get kf d (by omega), pop_get kf d (by omega)]
    exact q2 k k0 km
  · refine (Chg.of g2 (fun q e => .inl (.inr e))).trans (S' := fun q => q = hb) (Chg.of gs (fun q e => .inl (by cases e; rfl))) (fun q e => .inl (.inl e))
end Go.Proofs.Ybulkdsqs
