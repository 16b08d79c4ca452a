/-
  THE WALK of LawS5972CWhole (3), and of (*waitHeap).Pop (5).
-/
import Derived.Test.YbulkdsqsProg
import Derived.WalkKit
import Derived.WalkSpells
import Derived.WalkLawsBesides
import Derived.LaidEqlPtr
import Derived.Below
import Derived.BigQuiet
import Derived.Deep.QuietTactic
import Derived.Deep.LoopGhost
import Derived.Deep.OwnRows
import Derived.Deep.DeepCutAuto
import Derived.Deep.CutBlock
import Derived.WalkSmall
namespace Go.Proofs.Ybulkdsqs
open Go.RowKit
set_option linter.unusedSimpArgs false
set_option linter.unusedVariables false

theorem Yba.info25 : (Yba.prog.info? 25).map (fun i => (i.zero, i.size, i.bytes)) = some (some (.pointer none), 1, 8) := by kernel_rfl

theorem info33 : ∃ j, Yba.prog.info? 33 = some j ∧ j.size = 10 := by
  obtain ⟨j, hj, hs⟩ := Option.map_eq_some_iff.1 (show (Yba.prog.info? 33).map (·.size) = some 10 by kernel_rfl)
  exact ⟨j, hj, hs⟩

theorem neq_same (a : Addr) (w : World) : (binOp .neq 25 (.pointer (some a)) (.pointer (some a))).run Yba.prog w = .ok (.bool false) w := by
  obtain ⟨j, hj, _⟩ := info33
  have h : ∀ d : Nat, (Op.equalIn (d + 1) 25 (.pointer (some a)) (.pointer (some a))).run Yba.prog w = .ok true w := fun d => by
    simp [Op.equalIn, run_underlying Yba.underlying25, sizeOf, typeInfo, hj, run_sameAddr_same]
  simp only [binOp]
  simp [Op.equal, Op.maxDepth, h 9999]

theorem grownBy_setCell (w : World) (b o : Nat) (v : Value) : w.grownBy (w.setCell ⟨b, o, none⟩ v) (some b) :=
  ⟨rfl, rfl, rfl, by simp [World.setCell], fun k _ hk => Below.heap_setCell _ _ _ _ (fun e => hk (by rw [e]))⟩

theorem pop_any (bh g n c : Nat) (p : Option Addr) (w : World) (hn : 0 < n) (hn1 : n ≤ 1048576) (hnc : n ≤ c) (hc : w.cell? ⟨bh, 0, none⟩ = some (.slice (some ⟨g, 0, none⟩) n c)) (hf : w.frozen? ⟨bh, 0, none⟩ = false) (hx : w.cell? ⟨g, n - 1, none⟩ = some (.pointer p)) :
    Calls Yba.prog 5 #[.pointer (some ⟨bh, 0, none⟩)] w fun e w' => e = .returned (.iface 25 (.pointer p)) ∧ w' = w.setCell ⟨bh, 0, none⟩ (.slice (some ⟨g, 0, none⟩) (n - 1) c) := by
  go_enter Yba.func5, Yba.ntmps5
  go_wp2
  go_ret
  exact ⟨rfl, rfl⟩

theorem assert_wait (a : Addr) (w : World) : (Instr.typeAssert (.iface 25 (.pointer (some a))) 20 25 true).run Yba.prog w = .ok (.tuple #[.pointer (some a), .bool true]) w := by kernel_rfl

/-- The first loop: j waits are made. -/
structure Half (w wr : World) (n j : Nat) (sq : Nat → Int) (it : Nat → ByteArray) : Prop where
  below : Below w.heap.size w wr
  size : wr.heap.size = w.heap.size + 1 + j
  ws : wr.rowIs w.heap.size 25 n (fun t => if t < j then .pointer (some ⟨w.heap.size + 1 + t, 0, none⟩) else .pointer none)
  seq : ∀ t, t < j → wr.cell? ⟨w.heap.size + 1 + t, 6, none⟩ = some (.int .u64 (sq t))
  item : ∀ t, t < j → wr.cell? ⟨w.heap.size + 1 + t, 1, none⟩ = some (.string (it t))

theorem Half_start (w : World) (n : Nat) (sq : Nat → Int) (it : Nat → ByteArray) : Half w (w.alloc (.cells (madeCells #[.pointer none] n) 25)) n 0 sq it :=
  ⟨(Below.refl _ _).alloc (Nat.le_refl _) _, by simp, (World.rowIs_made w (.pointer none) n 25).congr (fun t _ => by simp), fun t ht => absurd ht (Nat.not_lt_zero _), fun t ht => absurd ht (Nat.not_lt_zero _)⟩

theorem Half_step {w wr : World} {n j : Nat} {sq : Nat → Int} {it : Nat → ByteArray} (h : Half w wr n j sq it) (c : Array Value) (h1 : c[1]? = some (.string (it j))) (h6 : c[6]? = some (.int .u64 (sq j))) :
    Half w ((wr.setCell ⟨w.heap.size, j, none⟩ (.pointer (some ⟨w.heap.size + 1 + j, 0, none⟩))).alloc (.cells c 33)) n (j + 1) sq it := by
  have hs := h.size
  have z1 : (wr.setCell ⟨w.heap.size, j, none⟩ (.pointer (some ⟨w.heap.size + 1 + j, 0, none⟩))).heap.size = w.heap.size + 1 + j := by simpa [World.setCell] using hs
  have hb : ∀ k, k < w.heap.size + 1 + j → k ≠ w.heap.size → ((wr.setCell ⟨w.heap.size, j, none⟩ (.pointer (some ⟨w.heap.size + 1 + j, 0, none⟩))).alloc (.cells c 33)).heap[k]? = wr.heap[k]? := fun k hk hne =>
    (Below.heap_alloc _ _ _ (by omega)).trans (Below.heap_setCell _ _ _ _ hne)
  have hn : ((wr.setCell ⟨w.heap.size, j, none⟩ (.pointer (some ⟨w.heap.size + 1 + j, 0, none⟩))).alloc (.cells c 33)).heap[w.heap.size + 1 + j]? = some (.cells c 33 (0, 0)) := by
    have := heap_alloc_new (wr.setCell ⟨w.heap.size, j, none⟩ (.pointer (some ⟨w.heap.size + 1 + j, 0, none⟩))) (.cells c 33)
    rw [z1] at this
    exact this
  refine ⟨(h.below.setCell (Nat.le_refl _) _).alloc (by omega) _, by simp [hs]; omega, ((h.ws.set j _).alloc _).congr (fun t _ => ?_), fun t ht => ?_, fun t ht => ?_⟩
  · by_cases e : t = j
    · subst e; simp
    · have e' : (t < j + 1) = (t < j) := by rw [eq_iff_iff]; omega
      simp [e, e']
  · by_cases e : t = j
    · subst e; simp only [World.cell?, hn]; exact h6
    · exact (World.cell?_of_block (a := ⟨w.heap.size + 1 + t, 6, none⟩) (hb (w.heap.size + 1 + t) (by omega) (by omega))).trans (h.seq t (by omega))
  · by_cases e : t = j
    · subst e; simp only [World.cell?, hn]; exact h1
    · exact (World.cell?_of_block (a := ⟨w.heap.size + 1 + t, 1, none⟩) (hb (w.heap.size + 1 + t) (by omega) (by omega))).trans (h.item t (by omega))

/-- Behind the copy. -/
structure Full (w wr : World) (n k : Nat) (sq : Nat → Int) (it : Nat → ByteArray) : Prop where
  below : Below w.heap.size w wr
  size : w.heap.size + 3 + n ≤ wr.heap.size
  ws : wr.rowIs w.heap.size 25 n (fun t => .pointer (some ⟨w.heap.size + 1 + t, 0, none⟩))
  hp : wr.rowIs (w.heap.size + 1 + n) 25 n (fun t => .pointer (some ⟨w.heap.size + 1 + t, 0, none⟩))
  box : wr.rowIs (w.heap.size + 1 + n + 1) 34 1 (fun _ => .slice (some ⟨w.heap.size + 1 + n, 0, none⟩) k n)
  seq : ∀ t, t < n → wr.cell? ⟨w.heap.size + 1 + t, 6, none⟩ = some (.int .u64 (sq t))
  item : ∀ t, t < n → wr.cell? ⟨w.heap.size + 1 + t, 1, none⟩ = some (.string (it t))

theorem Half_copy {w wr : World} {n : Nat} {sq : Nat → Int} {it : Nat → ByteArray} (h : Half w wr n n sq it) (ty : TypeId) :
    ∃ W2, (Builtin.copy_ #[34, 24] ty #[.slice (some ⟨w.heap.size + 1 + n, 0, none⟩) n n, .slice (some ⟨w.heap.size, 0, none⟩) n n]).run Yba.prog ((wr.alloc (.cells (madeCells #[.pointer none] n) 25)).alloc (.cells #[.slice (some ⟨w.heap.size + 1 + n, 0, none⟩) n n] 34)) = .ok (goInt n) W2 ∧ Full w W2 n n sq it := by
  have hs := h.size
  obtain ⟨W, hW⟩ : ∃ W, W = (wr.alloc (.cells (madeCells #[.pointer none] n) 25)).alloc (.cells #[.slice (some ⟨w.heap.size + 1 + n, 0, none⟩) n n] 34) := ⟨_, rfl⟩
  have b1 : ∀ k, k < w.heap.size + 1 + n → W.heap[k]? = wr.heap[k]? := fun k hk => by
    rw [hW]; exact (Below.heap_alloc _ _ _ (by simp; omega)).trans (Below.heap_alloc _ _ _ (by omega))
  have b2 : W.heap[w.heap.size + 1 + n]? = some (.cells (madeCells #[.pointer none] n) 25 (0, 0)) := by
    rw [hW]
    refine (Below.heap_alloc _ _ _ (by simp; omega)).trans ?_
    rw [← hs]; exact heap_alloc_new wr _
  have b3 : W.heap[w.heap.size + 1 + n + 1]? = some (.cells #[.slice (some ⟨w.heap.size + 1 + n, 0, none⟩) n n] 34 (0, 0)) := by
    rw [hW]
    have := heap_alloc_new (wr.alloc (.cells (madeCells #[.pointer none] n) 25)) (.cells #[.slice (some ⟨w.heap.size + 1 + n, 0, none⟩) n n] 34)
    simp only [World.size_alloc, hs] at this
    exact this
  have zW : W.heap.size = w.heap.size + 3 + n := by rw [hW]; simp [hs]; omega
  have bW : Below w.heap.size w W := by rw [hW]; exact (h.below.alloc h.below.size _).alloc (by have := h.below.size; simp; omega) _
  have hws : W.rowIs w.heap.size 25 n (fun t => .pointer (some ⟨w.heap.size + 1 + t, 0, none⟩)) := (h.ws.of_block (b1 _ (by omega))).congr (fun t ht => by simp [ht])
  rw [← hW]
  have hlen : ((List.range n).map (fun t : Nat => Value.pointer (some ⟨w.heap.size + 1 + t, 0, none⟩))).length = n := by simp
  have hr := run_copy_row (P := Yba.prog) W 34 24 ty 25 (w.heap.size + 1 + n) 0 n n ⟨w.heap.size, 0, none⟩ n n (madeCells #[.pointer none] n) 25 ((List.range n).map (fun t : Nat => Value.pointer (some ⟨w.heap.size + 1 + t, 0, none⟩))) Yba.underlying34 (by kernel_rfl) b2 (by rw [hlen]; exact (Nat.min_self n).symm)
    (fun j v hj => by
      rw [List.getElem?_map] at hj
      obtain ⟨t, ht, rfl⟩ := Option.map_eq_some_iff.1 hj
      obtain ⟨hlt, e⟩ := List.getElem?_eq_some_iff.1 ht
      simp only [List.length_range] at hlt
      simp only [List.getElem_range] at e
      subst e
      rw [Addr.add_lit, Nat.zero_add]
      exact hws.cell hlt)
    (by rw [hlen, size_madeCells]; omega) (fun v hv => by obtain ⟨t, _, rfl⟩ := List.mem_map.1 hv; rfl)
  rw [hlen] at hr
  have e0 : (madeCells #[Value.pointer none] n).toList.drop (0 + n) = [] := List.drop_eq_nil_of_le (by simp [size_madeCells])
  rw [e0, List.take_zero, List.nil_append, List.append_nil] at hr
  refine ⟨_, hr, ?_⟩
  have hO : ∀ k, k ≠ w.heap.size + 1 + n → (W.setRow (w.heap.size + 1 + n) ((List.range n).map (fun t : Nat => Value.pointer (some ⟨w.heap.size + 1 + t, 0, none⟩))).toArray).heap[k]? = W.heap[k]? := fun k hk => setRow_other _ _ _ _ hk
  refine ⟨bW.trans ⟨rfl, rfl, rfl, by simp [World.setRow], fun k hk => hO k (by omega)⟩, by simp [World.setRow, zW], hws.of_block (hO _ (by omega)), ⟨_, setRow_heap _ _ _ _ _ _ b2, by simp, fun t ht => by simp [ht]⟩, ⟨_, (hO _ (by omega)).trans b3, rfl, fun t ht => by
      match t, ht with
      | 0, _ => rfl⟩, fun t ht => ?_, fun t ht => ?_⟩
  · exact (World.cell?_of_block (a := ⟨w.heap.size + 1 + t, 6, none⟩) ((hO (w.heap.size + 1 + t) (by omega)).trans (b1 (w.heap.size + 1 + t) (by omega)))).trans (h.seq t ht)
  · exact (World.cell?_of_block (a := ⟨w.heap.size + 1 + t, 1, none⟩) ((hO (w.heap.size + 1 + t) (by omega)).trans (b1 (w.heap.size + 1 + t) (by omega)))).trans (h.item t ht)

theorem Full.pop {w wr : World} {n : Nat} {sq : Nat → Int} {it : Nat → ByteArray} (h : Full w wr n n sq it) : Full w (wr.setCell ⟨w.heap.size + 1 + n + 1, 0, none⟩ (.slice (some ⟨w.heap.size + 1 + n, 0, none⟩) (n - 1) n)) n (n - 1) sq it := by
  have hs := h.size
  have hb : ∀ k, k ≠ w.heap.size + 1 + n + 1 → (wr.setCell ⟨w.heap.size + 1 + n + 1, 0, none⟩ (.slice (some ⟨w.heap.size + 1 + n, 0, none⟩) (n - 1) n)).heap[k]? = wr.heap[k]? := fun k hk => Below.heap_setCell _ _ _ _ hk
  refine ⟨h.below.setCell (by show w.heap.size ≤ w.heap.size + 1 + n + 1; omega) _, by simpa [World.setCell] using hs, h.ws.of_block (hb _ (by omega)), h.hp.of_block (hb _ (by omega)), (h.box.set 0 _).congr (fun t ht => by
    match t, ht with
    | 0, _ => rfl), fun t ht => ?_, fun t ht => ?_⟩
  · exact (World.cell?_of_block (a := ⟨w.heap.size + 1 + t, 6, none⟩) (hb (w.heap.size + 1 + t) (by omega))).trans (h.seq t ht)
  · exact (World.cell?_of_block (a := ⟨w.heap.size + 1 + t, 1, none⟩) (hb (w.heap.size + 1 + t) (by omega))).trans (h.item t ht)

set_option maxHeartbeats 1600000 in
set_option maxRecDepth 100000 in
theorem mainC (b0 o0 n c0 : Nat) (a1 : Option Addr) (m c1 : Nat) (sq : Nat → Int) (sx it : Nat → ByteArray) (w : World) (hn0 : 0 < n) (hn : n + m ≤ 1048576)
    (h0 : ∀ i, i < n → w.cell? ⟨b0, o0 + i, none⟩ = some (.int .u64 (sq i)))
    (h1 : ∀ i, i < m → ∃ b off, a1 = some ⟨b, off, none⟩ ∧ w.cell? ⟨b, off + i, none⟩ = some (.string (sx i)))
    (hit : ∀ i, it i = if i < m then sx i else ByteArray.empty) :
    Calls Yba.prog 3 #[.slice (some ⟨b0, o0, none⟩) n c0, .slice a1 m c1] w fun e w' => e = .returned (.bool true) ∧ Below w.heap.size w w' := by
  have t0 : ((n : Int) == 0) = false := by simp; omega
  have t1 : ¬ (1048576 : Int) < (n : Int) + (m : Int) := by omega
  have hmk := run_make_row' (P := Yba.prog) 24 25 (.pointer none) 8 Yba.underlying24 Yba.info25 rfl .i64 .i64 n (by omega) (by omega)
  have HI : Hid (∀ i, it i = if i < m then sx i else ByteArray.empty) := hit
  clear hit
  go_enter Yba.func3, Yba.ntmps3
  go_wp2_with fail
  clear hmk
  go_loopg [7] n (fun q v wr => ∃ j : Nat, j + q = n ∧ v = .int .i64 j ∧ Half w wr n j sq it)
  case atStart => exact ⟨0, by omega, rfl, Half_start w n sq it⟩
  case round =>
    obtain ⟨j, hj, rfl, hH⟩ := hrel
    by_cases hjn : j < n
    · have c := hH.ws.cell hjn
      rw [if_neg (Nat.lt_irrefl j)] at c
      have f := hH.ws.frozen j
      have hs := hH.size
      have hlt : w.heap.size < w.heap.size + 1 + j := by omega
      have hjn' : (j : Int) < n := by omega
      have k0 := cell_later hH.below (h0 j hjn)
      have hB := hH.below
      go_upto_if 37 with fail
      go_cut [8] (fun v wx => v = .string (it j) ∧ wr = wx)
      case first =>
        by_cases hjm : j < m
        · obtain ⟨b1, o1, rfl, e1⟩ := h1 j hjm
          have e1' := cell_later hB e1
          have hjm' : (j : Int) < m := by omega
          clear hH hB h0
          go_wp2_with fail
          go_meet
          case rel => exact ⟨by rw [HI.out j, if_pos hjm], rfl⟩
        · clear hH hB h0
          go_wp2_with fail
          go_meet
          case rel => exact ⟨by rw [HI.out j, if_neg hjm]; rfl, rfl⟩
      case rest =>
        obtain ⟨rfl, rfl⟩ := hcut
        have HH : Hid (Half w wr n j sq it) := hH
        clear hH hB h0 h1
        go_wp2_with fail
        go_roundg (n - (j + 1))
        case measure => omega
        case rel => exact ⟨j + 1, by omega, by go_num, Half_step HH.out _ rfl rfl⟩
    · obtain rfl : n = j := by omega
      have hmk := run_make_row' (P := Yba.prog) 34 25 (.pointer none) 8 Yba.underlying34 Yba.info25 rfl .i64 .i64 n (by omega) (by omega)
      have hs := hH.size
      obtain ⟨W2, hcopy, hF⟩ := Half_copy hH 3
      clear hH
      have cb := hF.box.cell (i := 0) (by decide)
      go_wp2_with fail
      clear hcopy hmk cb hs
      have HP := hF.pop
      have hx := hF.hp.cell (i := n - 1) (by omega)
      refine (pop_any (w.heap.size + 1 + n + 1) (w.heap.size + 1 + n) n n _ _ hn0 (by omega) (Nat.le_refl _) (hF.box.cell (by decide)) (hF.box.frozen 0) hx).mono ?_
      rintro e w3 ⟨rfl, hw3⟩
      rw [← hw3] at HP
      clear hw3 hF hx
      have cb := HP.box.cell (i := 0) (by decide)
      have cw := HP.ws.cell (i := n - 1) (by omega)
      have hns := neq_same
      have n1 : ((n - 1 : Nat) : Int) = (n : Int) - 1 := by omega
      have has := assert_wait
      go_wp2_with fail
      clear has cb cw
      go_loopg [14] (n - 1) (fun q v wx => ∃ i : Nat, i + q = n - 1 ∧ v = .int .i64 i ∧ ∃ d, wx = w3.drewN d)
      case atStart => exact ⟨0, by omega, rfl, 0, rfl⟩
      case round =>
        obtain ⟨i, hi, rfl, d, rfl⟩ := hrel
        have cb := HP.box.cell (i := 0) (by decide)
        by_cases hin : i < n - 1
        · have e1 := HP.ws.cell (i := i) (by omega)
          have e2 := HP.hp.cell (i := i) (by omega)
          have hin' : (i : Int) < (n : Int) - 1 := by omega
          have hin2 : (i : Int) < (n : Int) := by omega
          go_wp2_with fail
          go_quiet (fail)
          go_wp2_with fail
          go_roundg (n - 1 - (i + 1))
          case measure => omega
          case rel => exact ⟨i + 1, by omega, by go_num, _, rfl⟩
        · obtain rfl : n - 1 = i := by omega
          clear hin cb hi
          go_wp2_with fail
          clear n1
          go_loopg [15] n (fun q v wx => ∃ i : Nat, i + q = n ∧ v = .int .i64 i ∧ ∃ d, wx = w3.drewN d)
          case atStart => exact ⟨0, by omega, rfl, d, rfl⟩
          case round =>
            obtain ⟨i, hi, rfl, d, rfl⟩ := hrel
            by_cases hin : i < n
            · have e1 := HP.ws.cell hin
              have e2 := HP.hp.cell hin
              have e3 := HP.seq i hin
              have e4 := HP.item i hin
              have e5 := cell_later HP.below (h0 i hin)
              have hin2 : (i : Int) < (n : Int) := by omega
              have hB := HP.below
              go_upto_if 118 with (go_quiet (fail))
              go_cut [16] (fun v wx => v = .string (it i) ∧ ∃ d', wx = w3.drewN d')
              case first =>
                by_cases hjm : i < m
                · obtain ⟨b1, o1, rfl, f1⟩ := h1 i hjm
                  have f1' := cell_later hB f1
                  have hjm' : (i : Int) < m := by omega
                  clear hB h0 HP e1 e2 e3 e4 e5 hns
                  go_wp2_with fail
                  go_meet
                  case rel => exact ⟨by rw [HI.out i, if_pos hjm], _, rfl⟩
                · clear hB h0 HP e1 e2 e3 e4 e5 hns h1
                  go_wp2_with fail
                  go_meet
                  case rel => exact ⟨by rw [HI.out i, if_neg hjm]; rfl, _, rfl⟩
              case rest =>
                obtain ⟨rfl, d', rfl⟩ := hcut
                clear hB h0 HP e2 hns h1
                go_wp2_with fail
                go_quiet (fail)
                go_wp2_with fail
                go_roundg (n - (i + 1))
                case measure => omega
                case rel => exact ⟨i + 1, by omega, by go_num, _, rfl⟩
            · obtain rfl : n = i := by omega
              have hB := HP.below
              clear HP h0 h1 hns
              go_wp2_with fail
              go_ret
              exact ⟨rfl, below_drewN hB d⟩

end Go.Proofs.Ybulkdsqs
