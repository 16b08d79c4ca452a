/-
  LawS5970CWhole: encoding/binary's readers, laid off the shelf (21, 8).
-/
import Derived.Test.YbulkdspqFmtCNum
import Derived.Shelf.Bin.ReadersZ
import Derived.Shelf.Lay
import Derived.Ground.MnProg
namespace Go.Proofs
open Go.Shelf

shelf_lay LaysBin.n39 Mn 39 at Ybaf as Ybaf.lays39
shelf_lay LaysBin.n42 Mn 42 at Ybaf as Ybaf.lays42
theorem Ybaf.beU32 (a : Addr) (n c : Nat) (zs : List Int) (w : World) (hn : 4 ≤ n) (hl : 4 ≤ zs.length)
    (hcell : ∀ i, i < zs.length → w.cell? (a.add i) = some (.int .u8 (zs.getD i 0))) (hw : ∀ z ∈ zs, (Lit.int .u8 z).wf = true) :
    Calls Ybaf.prog 21 #[.agg #[], .slice (some a) n c] w fun e w' => e = .returned (.int .u32 (Lib.beZ (zs.take 4))) ∧ RowKit.Below w.heap.size w w' := Any.binary_BE_Uint32_z Ybaf.lays39 a n c zs w hn hl hcell hw
theorem Ybaf.beU64 (a : Addr) (n c : Nat) (zs : List Int) (w : World) (hn : 8 ≤ n) (hl : 8 ≤ zs.length)
    (hcell : ∀ i, i < zs.length → w.cell? (a.add i) = some (.int .u8 (zs.getD i 0))) (hw : ∀ z ∈ zs, (Lit.int .u8 z).wf = true) :
    Calls Ybaf.prog 8 #[.agg #[], .slice (some a) n c] w fun e w' => e = .returned (.int .u64 (Lib.beZ (zs.take 8))) ∧ RowKit.Below w.heap.size w w' := Any.binary_BE_Uint64_z Ybaf.lays42 a n c zs w hn hl hcell hw
end Go.Proofs
