/-
  LawS5970CWhole: math/bits.Sub64, laid off the shelf (32).
-/
import Derived.Test.YbulkdspqFmtCWords
import Derived.Shelf.Spec.BitsCarry
import Derived.Shelf.Lay
import Derived.Ground.Names7Prog
namespace Go.Proofs
open Go.Shelf

shelf_lay Lays7.n26 Nm7 26 at Ybaf as Ybaf.lays26
theorem Ybaf.sub64 (x y b : Nat) (hb : b ≤ 1) (w : World) :
    (callFunc 32 #[.int .u64 x, .int .u64 y, .int .u64 b]).run Ybaf.prog w =
      .ok (.value (.tuple #[.int .u64 (((x + 18446744073709551616 - y - b) % 18446744073709551616 : Nat) : Int), .int .u64 ((if x < y + b then 1 else 0 : Nat) : Int)])) w := Any7.bits_Sub64 Ybaf.lays26 x y b hb w
end Go.Proofs
