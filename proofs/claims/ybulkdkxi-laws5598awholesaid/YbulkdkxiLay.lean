import Derived.Test.YbulkdkxiRows
import Derived.Shelf.SlSortCmp.Xorshift
import Derived.Shelf.Lay
import Derived.Ground.SlsfProg
/-! Three functions of the library, by the shelf's contracts: bits.Len, nextPowerOfTwo, xorshift.Next. -/
namespace Go.Proofs
open Go.Shelf
shelf_lay SlLaysF0.n15 Slsf 15 at Yba as Yba.layLen
shelf_lay SlLaysF0.n47 Slsf 47 at Yba as Yba.layPow
shelf_lay SlLaysF0.n48 Slsf 48 at Yba as Yba.layNext
end Go.Proofs
