/- sort.Slice at this dump: the library's contract laid. No condition. -/
import Derived.Test.YtnlkmcbhhljajaaDoorRvB
import Derived.Shelf.GgSortFunc.Whole
import Derived.Shelf.GgSortFunc.Tiny
import Derived.Shelf.Lay
import Derived.Deep.QuietTactic
import Derived.Ground.GgsProg
import Derived.Lib.SortBridge
import Derived.Lib.OwnBridge
import Derived.WalkKit
namespace Go.Proofs
open Go.Shelf
shelf_lay LaysGg.n6 Ggs 6 at Tryd as Tryd.sl6
end Go.Proofs
