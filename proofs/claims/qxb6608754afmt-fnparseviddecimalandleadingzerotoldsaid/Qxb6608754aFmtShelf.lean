import Derived.Shelf.Lay
import Derived.Shelf.LaySoft
import Derived.Shelf.LaysC
import Derived.Shelf.Strconv.AtoiAll
import Derived.Test.Qxb6608754aFmtProg
namespace Go.Proofs.Qxb6608754aFmt
open Go.Shelf
shelf_lay LaysC.n172 Nm 172 at Tryf as Tryf.laysC172
end Go.Proofs.Qxb6608754aFmt
