import Derived.Shelf.Strconv.ErrVarParseInt
import Derived.Shelf.Lay
import Derived.Ground.NamesProg
import Derived.Test.Qxb6605524aDoorProg
import Derived.WalkKit
import Derived.BigCall
namespace Go.Proofs.Qxb6605524aDoor
open Go.Shelf Go.RowKit

shelf_lay LaysC.n174 Nm 174 at Tryd as Tryd.laysPI
end Go.Proofs.Qxb6605524aDoor
