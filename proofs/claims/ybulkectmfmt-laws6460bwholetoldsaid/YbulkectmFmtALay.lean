import Derived.Test.YbulkectmFmtCards
import Derived.Shelf.SlSortCmp.Whole1
import Derived.Shelf.Lay
import Derived.Ground.SlsfProg
namespace Go.Proofs
open Go.Shelf Go.RowKit Go.Lib Go.Sort
shelf_lay_g SlLaysF.n6 Slsf 6 at Ybaf 23 as Ybaf.sortL
end Go.Proofs
