import Derived.Test.Qxb6613595aFmtOrNc
import Derived.Shelf.SlSortCmp.WholeK
import Derived.Shelf.SlSortCmp.Whole1
import Derived.Shelf.Lay
import Derived.Ground.SlsfProg
namespace Go.Proofs.Qxb6613595aFmt
open Go.RowKit Go.Maps

open Go.Shelf in
shelf_lay_g SlLaysF.n6 Slsf 6 at Tryf 18 as Tryf.sortInt
open Go.Shelf in
shelf_lay_g SlLaysF0.n6 Slsf 6 at Tryf 40 as Tryf.sortNe
end Go.Proofs.Qxb6613595aFmt
