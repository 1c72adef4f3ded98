/- compareDots. -/
import Derived.Test.Qxb6608633aMake
import Derived.RangeFuncNested
import Derived.RangeFuncBound
import Derived.RangeFuncCalls
import Derived.RangeFuncLeaves
import Derived.Shelf.Abstract
import Derived.WalkKit
import Derived.OwnWalkIn
import Derived.TacticsInMore
import Derived.LoopNIn
import Derived.LoopIn
import Derived.Maps.AppendAt
import Derived.RegionTactic
import Derived.BigRegion
import Derived.Deep.RegionWith
import Derived.Deep.RegionHeld3
import Derived.Deep.DrawnRows
import Derived.Laws.CopyOwn
import Derived.Deep.RegionLaw
import Derived.Lib.Overlaps
import Derived.Sort.Grow
namespace Go.Proofs.Qxb6608633a
open Go.RowKit Go.Sort

theorem keepA {W : World} {p : Addr} {v : Value} (o : Obj) (h : W.cell? p = some v) : (W.alloc o).cell? p = some v := cell_kept h (World.grownBy_alloc W o none) (fun r e => by cases e)
end Go.Proofs.Qxb6608633a
