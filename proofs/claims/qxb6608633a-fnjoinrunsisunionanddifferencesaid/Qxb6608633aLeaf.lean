/- Leaf walks: zzMax, zzCmpStr, IsZero, Compare, ZZReplicaID, search$1. -/
import Derived.Test.Qxb6608633aRows
import Derived.WalkKit
import Derived.WalkSpells
import Derived.WalkLawsBesides
import Derived.Deep.QuietTactic
import Derived.BigQuiet
import Derived.Lib.Bytealg
import Derived.Lib.Strings
import Derived.Lib.Walk
namespace Go.Proofs.Qxb6608633a
open Go.RowKit

theorem ret_int {k : IntKind} {a b : Int} (h : a = b) : Ending.returned (.int k a) = .returned (.int k b) := by rw [h]

end Go.Proofs.Qxb6608633a
