/- Trees of one element: build, treeOf, len, at. -/
import Derived.Test.Qxb6608633aCmp2
import Derived.Shelf.Lay
namespace Go.Proofs.Qxb6608633a
open Go.RowKit

set_option maxHeartbeats 400000 in
theorem buildR_none (v : Value) (ao : Option Addr) (c : Nat) (w : World) : Calls Try.prog 63 #[v, .slice ao 0 c] w fun e w' => e = .returned (.pointer none) ∧ w' = w := by
  go_enter Try.func63, Try.ntmps63
  go_wp2
  go_ret
  exact ⟨rfl, rfl⟩

end Go.Proofs.Qxb6608633a
