/- Trees of one element: treeOf, len, at. -/
import Derived.Test.Qxb6608633aTreeOne
namespace Go.Proofs.Qxb6608633a
open Go.RowKit

theorem Try.info136 : (Try.prog.info? 136).map (fun i => (i.zero, i.size, i.bytes)) = some (some (.agg #[.int .u64 0, .int .u64 0, .pointer none, .pointer none, .int .i64 0]), 5, 40) := by kernel_rfl

set_option maxHeartbeats 400000 in
theorem lenR_none (w : World) : Calls Try.prog 49 #[.pointer none] w fun e w' => e = .returned (.int .i64 0) ∧ w' = w := by
  go_enter Try.func49, Try.ntmps49
  go_wp2
  go_ret
  exact ⟨rfl, rfl⟩

/-- It returns the value; nothing that lay has turned. -/
def RetV (w : World) (v : Value) (e : Ending) (w' : World) : Prop := e = .returned v ∧ Below w.heap.size w w'

end Go.Proofs.Qxb6608633a
