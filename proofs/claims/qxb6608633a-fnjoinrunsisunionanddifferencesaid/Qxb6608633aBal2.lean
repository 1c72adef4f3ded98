/- Trees of runs: balance. -/
import Derived.Test.Qxb6608633aBalA
namespace Go.Proofs.Qxb6608633a
open Go.RowKit

theorem heavier_node {T : BT Run} {b : Nat} (h : heavier T.list.length b = true) : ∃ l x r, T = .node l x r := by
  cases T with
  | nil => simp [heavier, BT.list] at h
  | node l x r => exact ⟨l, x, r, rfl⟩
theorem len_node (l r : BT Run) (x : Run) : (BT.node l x r).list.length = l.list.length + (r.list.length + 1) := by simp [BT.list]
end Go.Proofs.Qxb6608633a
