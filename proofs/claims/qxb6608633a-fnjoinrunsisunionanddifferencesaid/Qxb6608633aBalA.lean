/- Trees of runs: balance, single rotations. -/
import Derived.Test.Qxb6608633aLink
namespace Go.Proofs.Qxb6608633a
open Go.RowKit

/-- Where the node of a tree lies. -/
theorem RTree.open {w : World} {p : Option Addr} {l r : BT Run} {x : Run} (h : RTree w p (.node l x r)) : ∃ N off pl pr, p = some ⟨N, off, none⟩ ∧ w.cell? ⟨N, off, none⟩ = some (.int .u64 x.1) ∧ w.cell? ⟨N, off + 1, none⟩ = some (.int .u64 x.2) ∧
      w.cell? ⟨N, off + 2, none⟩ = some (.pointer pl) ∧ w.cell? ⟨N, off + 3, none⟩ = some (.pointer pr) ∧ RTree w pl l ∧ RTree w pr r := by
  obtain ⟨N, off, pl, pr, h1, h2, h3, h4, h5, _, h6, h7⟩ := h
  exact ⟨N, off, pl, pr, h1, h2, h3, h4, h5, h6, h7⟩

theorem below_drewN (w : World) (n : Nat) : Below w.heap.size w (w.drewN n) := ⟨rfl, rfl, rfl, Nat.le_refl _, fun _ _ => rfl⟩
theorem below_drew (w : World) : Below w.heap.size w w.drew := ⟨rfl, rfl, rfl, Nat.le_refl _, fun _ _ => rfl⟩

end Go.Proofs.Qxb6608633a
