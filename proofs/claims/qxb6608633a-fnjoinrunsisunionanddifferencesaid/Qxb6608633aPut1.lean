/- putRun: small laws. -/
import Derived.Test.Qxb6608633aPut
namespace Go.Proofs.Qxb6608633a
open Go.RowKit

/-- The run r, joined with the runs bs that it touches. -/
def joinR (r : Run) (bs : List Run) : Run := match bs.head?, bs.getLast? with
  | some a, some b => (min r.1 a.1, max r.2 b.2)
  | _, _ => r

/-- Behind the two stores. -/
def Stored (w W wx : World) (B : Nat) (a b : Value) : Prop :=
  wx.cell? ⟨B, 0, none⟩ = some a ∧ wx.cell? ⟨B, 1, none⟩ = some b ∧ (∀ N j, N ≠ B → N < W.heap.size → wx.cell? ⟨N, j, none⟩ = W.cell? ⟨N, j, none⟩) ∧ Below B w wx
theorem stored01 {w W V : World} {B : Nat} {a b x y : Value} (hw : Below B w W) (hB : B ≤ W.heap.size) (q : Below W.heap.size W V) (g0 : V.cell? ⟨B, 0, none⟩ = some x) (g1 : V.cell? ⟨B, 1, none⟩ = some y) : Stored w W ((V.setCell ⟨B, 0, none⟩ a).setCell ⟨B, 1, none⟩ b) B a b := by
  refine ⟨cell_set_ne (cell_set_eq g0) (by omega), cell_set_eq (cell_set_ne g1 (by omega)), fun N j hN hl => ?_, ((hw.trans (q.mono hB)).setCell (p := ⟨B, 0, none⟩) (Nat.le_refl _) _).setCell (p := ⟨B, 1, none⟩) (Nat.le_refl _) _⟩
  exact (World.cell?_of_block (by rw [Below.heap_setCell _ _ _ _ hN, Below.heap_setCell _ _ _ _ hN])).trans (q.cell (p := ⟨N, j, none⟩) hl)
end Go.Proofs.Qxb6608633a
