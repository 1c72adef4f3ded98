/- zzCountOf, zzCloneEntries, zzSplitEntries. -/
import Derived.Test.Qxb6608633aEnts
namespace Go.Proofs.Qxb6608633a
open Go.RowKit

theorem hidd {p : Prop} (h : p) : Hid p := h

theorem cell_of_own {w : World} {base e g cap n size : Nat} {xs : List Value} (h : w.ownsRow base e size (.slice (some ⟨g, 0, none⟩) n cap) n xs) (j : Nat) (hj : j < n * size) : ∃ v, w.cell? ⟨g, j, none⟩ = some v := by
  rw [h.cellAt j hj]
  have := h.1
  exact ⟨xs[j]'(by omega), List.getElem?_eq_getElem _⟩

theorem Try.info23 : (Try.prog.info? 23).map (fun i => (i.zero, i.size, i.bytes)) = some (some (.int .u64 0), 1, 8) := by kernel_rfl

theorem two_stored {w : World} {b1 b2 e1 e2 g1 g2 n c1 c2 : Nat} {xs ns : List Value} (h1 : w.ownsRow b1 e1 1 (.slice (some ⟨g1, 0, none⟩) n c1) n xs) (h2 : w.ownsRow b2 e2 1 (.slice (some ⟨g2, 0, none⟩) n c2) n ns) (hne : g1 ≠ g2) (k : Nat) (u v : Value) :
    ((w.setCell ⟨g1, k, none⟩ u).setCell ⟨g2, k, none⟩ v).ownsRow b1 e1 1 (.slice (some ⟨g1, 0, none⟩) n c1) n (xs.set k u) ∧ ((w.setCell ⟨g1, k, none⟩ u).setCell ⟨g2, k, none⟩ v).ownsRow b2 e2 1 (.slice (some ⟨g2, 0, none⟩) n c2) n (ns.set k v) := by
  obtain ⟨a1, a2⟩ := h1.stored k u
  have h2' := h2.kept a2 (.inr (by simp [Value.ownBlock]; omega))
  obtain ⟨c1, c2⟩ := h2'.stored k v
  exact ⟨a1.kept c2 (.inr (by simp [Value.ownBlock]; omega)), c1⟩

end Go.Proofs.Qxb6608633a
