/- ContextOf in general: the walk. -/
import Derived.Test.Qxb6608633aCtx0
import Derived.Test.Qxb6608633aPlainC
import Derived.Deep.DeepCutAuto
namespace Go.Proofs.Qxb6608633a
open Go.RowKit

theorem rowR_append (a b : List Run) : rowR (a ++ b) = rowR a ++ rowR b := flat2_append _ _ a b
theorem rowR_length (a : List Run) : (rowR a).length = a.length * 2 := flat2_length _ _ a
theorem rowR_store (l : List Run) (x : Run) (v : Int) : (rowR (l ++ [x])).set (l.length * 2 + 1) (.int .u64 v) = rowR (l ++ [(x.1, v)]) := by
  rw [rowR_append, rowR_append]
  have h := rowR_length l
  rw [List.set_append_right _ _ (by omega), h]
  simp [rowR, flat2, show l.length * 2 + 1 - l.length * 2 = 1 by omega]

theorem own_to {a b : World} {B e size n : Nat} {v : Value} {xs : List Value} (k : Below a.heap.size a b) (h : a.ownsRow B e size v n xs) : b.ownsRow B e size v n xs :=
  h.kept (row := none) ⟨k.os, k.tape, k.output, k.size, fun i hi _ => k.block i hi⟩ (by cases h : v.ownBlock <;> simp)
theorem own_cap {w : World} {B e size n c g : Nat} {xs : List Value} (h : w.ownsRow B e size (.slice (some ⟨g, 0, none⟩) n c) n xs) : n ≤ c := by
  rcases h.2 with ⟨h, _⟩ | ⟨g', cap, cur, hv, _, _, hn, _⟩
  · cases h
  · cases hv; exact hn
theorem own_shape {w : World} {B e size n : Nat} {v : Value} {xs : List Value} (h : w.ownsRow B e size v n xs) : ∃ ao cap, v = .slice ao n cap ∧ (n ≠ 0 → ∃ g, ao = some ⟨g, 0, none⟩) := by
  rcases h.2 with ⟨rfl, rfl⟩ | ⟨g, cap, cur, rfl, _⟩
  · exact ⟨none, 0, rfl, fun h => absurd rfl h⟩
  · exact ⟨_, cap, rfl, fun _ => ⟨g, rfl⟩⟩

end Go.Proofs.Qxb6608633a
