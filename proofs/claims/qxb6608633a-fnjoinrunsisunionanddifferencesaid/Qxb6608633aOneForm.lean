/- zzContextOneForm: the walk. -/
import Derived.Test.Qxb6608633aPlainC
import Derived.Deep.DeepCutAuto
namespace Go.Proofs.Qxb6608633a
open Go.RowKit

/-- The slice at ao holds the cells xs. -/
def Rd (w : World) (ao : Option Addr) (xs : List Value) : Prop := ∀ (i : Nat) (x : Value), xs[i]? = some x → ∃ g, ao = some ⟨g, 0, none⟩ ∧ w.cell? ⟨g, i, none⟩ = some x
theorem Rd.to {a b : World} {ao : Option Addr} {xs : List Value} (k : Below a.heap.size a b) (h : Rd a ao xs) : Rd b ao xs := fun i x hi => by
  obtain ⟨g, h1, h2⟩ := h i x hi
  exact ⟨g, h1, cell_to k h2⟩

/-- The slice v holds the cells xs. -/
def SlS (w : World) (v : Value) (xs : List Value) : Prop := ∃ ao cap, v = .slice ao xs.length cap ∧ Rd w ao xs
theorem SlS.to {a b : World} {v : Value} {xs : List Value} (k : Below a.heap.size a b) (h : SlS a v xs) : SlS b v xs := by
  obtain ⟨ao, cap, h1, h2⟩ := h
  exact ⟨ao, cap, h1, h2.to k⟩
theorem SlS.open {w : World} {v : Value} {xs : List Value} {n : Nat} (h : SlS w v xs) (hn : xs.length = n) : ∃ ao cap, v = .slice ao n cap ∧ Rd w ao xs := by subst hn; exact h
theorem sls_own {w : World} {B e n : Nat} {v : Value} {xs : List Value} (h : w.ownsRow B e 1 v n xs) : SlS w v xs := by
  have hl : xs.length = n := by simpa using h.1
  have h' := h
  rcases h.2 with ⟨rfl, rfl⟩ | ⟨g, cap, cur, rfl, _⟩
  · exact ⟨none, 0, by rw [hl], fun i x hi => by have := (List.getElem?_eq_some_iff.1 hi).1; omega⟩
  · exact ⟨_, cap, by rw [hl], fun i x hi => ⟨g, rfl, by have := (List.getElem?_eq_some_iff.1 hi).1; rw [h'.cellAt i (by omega)]; exact hi⟩⟩

end Go.Proofs.Qxb6608633a
