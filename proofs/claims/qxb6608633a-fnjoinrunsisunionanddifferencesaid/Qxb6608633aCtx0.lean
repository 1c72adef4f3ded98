/- ContextOf in general: rows of runs and of entries. -/
import Derived.Test.Qxb6608633aAtR
import Derived.Test.Qxb6608633aTreeOne2
import Derived.Test.Qxb6608633aPlain
namespace Go.Proofs.Qxb6608633a
open Go.RowKit

/-- The cells of a row of elements of two cells. -/
def flat2 {α : Type} (f g : α → Value) : List α → List Value
  | [] => []
  | x :: t => f x :: g x :: flat2 f g t

theorem flat2_length {α : Type} (f g : α → Value) : ∀ (xs : List α), (flat2 f g xs).length = xs.length * 2
  | [] => rfl
  | x :: t => by simp only [flat2, List.length_cons, flat2_length f g t]; omega
theorem flat2_append {α : Type} (f g : α → Value) : ∀ (a b : List α), flat2 f g (a ++ b) = flat2 f g a ++ flat2 f g b
  | [], b => rfl
  | x :: t, b => by simp only [List.cons_append, flat2, flat2_append f g t b]
theorem flat2_at {α : Type} (f g : α → Value) : ∀ (xs : List α) (i : Nat) (x : α), xs[i]? = some x → (flat2 f g xs)[i * 2]? = some (f x) ∧ (flat2 f g xs)[i * 2 + 1]? = some (g x)
  | [], i, x, h => by simp at h
  | y :: t, 0, x, h => by simp at h; subst h; exact ⟨rfl, rfl⟩
  | y :: t, i + 1, x, h => by
    have := flat2_at f g t i x (by simpa using h)
    rw [show (i + 1) * 2 = i * 2 + 2 by omega, show i * 2 + 2 + 1 = (i * 2 + 1) + 2 by omega]
    simpa [flat2] using this

def rowR : List Run → List Value := flat2 (fun x => .int .u64 x.1) (fun x => .int .u64 x.2)
theorem runsAt_own {w : World} {B g n c : Nat} {xs : List Run} (hl : xs.length = n) (h : w.ownsRow B 94 2 (.slice (some ⟨g, 0, none⟩) n c) n (rowR xs)) : RunsAt w g 0 xs := fun i x hi => by
  have hlt := (List.getElem?_eq_some_iff.1 hi).1
  have hf := flat2_at (fun x : Run => Value.int .u64 x.1) (fun x => .int .u64 x.2) xs i x hi
  rw [Nat.zero_add, h.cellAt (i * 2) (by omega), h.cellAt (i * 2 + 1) (by omega)]
  exact hf
end Go.Proofs.Qxb6608633a
