/- ContextOf in general: rows of runs and of entries. -/
import Derived.Test.Qxb6608633aXAtR
import Derived.Test.Qxb6608633aPlain2
namespace Go.Proofs.Qxb6608633a
open Go.RowKit

/-- The cells of a row of elements of two cells. -/
def flat2 {α : Type} (f g : α → Value) : List α → List Value
  | [] => []
  | x :: t => f x :: g x :: flat2 f g t

theorem flat2_length {α : Type} (f g : α → Value) : ∀ (xs : List α), (flat2 f g xs).length = xs.length * 2
  | [] => rfl
  | x :: t => by simp only [flat2, List.length_cons, flat2_length f g t]; omega
theorem flat2_append {α : Type} (f g : α → Value) : ∀ (a b : List α), flat2 f g (a ++ b) = flat2 f g a ++ flat2 f g b
  | [], b => rfl
  | x :: t, b => by simp only [List.cons_append, flat2, flat2_append f g t b]
theorem flat2_at {α : Type} (f g : α → Value) : ∀ (xs : List α) (i : Nat) (x : α), xs[i]? = some x → (flat2 f g xs)[i * 2]? = some (f x) ∧ (flat2 f g xs)[i * 2 + 1]? = some (g x)
  | [], i, x, h => by simp at h
  | y :: t, 0, x, h => by simp at h; subst h; exact ⟨rfl, rfl⟩
  | y :: t, i + 1, x, h => by
    have := flat2_at f g t i x (by simpa using h)
    rw [show (i + 1) * 2 = i * 2 + 2 by omega, show i * 2 + 2 + 1 = (i * 2 + 1) + 2 by omega]
    simpa [flat2] using this

def rowR : List Run → List Value := flat2 (fun x => .int .u64 x.1) (fun x => .int .u64 x.2)
def rowX : List Etr → List Value := flat2 (fun x => .string x.1) (fun x => .pointer x.2)

theorem runsAt_own {w : World} {B g n c : Nat} {xs : List Run} (hl : xs.length = n) (h : w.ownsRow B 94 2 (.slice (some ⟨g, 0, none⟩) n c) n (rowR xs)) : RunsAt w g 0 xs := fun i x hi => by
  have hlt := (List.getElem?_eq_some_iff.1 hi).1
  have hf := flat2_at (fun x : Run => Value.int .u64 x.1) (fun x => .int .u64 x.2) xs i x hi
  rw [Nat.zero_add, h.cellAt (i * 2) (by omega), h.cellAt (i * 2 + 1) (by omega)]
  exact hf
theorem entrsAt_own {w : World} {B g n c : Nat} {xs : List Etr} (hl : xs.length = n) (h : w.ownsRow B 116 2 (.slice (some ⟨g, 0, none⟩) n c) n (rowX xs)) : EntrsAt w g 0 xs := fun i x hi => by
  have hlt := (List.getElem?_eq_some_iff.1 hi).1
  have hf := flat2_at (fun x : Etr => Value.string x.1) (fun x => .pointer x.2) xs i x hi
  rw [Nat.zero_add, h.cellAt (i * 2) (by omega), h.cellAt (i * 2 + 1) (by omega)]
  exact hf

/-- Each entry's pointer leads to a tree of its runs. -/
def Trees (w : World) (ps : List Etr) (gs : List Grp) : Prop :=
  ps.map (·.1) = gs.map (·.1) ∧ ∀ (i : Nat) (p : Etr) (g : Grp), ps[i]? = some p → gs[i]? = some g → ∃ T, RTree w p.2 T ∧ T.list = g.2

theorem Trees.to {a b : World} {ps : List Etr} {gs : List Grp} (k : Below a.heap.size a b) (h : Trees a ps gs) : Trees b ps gs :=
  ⟨h.1, fun i p g h1 h2 => by obtain ⟨T, hT, hl⟩ := h.2 i p g h1 h2; exact ⟨T, hT.to k, hl⟩⟩
theorem Trees.length {w : World} {ps : List Etr} {gs : List Grp} (h : Trees w ps gs) : ps.length = gs.length := by
  have := congrArg List.length h.1; simpa using this
theorem Trees.snoc {w : World} {ps : List Etr} {gs : List Grp} {s : ByteArray} {p : Option Addr} {R : List Run} {T : BT Run} (h : Trees w ps gs) (hT : RTree w p T) (hl : T.list = R) : Trees w (ps ++ [(s, p)]) (gs ++ [(s, R)]) := by
  refine ⟨by simp [h.1], fun i q g h1 h2 => ?_⟩
  have hlen := h.length
  by_cases hi : i < ps.length
  · rw [List.getElem?_append_left hi] at h1
    rw [List.getElem?_append_left (by omega)] at h2
    exact h.2 i q g h1 h2
  · rw [List.getElem?_append_right (by omega)] at h1
    rw [List.getElem?_append_right (by omega)] at h2
    rcases (show i - ps.length = 0 ∨ 0 < i - ps.length by omega) with h0 | h0
    · rw [h0] at h1; rw [show i - gs.length = 0 by omega] at h2
      simp at h1 h2
      subst h1; subst h2
      exact ⟨T, hT, hl⟩
    · obtain ⟨j, hj⟩ : ∃ j, i - ps.length = j + 1 := ⟨i - ps.length - 1, by omega⟩
      rw [hj] at h1; simp at h1

end Go.Proofs.Qxb6608633a
