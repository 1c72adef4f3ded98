/- ZZContextFields in general. -/
import Derived.Test.Qxb6608633aCtxWalk
import Derived.Test.Qxb6608633aOneForm
namespace Go.Proofs.Qxb6608633a
open Go.RowKit

def loR (rs : List Run) : List Value := rs.map fun r => .int .u64 r.1
def hiR (rs : List Run) : List Value := rs.map fun r => .int .u64 r.2
theorem loR_take {rs : List Run} {m : Nat} {r : Run} (h : rs[m]? = some r) : loR (rs.take (m + 1)) = loR (rs.take m) ++ [.int .u64 r.1] := by
  unfold loR
  rw [List.take_add_one, h]; simp
theorem hiR_take {rs : List Run} {m : Nat} {r : Run} (h : rs[m]? = some r) : hiR (rs.take (m + 1)) = hiR (rs.take m) ++ [.int .u64 r.2] := by
  unfold hiR
  rw [List.take_add_one, h]; simp

/-- The two slices lie in two rows. -/
def Apart (v u : Value) : Prop := ∀ k, v.ownBlock = some k → u.ownBlock ≠ some k
theorem Apart.symm {v u : Value} (h : Apart v u) : Apart u v := fun k h1 h2 => h k h2 h1
theorem Apart.ne {v u : Value} (h : Apart v u) : v.ownBlock = none ∨ v.ownBlock ≠ u.ownBlock := by
  cases hv : v.ownBlock with
  | none => exact .inl rfl
  | some k => exact .inr (fun e => h k hv e.symm)
theorem Apart.app {v u v' : Value} {H : Nat} (h : Apart v u) (hv : v'.ownBlock = v.ownBlock ∨ v'.ownBlock = some H) (hu : ∀ k, u.ownBlock = some k → k < H) : Apart v' u := by
  intro k h1 h2
  rcases hv with e | e
  · exact h k (by rw [← e]; exact h1) h2
  · rw [e] at h1; injection h1 with h1; have := hu k h2; omega
theorem own_not {w : World} {B e size n D t : Nat} {v : Value} {xs : List Value} {cs : Array Value} (h : w.ownsRow B e size v n xs) (hd : w.heap[D]? = some (.cells cs t)) (ht : t ≠ e) : some D ≠ v.ownBlock := by
  rcases h.2 with ⟨rfl, _⟩ | ⟨g, c, cur, rfl, _, hg, _⟩
  · simp [Value.ownBlock]
  · intro e'
    simp [Value.ownBlock] at e'
    subst e'; rw [hd] at hg; cases hg; exact ht rfl

end Go.Proofs.Qxb6608633a
