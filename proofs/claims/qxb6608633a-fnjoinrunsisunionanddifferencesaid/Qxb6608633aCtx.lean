/- ContextOf in general: the loop. -/
import Derived.Test.Qxb6608633aCtx0
namespace Go.Proofs.Qxb6608633a
open Go.RowKit

/-- Between two rounds of ContextOf's loop. -/
def CtxSt (w0 wr : World) (ys : List Ent) (k : Nat) (en ru : Value) : Prop :=
  ∃ (done : List Grp) (ps : List Etr) (rs : List Run), groups ys [] = done ++ groups (ys.drop k) rs ∧ wr.ownsRow w0.heap.size 116 2 en ps.length (rowX ps) ∧ wr.ownsRow w0.heap.size 94 2 ru rs.length (rowR rs) ∧
    Trees wr ps done ∧ ps.length ≤ k ∧ rs.length ≤ k ∧ Below w0.heap.size w0 wr

/-- Behind the step on the runs. -/
def RunSt (w0 wr : World) (ys : List Ent) (k : Nat) (c : Int) (en ru : Value) : Prop :=
  ∃ (done : List Grp) (ps : List Etr) (rs : List Run), groups ys [] = done ++ groups (ys.drop k) rs ∧ wr.ownsRow w0.heap.size 116 2 en ps.length (rowX ps) ∧ wr.ownsRow w0.heap.size 94 2 ru (stepR rs c).length (rowR (stepR rs c)) ∧
    Trees wr ps done ∧ ps.length ≤ k ∧ (stepR rs c).length ≤ k + 1 ∧ Below w0.heap.size w0 wr

theorem groups_last {ys : List Ent} {k : Nat} {d : Ent} (rs : List Run) (h : ys[k]? = some d) (hn : k + 1 = ys.length) : groups (ys.drop k) rs = (d.1, stepR rs d.2) :: groups (ys.drop (k + 1)) [] := by
  obtain ⟨hk, he⟩ := List.getElem?_eq_some_iff.1 h
  rw [List.drop_eq_getElem_cons hk, he, List.drop_of_length_le (by omega)]
  rfl
theorem groups_next {ys : List Ent} {k : Nat} {d d' : Ent} (rs : List Run) (h : ys[k]? = some d) (h' : ys[k + 1]? = some d') :
    groups (ys.drop k) rs = if d'.1 = d.1 then groups (ys.drop (k + 1)) (stepR rs d.2) else (d.1, stepR rs d.2) :: groups (ys.drop (k + 1)) [] := by
  obtain ⟨hk, he⟩ := List.getElem?_eq_some_iff.1 h
  obtain ⟨hk', he'⟩ := List.getElem?_eq_some_iff.1 h'
  rw [List.drop_eq_getElem_cons hk, he, List.drop_eq_getElem_cons hk', he']
  rfl

end Go.Proofs.Qxb6608633a
