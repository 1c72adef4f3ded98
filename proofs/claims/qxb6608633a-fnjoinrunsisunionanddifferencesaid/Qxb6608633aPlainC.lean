/- The plain side of ContextOf: the law. -/
import Derived.Test.Qxb6608633aPlain
namespace Go.Proofs.Qxb6608633a
open Go.RowKit

theorem take_snoc {α : Type} {ds : List α} {i : Nat} {d : α} (h : ds[i]? = some d) : ds.take (i + 1) = ds.take i ++ [d] := by
  rw [List.take_add_one, h]; rfl

end Go.Proofs.Qxb6608633a
