/- FnContextOfSeesExactlyTheDots: the law walked. -/
import Derived.Test.Qxb6608633aCtxFields
import Derived.Test.Qxb6608633aPlain
namespace Go.Proofs.Qxb6608633a
open Go.RowKit

/-- It returns true; nothing that lay has turned. -/
def LawTrue (w : World) (e : Ending) (w' : World) : Prop := e = .returned (.bool true) ∧ Below w.heap.size w w'

end Go.Proofs.Qxb6608633a
