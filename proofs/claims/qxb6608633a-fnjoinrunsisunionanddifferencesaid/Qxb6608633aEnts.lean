/- Slices of entries (a string and a uint64, two cells each) that are read: zzBytes, zzEntriesValid, zzCountOf. -/
import Derived.Test.Qxb6608633aLeaf
import Derived.WalkSmall
namespace Go.Proofs.Qxb6608633a
open Go.RowKit

/-- It returns some bool, the world as it was; if true then P. -/
def RetB (w : World) (P : Prop) (e : Ending) (w' : World) : Prop := ∃ r : Bool, e = .returned (.bool r) ∧ w' = w ∧ (r = true → P)

theorem dN2 {w wr : World} {q : Nat} (h : Hid (wr = w.drewN q)) (n : Nat) : wr.drewN n = w.drewN (q + n) := by rw [h.out, World.drewN_drewN]

theorem wrapN (k : Nat) (h : k ≤ 9223372036854775807) : IntKind.i64.wrap (k : Int) = (k : Int) := by
  exact IntWalk.i64_in _ (by omega)

end Go.Proofs.Qxb6608633a
