/- ContextOf over one dot. -/
import Derived.Test.Qxb6608633aTreeOne2
import Derived.Deep.AppendLies
namespace Go.Proofs.Qxb6608633a
open Go.RowKit

theorem Try.info94 : (Try.prog.info? 94).map (fun i => (i.zero, i.size, i.bytes)) = some (some (.agg #[.int .u64 0, .int .u64 0]), 2, 16) := by kernel_rfl
theorem news2 {A : World} {b t : Nat} {x y : Value} (hb : b = A.heap.size) : ∀ j u, [x, y][j]? = some u → (A.alloc (.cells #[x, y] t)).cell? ((⟨b, 0, none⟩ : Addr).add j) = some u := by
  subst hb
  intro j u hj
  match j, hj with
  | 0, hj => simp at hj; subst hj; simp [Addr.add]
  | 1, hj => simp at hj; subst hj; simp [Addr.add]

theorem oneU (c d : Int) : ∀ u ∈ [Value.int .u64 c, Value.int .u64 d], u.oneCell' = true := by intro u hu; simp at hu; rcases hu with rfl | rfl <;> rfl
end Go.Proofs.Qxb6608633a
