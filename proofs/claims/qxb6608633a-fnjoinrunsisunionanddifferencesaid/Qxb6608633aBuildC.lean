/- build over runs, in general. -/
import Derived.Test.Qxb6608633aBuildA
import Derived.Test.Qxb6608633aBuildB
namespace Go.Proofs.Qxb6608633a
open Go.RowKit

theorem buildAt_any : ∀ (m : Nat), m ≤ 1048577 → BuildAt m := by
  intro m
  induction m using Nat.strongRecOn with
  | ind m ih =>
    intro hm
    by_cases h0 : m = 0
    · subst h0; exact buildAt_zero
    · intro an ae N lo nc E eo ec xs w hx hadr hroom hruns
      have hnc := (hadr h0).2.2.1
      rcases (show nc = m / 2 + 1 ∨ m / 2 + 1 < nc by omega) with hc | hc
      · exact buildAt_full m (by omega) hm (fun k hk => ih k hk (by omega)) an ae N lo nc E eo ec xs w hx hadr hroom hruns hc
      · exact buildAt_room m (by omega) hm (fun k hk => ih k hk (by omega)) an ae N lo nc E eo ec xs w hx hadr hroom hruns hc

end Go.Proofs.Qxb6608633a
