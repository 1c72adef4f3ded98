/- balance, avoiding a block. -/
import Derived.Test.Qxb6608633aABalA
import Derived.Test.Qxb6608633aABalB
import Derived.Test.Qxb6608633aABalC
namespace Go.Proofs.Qxb6608633a
open Go.RowKit

set_option maxHeartbeats 1000000 in
set_option maxRecDepth 100000 in
theorem balA_plain (g : Nat) (pl pr : Option Addr) (L R : BT Run) (x : Run) (w : World) (hg : g < w.heap.size) (hL : RTreeA g w pl L) (hR : RTreeA g w pr R) (hl : L.list.length + R.list.length ≤ 1000000000)
    (h1 : heavier R.list.length L.list.length = false) (h2 : heavier L.list.length R.list.length = false) :
    Calls Try.prog 99 #[.pointer pl, .agg #[.int .u64 x.1, .int .u64 x.2], .pointer pr] w (TreeRetA g w (L.list ++ x :: R.list)) := by
  have kb := below_self w (.cells #[.int .u64 x.1, .int .u64 x.2] 94)
  have e0 : (w.alloc (.cells #[.int .u64 x.1, .int .u64 x.2] 94)).cell? ⟨w.heap.size, 0, none⟩ = some (.int .u64 x.1) := by simp
  have e1 : (w.alloc (.cells #[.int .u64 x.1, .int .u64 x.2] 94)).cell? ⟨w.heap.size, 1, none⟩ = some (.int .u64 x.2) := by simp
  have CO := hidd (outweighs_any _ _ _ _ _ (hR.to kb).tree (hL.to kb).tree (by omega) (by omega))
  have CP := hidd (outweighs_any _ _ _ _ _ (hL.to kb).tree (hR.to kb).tree (by omega) (by omega))
  rw [h1] at CO
  rw [h2] at CP
  have CN := hidd (node_a g pl pr L R x _ (lt_to hg kb) (hL.to kb) (hR.to kb) (by omega) (by omega))
  clear hL hR
  go_enter Try.func99, Try.ntmps99
  go_wp2_with fail
  generalize w.alloc (.cells #[.int .u64 x.1, .int .u64 x.2] 94) = w0 at *
  refine CO.out.mono ?_
  rintro e wq ⟨rfl, hwq⟩
  rw [hwq]
  clear hwq wq CO
  go_wp2_with fail
  refine CP.out.mono ?_
  rintro e wq ⟨rfl, hwq⟩
  rw [hwq]
  clear hwq wq CP
  go_wp2_with fail
  refine CN.out.mono ?_
  rintro e w1 ⟨p, T, rfl, hT, hTl, hb⟩
  have Hgo : Hid (TreeRetA g w (L.list ++ x :: R.list) (.returned (.pointer p)) w1) := ⟨p, T, rfl, hT, hTl, kb.trans (hb.mono kb.size)⟩
  clear hT hTl hb CN
  go_wp2
  go_ret
  exact Hgo.out

theorem balA_any (g : Nat) (pl pr : Option Addr) (L R : BT Run) (x : Run) (w : World) (hg : g < w.heap.size) (hL : RTreeA g w pl L) (hR : RTreeA g w pr R) (hl : L.list.length + R.list.length ≤ 1000000000) :
    Calls Try.prog 99 #[.pointer pl, .agg #[.int .u64 x.1, .int .u64 x.2], .pointer pr] w (TreeRetA g w (L.list ++ x :: R.list)) := by
  cases h1 : heavier R.list.length L.list.length with
  | true =>
    obtain ⟨RL, y, RR, rfl⟩ := heavier_node h1
    rw [len_node] at h1 hl
    by_cases hi : 2 * (RR.list.length + 1) ≤ RL.list.length + 1
    · cases RL with
      | nil => simp [BT.list] at hi; omega
      | node A z B =>
        rw [len_node] at h1 hl hi
        exact balA_rd g pl pr L A B RR x y z w hg hL hR hl h1 hi
    · exact balA_rs g pl pr L RL RR x y w hg hL hR hl h1 hi
  | false =>
    cases h2 : heavier L.list.length R.list.length with
    | true =>
      obtain ⟨LL, y, LR, rfl⟩ := heavier_node h2
      rw [len_node] at h1 h2 hl
      by_cases hi : 2 * (LL.list.length + 1) ≤ LR.list.length + 1
      · cases LR with
        | nil => simp [BT.list] at hi; omega
        | node A z B =>
          rw [len_node] at h1 h2 hl hi
          exact balA_ld g pl pr LL A B R x y z w hg hL hR (by omega) h1 h2 hi
      · exact balA_ls g pl pr LL LR R x y w hg hL hR (by omega) h1 h2 hi
    | false => exact balA_plain g pl pr L R x w hg hL hR hl h1 h2

end Go.Proofs.Qxb6608633a
