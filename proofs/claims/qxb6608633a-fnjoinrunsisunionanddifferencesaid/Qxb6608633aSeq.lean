/- slices.Values, slices.AppendSeq, slices.Collect over dots. -/
import Derived.RangeFuncNested
import Derived.RangeFuncBound
import Derived.RangeFuncCalls
import Derived.RangeFuncLeaves
import Derived.Shelf.Abstract
import Derived.WalkKit
import Derived.OwnWalkIn
import Derived.TacticsInMore
import Derived.LoopNIn
import Derived.LoopIn
import Derived.Maps.AppendAt
import Derived.Test.Qxb6608633aRaiseL
namespace Go.Proofs.Qxb6608633a
open Go.RowKit Go.Shelf
attribute [local go_sem] Oper.semAt_some

/-- A dot as a value. -/
def dotV (x : Ent) : Value := .agg #[.string x.1, .int .u64 x.2]

set_option maxRecDepth 100000 in
set_option maxHeartbeats 2000000 in
theorem values1_in (F : Fence) (n : Nat) (h62 : F.fn 62) (hro : F.round = none) (hn : 1 ≤ n) (l Bs n₀ : Nat) (ao : Option Addr) (cap : Nat) (zs : List Ent) (hlen : zs.length ≤ 1048577) (hb : ∀ a, ao = some a → a.block < n₀) (J Jx : List Ent → World → Prop) (B : Nat) (hJ : AbidesFrom B J)
    (hY : ∀ pre x W, J pre W → pre.length < zs.length → YieldAt F (n - 1) Try.prog l #[.agg #[.string x.1, .int .u64 x.2]] W fun e W' =>
      (e = .returned (.bool true) ∧ J (pre ++ [x]) W' ∧ Below n₀ W W') ∨ (e = .returned (.bool false) ∧ Jx (pre ++ [x]) W'))
    (W : World) (hn0 : n₀ ≤ W.heap.size) (hBs : W.cell? ⟨Bs, 0, none⟩ = some (.slice ao zs.length cap)) (hc : EntsAt W ao zs) (h0 : J [] W) :
    CallsIn F n Try.prog 62 #[.func (.yield l) #[] #[], .pointer (some ⟨Bs, 0, none⟩)] W fun e W' => (∃ v, e = .returned v) ∧
      ((∃ ys, ys = zs ∧ J ys W') ∨ (∃ pre, pre <+: zs ∧ Jx pre W')) := by
  refine callsIn_of_wp Try.func62 rfl h62 ?_ hro
  simp only [Try.ntmps62, List.size_toArray, List.length_cons, List.length_nil, Nat.reduceAdd, Nat.reduceSub, Array.replicate_succ, Array.replicate_zero, List.push_toArray, List.append_toArray, List.nil_append, List.cons_append]
  gi_wp2
  gi_loopw [7] (fun i wr => ∃ k : Nat, k ≤ zs.length ∧ i = .int .i64 k ∧ J (zs.take k) wr ∧ Below n₀ W wr)
    (fun i _ => zs.length - (intOf i).toNat)
  case atStart => exact ⟨0, Nat.zero_le _, rfl, h0, Below.refl _ _⟩
  case round =>
    obtain ⟨k, hk, rfl, hJs, hnx⟩ := hrel
    by_cases hlt : k < zs.length
    · obtain ⟨b, off, s, m, rfl, hkk, hc0, hc1⟩ := (hc.below hnx hb).at hlt
      have hJa : J (zs.take k) (wr.alloc (.cells #[.string s, .int .u64 m] 79)) := hJ _ _ _ none hJs (World.grownBy_alloc _ _ none) (fun r e => by cases e)
      obtain ⟨fn, tmps, assign, body, hy, hR⟩ := hY _ (s, m) _ hJa (by simp; omega)
      dsimp only at hy
      have Hc := hidd hc
      have Hb := hidd hb
      clear hc hb hY
      gi_wp2
      refine hR.mono ?_
      rintro e W3 (⟨rfl, hJ3, hk3⟩ | ⟨rfl, hJx3⟩)
      · have hJ4 : J (zs.take (k + 1)) W3 := by rw [List.take_add_one, hkk.out]; exact hJ3
        have hb4 : Below n₀ W W3 := hnx.trans (((Below.refl n₀ wr).alloc (Nat.le_trans hn0 hnx.size) _).trans hk3)
        clear hR hy hJ3 hJa hJs hk3
        gi_wp2
        go_roundw
        case rel => exact ⟨k + 1, by omega, by go_num, hJ4, hb4⟩
        case measure => simp [intOf]; omega
      · have hp : zs.take k ++ [(s, m)] <+: zs := by
          have : zs.take (k + 1) = zs.take k ++ [(s, m)] := by rw [List.take_add_one, hkk.out]; rfl
          rw [← this]; exact List.take_prefix _ _
        clear hR hy hJa hJs
        gi_wp2
        refine bodyPost_ret (results_none rfl _ _ _) rfl ?_
        exact ⟨⟨_, rfl⟩, .inr ⟨_, hp, hJx3⟩⟩
    · obtain rfl : k = zs.length := by omega
      gi_wp2
      go_end0
      exact ⟨⟨_, rfl⟩, .inl ⟨_, List.take_length, hJs⟩⟩

end Go.Proofs.Qxb6608633a
