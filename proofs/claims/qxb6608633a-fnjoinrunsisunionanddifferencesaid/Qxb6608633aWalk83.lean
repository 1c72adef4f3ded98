/- Trees of runs: walk, all. -/
import Derived.Test.Qxb6608633aBal2
import Derived.Test.Qxb6608633aMake
import Derived.RangeFuncNested
import Derived.RangeFuncBound
import Derived.RangeFuncCalls
import Derived.RangeFuncLeaves
import Derived.Shelf.Abstract
import Derived.WalkKit
import Derived.OwnWalkIn
import Derived.TacticsInMore
import Derived.LoopNIn
import Derived.LoopIn
import Derived.Maps.AppendAt
import Derived.RegionTactic
import Derived.BigRegion
import Derived.Deep.RegionWith
import Derived.Deep.RegionHeld3
import Derived.Deep.DrawnRows
import Derived.Laws.CopyOwn
import Derived.Deep.RegionLaw
import Derived.Lib.Overlaps
namespace Go.Proofs.Qxb6608633a
open Go.RowKit
open Go.Shelf
attribute [local go_sem] Oper.semAt_some

theorem room_of_none {F : Fence} (hd : F.depth = none) (k : Nat) : F.room k := fun d h => by rw [hd] at h; cases h
theorem RoundIn.anyDepth {F : Fence} (hd : F.depth = none) {m m' : Nat} {P : Program} {l : Nat} {f : FuncId} {tmps : Array Value} {assign body : Code} {w : World} {R : Ending → World → Prop}
    (h : RoundIn F m P l f tmps assign body w R) : RoundIn F m' P l f tmps assign body w R := ⟨h.1, fun c cs _ => h.2 c cs (room_of_none hd _)⟩
theorem YieldAt.anyDepth {F : Fence} (hd : F.depth = none) {m : Nat} (m' : Nat) {P : Program} {l : Nat} {args : Array Value} {W : World} {R : Ending → World → Prop} (h : YieldAt F m P l args W R) : YieldAt F m' P l args W R := by
  obtain ⟨fn, tmps, assign, body, hy, hR⟩ := h
  exact ⟨fn, tmps, assign, body, hy, RoundIn.anyDepth hd hR⟩

/-- The tree at p, its nodes in blocks below n. -/
def RTreeN (n : Nat) (w : World) : Option Addr → BT Run → Prop
  | p, .nil => p = none
  | p, .node l x r => ∃ N off pl pr, p = some ⟨N, off, none⟩ ∧ N < n ∧ w.cell? ⟨N, off, none⟩ = some (.int .u64 x.1) ∧ w.cell? ⟨N, off + 1, none⟩ = some (.int .u64 x.2) ∧
      w.cell? ⟨N, off + 2, none⟩ = some (.pointer pl) ∧ w.cell? ⟨N, off + 3, none⟩ = some (.pointer pr) ∧ w.cell? ⟨N, off + 4, none⟩ = some (.int .i64 ((l.list ++ x :: r.list).length : Nat)) ∧ RTreeN n w pl l ∧ RTreeN n w pr r
theorem RTreeN.tree {n : Nat} {w : World} : ∀ {T : BT Run} {p : Option Addr}, RTreeN n w p T → RTree w p T
  | .nil, _, h => h
  | .node _ _ _, _, ⟨N, off, pl, pr, e, _, c1, c2, c3, c4, c5, hl, hr⟩ => ⟨N, off, pl, pr, e, c1, c2, c3, c4, c5, hl.tree, hr.tree⟩
theorem RTree.toN {w : World} : ∀ {T : BT Run} {p : Option Addr}, RTree w p T → RTreeN w.heap.size w p T
  | .nil, _, h => h
  | .node _ _ _, _, ⟨N, off, pl, pr, e, c1, c2, c3, c4, c5, hl, hr⟩ => ⟨N, off, pl, pr, e, World.block_lt_of_cell? w _ c1, c1, c2, c3, c4, c5, hl.toN, hr.toN⟩
theorem RTreeN.below {n : Nat} {a b : World} (k : Below n a b) : ∀ {T : BT Run} {p : Option Addr}, RTreeN n a p T → RTreeN n b p T
  | .nil, _, h => h
  | .node _ _ _, _, ⟨N, off, pl, pr, e, hN, c1, c2, c3, c4, c5, hl, hr⟩ => ⟨N, off, pl, pr, e, hN, (k.cell (p := ⟨N, off, none⟩) hN).trans c1, (k.cell (p := ⟨N, off + 1, none⟩) hN).trans c2, (k.cell (p := ⟨N, off + 2, none⟩) hN).trans c3, (k.cell (p := ⟨N, off + 3, none⟩) hN).trans c4, (k.cell (p := ⟨N, off + 4, none⟩) hN).trans c5, hl.below k, hr.below k⟩

set_option maxRecDepth 100000 in
set_option maxHeartbeats 2000000 in
/-- walk: all elements have come, or a round has said 'no more'. -/
theorem walk_in (F : Fence) (hd : F.depth = none) (h83 : F.fn 83) (hro : F.round = none) (l n₀ N : Nat) (J Jx : List Run → World → Prop)
    (hY : ∀ m pre x W, J pre W → pre.length < N → YieldAt F m Try.prog l #[.agg #[.int .u64 x.1, .int .u64 x.2]] W fun e W' =>
      (e = .returned (.bool true) ∧ J (pre ++ [x]) W' ∧ Below n₀ W W') ∨ (e = .returned (.bool false) ∧ Jx (pre ++ [x]) W')) : ∀ (k : Nat) (T : BT Run), T.list.length ≤ k →
    ∀ (n : Nat) (p : Option Addr) (pre : List Run) (W : World), RTreeN n₀ W p T → J pre W → pre.length + T.list.length ≤ N →
      CallsIn F n Try.prog 83 #[.pointer p, .func (.yield l) #[] #[]] W fun e W' =>
        (e = .returned (.bool true) ∧ J (pre ++ T.list) W' ∧ Below n₀ W W') ∨ (e = .returned (.bool false) ∧ ∃ q, q <+: T.list ∧ Jx (pre ++ q) W') := by
  intro k
  induction k using Nat.strongRecOn with
  | _ k ih =>
    intro T hk n p pre W hT hJ hN
    have hdd : ∀ k : Nat, (F.depth.isSome = true → 1 ≤ k) := fun k h => by rw [hd] at h; cases h
    refine callsIn_of_wp Try.func83 rfl h83 ?_ hro
    simp only [Try.ntmps83, List.size_toArray, List.length_cons, List.length_nil, Nat.reduceAdd, Nat.reduceSub, Array.replicate_succ, Array.replicate_zero, List.push_toArray, List.append_toArray, List.nil_append, List.cons_append]
    gi_wp2
    gi_loopw [0] (fun t wr => ∃ (q : Option Addr) (U : BT Run) (dn : List Run), t = .pointer q ∧ RTreeN n₀ wr q U ∧ T.list = dn ++ U.list ∧ J (pre ++ dn) wr ∧ Below n₀ W wr) (fun t wr => leftR wr t)
    case atStart => exact ⟨p, T, [], rfl, hT, rfl, by simpa using hJ, Below.refl _ _⟩
    case round =>
      obtain ⟨q, U, dn, rfl, hU, hl, hJd, hb⟩ := hrel
      cases U with
      | nil =>
        obtain rfl : q = none := hU
        have hj : J (pre ++ T.list) wr := by rw [hl]; simpa [BT.list] using hJd
        gi_wp2
        go_ret
        exact .inl ⟨rfl, hj, hb⟩
      | node tl v tr =>
        have hU' := hU.tree
        obtain ⟨M, off, pl, pr, rfl, hM, c0, c1, c2, c3, c4, hl1, hr1⟩ := hU
        have hlen : T.list.length = dn.length + (tl.list.length + (tr.list.length + 1)) := by rw [hl]; simp [BT.list]
        have hy2 : ∀ W1, J (pre ++ dn ++ tl.list) W1 → Below n₀ wr W1 → YieldAt F (n - 1) Try.prog l #[.agg #[.int .u64 v.1, .int .u64 v.2]] W1 fun e W2 =>
            (e = .returned (.bool true) ∧ J (pre ++ dn ++ tl.list ++ [v]) W2 ∧ Below n₀ wr W2 ∧ W2.cell? ⟨M, off + 3, none⟩ = some (.pointer pr) ∧ RTreeN n₀ W2 pr tr) ∨ (e = .returned (.bool false) ∧ Jx (pre ++ dn ++ tl.list ++ [v]) W2) := fun W1 hJ1 hb1 =>
          YieldAt.mono (hY (n - 1) _ v W1 hJ1 (by simp; omega)) fun e W2 h => h.elim
            (fun ⟨he, hj, hb2⟩ => .inl ⟨he, hj, hb1.trans hb2, ((hb1.trans hb2).cell (p := ⟨M, off + 3, none⟩) hM).trans c3, hr1.below (hb1.trans hb2)⟩) .inr
        have ih1 := (ih tl.list.length (by omega) tl (Nat.le_refl _) (n - 1) pl (pre ++ dn) wr hl1 hJd (by simp; omega)).mono (R' := fun e W1 =>
            (e = .returned (.bool true) ∧ W1.cell? ⟨M, off, none⟩ = some (.int .u64 v.1) ∧ W1.cell? ⟨M, off + 1, none⟩ = some (.int .u64 v.2) ∧ YieldAt F (n - 1) Try.prog l #[.agg #[.int .u64 v.1, .int .u64 v.2]] W1 fun e W2 =>
              (e = .returned (.bool true) ∧ J (pre ++ dn ++ tl.list ++ [v]) W2 ∧ Below n₀ wr W2 ∧ W2.cell? ⟨M, off + 3, none⟩ = some (.pointer pr) ∧ RTreeN n₀ W2 pr tr) ∨ (e = .returned (.bool false) ∧ Jx (pre ++ dn ++ tl.list ++ [v]) W2)) ∨
            (e = .returned (.bool false) ∧ ∃ q, q <+: tl.list ∧ Jx (pre ++ dn ++ q) W1))
          (fun e W1 h => h.elim (fun ⟨he, hj, hb1⟩ => .inl ⟨he, (hb1.cell (p := ⟨M, off, none⟩) hM).trans c0, (hb1.cell (p := ⟨M, off + 1, none⟩) hM).trans c1, hy2 W1 hj hb1⟩) .inr)
        clear hy2 ih
        gi_wp2_with (first
          | ((try refine ⟨hdd _, ?_⟩); gi_at_call 83; refine ih1.mono ?_; clear ih1; rintro e W1 (⟨rfl, c0', c1', fn, tmps, assign, body, hy, hR⟩ | ⟨rfl, q, hq, hx1⟩))
          | ((try refine ⟨hdd _, ?_⟩); refine hR.mono ?_; clear hR; rintro e W2 (⟨rfl, hJ2, hb2, c2', hr2⟩ | ⟨rfl, hx2⟩)))
        · refine ⟨⟨pr, tr, dn ++ tl.list ++ [v], rfl, hr2, by rw [hl]; simp [BT.list], by simpa [List.append_assoc] using hJ2, hb.trans hb2⟩, ?_⟩
          rw [leftR_eq hr2.tree, leftR_eq hU']
          simp [BT.list]; omega
        · go_ret
          exact .inr ⟨rfl, dn ++ tl.list ++ [v], ⟨tr.list, by rw [hl]; simp [BT.list]⟩, by simpa [List.append_assoc] using hx2⟩
        · refine ⟨fun _ h => (by cases h), ?_⟩
          gi_wp2
          go_ret
          obtain ⟨r, hr'⟩ := hq
          exact .inr ⟨rfl, dn ++ q, ⟨r ++ v :: tr.list, by rw [hl]; simp [BT.list, ← hr']⟩, by simpa [List.append_assoc] using hx1⟩

set_option maxHeartbeats 1000000 in
theorem all1_in (F : Fence) (hd : F.depth = none) (n : Nat) (h82 : F.fn 82) (h83 : F.fn 83) (hro : F.round = none) (l Bt n₀ : Nat) (p0 : Option Addr) (T : BT Run) (J Jx : List Run → World → Prop)
    (hY : ∀ pre x W, J pre W → pre.length < T.list.length → YieldAt F (n - 1) Try.prog l #[.agg #[.int .u64 x.1, .int .u64 x.2]] W fun e W' =>
      (e = .returned (.bool true) ∧ J (pre ++ [x]) W' ∧ Below n₀ W W') ∨ (e = .returned (.bool false) ∧ Jx (pre ++ [x]) W'))
    (W : World) (hBt : W.cell? ⟨Bt, 0, none⟩ = some (.pointer p0)) (hT : RTreeN n₀ W p0 T) (h0 : J [] W) :
    CallsIn F n Try.prog 82 #[.func (.yield l) #[] #[], .pointer (some ⟨Bt, 0, none⟩)] W fun e W' => (∃ v, e = .returned v) ∧
      ((∃ ys, ys = T.list ∧ J ys W') ∨ (∃ pre, pre <+: T.list ∧ Jx pre W')) := by
  have hdd : ∀ k : Nat, (F.depth.isSome = true → 1 ≤ k) := fun k h => by rw [hd] at h; cases h
  have hp := walk_in F hd h83 hro l n₀ T.list.length J Jx (fun m pre x W hj hl => YieldAt.anyDepth hd m (hY pre x W hj hl)) _ T (Nat.le_refl _) (n - 1) p0 [] W hT h0 (by simp)
  refine callsIn_of_wp Try.func82 rfl h82 ?_ hro
  simp only [Try.ntmps82, List.size_toArray, List.length_cons, List.length_nil, Nat.reduceAdd, Nat.reduceSub, Array.replicate_succ, Array.replicate_zero, List.push_toArray, List.append_toArray, List.nil_append, List.cons_append]
  gi_wp2_with ((try refine ⟨hdd _, ?_⟩); gi_at_call 83; refine hp.mono ?_; clear hp; rintro e W1 (⟨rfl, hJ1, _⟩ | ⟨rfl, q, hq, hx⟩))
  · go_end0
    exact ⟨⟨_, rfl⟩, .inl ⟨_, rfl, by simpa using hJ1⟩⟩
  · go_end0
    exact ⟨⟨_, rfl⟩, .inr ⟨q, hq, by simpa using hx⟩⟩

theorem all_stops (F : Fence) (hd : F.depth = none) (n : Nat) (h82 : F.fn 82) (h83 : F.fn 83) (hro : F.round = none) (Bt n₀ : Nat) (p0 : Option Addr) (T : BT Run) (w : World) (hBt : Bt < w.heap.size) (hn₀ : n₀ ≤ w.heap.size)
    (hc : w.cell? ⟨Bt, 0, none⟩ = some (.pointer p0)) (hT : RTreeN n₀ w p0 T) :
    SeqStopsK F n Try.prog 82 #[.pointer (some ⟨Bt, 0, none⟩)] (fun x : Run => #[Value.agg #[.int .u64 x.1, .int .u64 x.2]]) (Below n₀) (fun ys => ys = T.list) (fun pre => pre <+: T.list) T.list.length w := fun l J Jx W hW _ _ hY h0 =>
  all1_in F hd n h82 h83 hro l Bt n₀ p0 T J Jx hY W ((hW.cell (p := ⟨Bt, 0, none⟩) hBt).trans hc) (hT.below (hW.mono hn₀)) h0

set_option maxHeartbeats 1000000 in
theorem all_any (p0 : Option Addr) (w : World) :
    Calls Try.prog 66 #[.pointer p0] w fun e w' => e = .returned (.func (.func 82) #[] #[.pointer (some ⟨w.heap.size, 0, none⟩)]) ∧ w' = w.alloc (.cells #[.pointer p0] 65) := by
  go_enter Try.func66, Try.ntmps66
  go_wp2
  go_ret
  exact ⟨rfl, rfl⟩

end Go.Proofs.Qxb6608633a
