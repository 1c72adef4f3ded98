/- A walk over a tree of runs that hands out members alone. -/
import Derived.Test.Qxb6608633aWalk83
namespace Go.Proofs.Qxb6608633a
open Go.RowKit
open Go.Shelf
attribute [local go_sem] Oper.semAt_some

/-- x, if the runs hold it; else the first of them. -/
def pick (zs : List Run) (x : Run) : Run := if x ∈ zs then x else zs.headD (1, 1)
theorem pick_of {zs : List Run} {x : Run} (h : x ∈ zs) : pick zs x = x := if_pos h
theorem pick_mem {zs : List Run} (h : zs ≠ []) (x : Run) : pick zs x ∈ zs := by
  unfold pick
  split
  · assumption
  · cases zs with
    | nil => exact absurd rfl h
    | cons a l => simp

set_option maxRecDepth 100000 in
set_option maxHeartbeats 2000000 in
/-- walk: all elements have come, or a round has said 'no more'. -/
theorem walkM_in (zs : List Run) (F : Fence) (hd : F.depth = none) (h83 : F.fn 83) (hro : F.round = none) (l n₀ N : Nat) (J Jx : List Run → World → Prop)
    (hY : ∀ m pre x W, x ∈ zs → J pre W → pre.length < N → YieldAt F m Try.prog l #[.agg #[.int .u64 x.1, .int .u64 x.2]] W fun e W' =>
      (e = .returned (.bool true) ∧ J (pre ++ [x]) W' ∧ Below n₀ W W') ∨ (e = .returned (.bool false) ∧ Jx (pre ++ [x]) W')) : ∀ (k : Nat) (T : BT Run), T.list.length ≤ k →
    ∀ (n : Nat) (p : Option Addr) (pre : List Run) (W : World), (∀ x ∈ T.list, x ∈ zs) → RTreeN n₀ W p T → J pre W → pre.length + T.list.length ≤ N →
      CallsIn F n Try.prog 83 #[.pointer p, .func (.yield l) #[] #[]] W fun e W' =>
        (e = .returned (.bool true) ∧ J (pre ++ T.list) W' ∧ Below n₀ W W') ∨ (e = .returned (.bool false) ∧ ∃ q, q <+: T.list ∧ Jx (pre ++ q) W') := by
  intro k
  induction k using Nat.strongRecOn with
  | _ k ih =>
    intro T hk n p pre W hzs hT hJ hN
    have hdd : ∀ k : Nat, (F.depth.isSome = true → 1 ≤ k) := fun k h => by rw [hd] at h; cases h
    refine callsIn_of_wp Try.func83 rfl h83 ?_ hro
    simp only [Try.ntmps83, List.size_toArray, List.length_cons, List.length_nil, Nat.reduceAdd, Nat.reduceSub, Array.replicate_succ, Array.replicate_zero, List.push_toArray, List.append_toArray, List.nil_append, List.cons_append]
    gi_wp2
    gi_loopw [0] (fun t wr => ∃ (q : Option Addr) (U : BT Run) (dn : List Run), t = .pointer q ∧ RTreeN n₀ wr q U ∧ T.list = dn ++ U.list ∧ J (pre ++ dn) wr ∧ Below n₀ W wr) (fun t wr => leftR wr t)
    case atStart => exact ⟨p, T, [], rfl, hT, rfl, by simpa using hJ, Below.refl _ _⟩
    case round =>
      obtain ⟨q, U, dn, rfl, hU, hl, hJd, hb⟩ := hrel
      cases U with
      | nil =>
        obtain rfl : q = none := hU
        have hj : J (pre ++ T.list) wr := by rw [hl]; simpa [BT.list] using hJd
        gi_wp2
        go_ret
        exact .inl ⟨rfl, hj, hb⟩
      | node tl v tr =>
        have hU' := hU.tree
        obtain ⟨M, off, pl, pr, rfl, hM, c0, c1, c2, c3, c4, hl1, hr1⟩ := hU
        have hlen : T.list.length = dn.length + (tl.list.length + (tr.list.length + 1)) := by rw [hl]; simp [BT.list]
        have hy2 : ∀ W1, J (pre ++ dn ++ tl.list) W1 → Below n₀ wr W1 → YieldAt F (n - 1) Try.prog l #[.agg #[.int .u64 v.1, .int .u64 v.2]] W1 fun e W2 =>
            (e = .returned (.bool true) ∧ J (pre ++ dn ++ tl.list ++ [v]) W2 ∧ Below n₀ wr W2 ∧ W2.cell? ⟨M, off + 3, none⟩ = some (.pointer pr) ∧ RTreeN n₀ W2 pr tr) ∨ (e = .returned (.bool false) ∧ Jx (pre ++ dn ++ tl.list ++ [v]) W2) := fun W1 hJ1 hb1 =>
          YieldAt.mono (hY (n - 1) _ v W1 (hzs v (by rw [hl]; simp [BT.list])) hJ1 (by simp; omega)) fun e W2 h => h.elim
            (fun ⟨he, hj, hb2⟩ => .inl ⟨he, hj, hb1.trans hb2, ((hb1.trans hb2).cell (p := ⟨M, off + 3, none⟩) hM).trans c3, hr1.below (hb1.trans hb2)⟩) .inr
        have ih1 := (ih tl.list.length (by omega) tl (Nat.le_refl _) (n - 1) pl (pre ++ dn) wr (fun x hx => hzs x (by rw [hl]; simp [BT.list, hx])) hl1 hJd (by simp; omega)).mono (R' := fun e W1 =>
            (e = .returned (.bool true) ∧ W1.cell? ⟨M, off, none⟩ = some (.int .u64 v.1) ∧ W1.cell? ⟨M, off + 1, none⟩ = some (.int .u64 v.2) ∧ YieldAt F (n - 1) Try.prog l #[.agg #[.int .u64 v.1, .int .u64 v.2]] W1 fun e W2 =>
              (e = .returned (.bool true) ∧ J (pre ++ dn ++ tl.list ++ [v]) W2 ∧ Below n₀ wr W2 ∧ W2.cell? ⟨M, off + 3, none⟩ = some (.pointer pr) ∧ RTreeN n₀ W2 pr tr) ∨ (e = .returned (.bool false) ∧ Jx (pre ++ dn ++ tl.list ++ [v]) W2)) ∨
            (e = .returned (.bool false) ∧ ∃ q, q <+: tl.list ∧ Jx (pre ++ dn ++ q) W1))
          (fun e W1 h => h.elim (fun ⟨he, hj, hb1⟩ => .inl ⟨he, (hb1.cell (p := ⟨M, off, none⟩) hM).trans c0, (hb1.cell (p := ⟨M, off + 1, none⟩) hM).trans c1, hy2 W1 hj hb1⟩) .inr)
        clear hy2 ih
        gi_wp2_with (first
          | ((try refine ⟨hdd _, ?_⟩); gi_at_call 83; refine ih1.mono ?_; clear ih1; rintro e W1 (⟨rfl, c0', c1', fn, tmps, assign, body, hy, hR⟩ | ⟨rfl, q, hq, hx1⟩))
          | ((try refine ⟨hdd _, ?_⟩); refine hR.mono ?_; clear hR; rintro e W2 (⟨rfl, hJ2, hb2, c2', hr2⟩ | ⟨rfl, hx2⟩)))
        · refine ⟨⟨pr, tr, dn ++ tl.list ++ [v], rfl, hr2, by rw [hl]; simp [BT.list], by simpa [List.append_assoc] using hJ2, hb.trans hb2⟩, ?_⟩
          rw [leftR_eq hr2.tree, leftR_eq hU']
          simp [BT.list]; omega
        · go_ret
          exact .inr ⟨rfl, dn ++ tl.list ++ [v], ⟨tr.list, by rw [hl]; simp [BT.list]⟩, by simpa [List.append_assoc] using hx2⟩
        · refine ⟨fun _ h => (by cases h), ?_⟩
          gi_wp2
          go_ret
          obtain ⟨r, hr'⟩ := hq
          exact .inr ⟨rfl, dn ++ q, ⟨r ++ v :: tr.list, by rw [hl]; simp [BT.list, ← hr']⟩, by simpa [List.append_assoc] using hx1⟩

set_option maxHeartbeats 1000000 in
theorem all1M_in (F : Fence) (hd : F.depth = none) (n : Nat) (h82 : F.fn 82) (h83 : F.fn 83) (hro : F.round = none) (l Bt n₀ : Nat) (p0 : Option Addr) (T : BT Run) (J Jx : List Run → World → Prop)
    (hY : ∀ pre x W, J pre W → pre.length < T.list.length → YieldAt F (n - 1) Try.prog l #[.agg #[.int .u64 (pick T.list x).1, .int .u64 (pick T.list x).2]] W fun e W' =>
      (e = .returned (.bool true) ∧ J (pre ++ [x]) W' ∧ Below n₀ W W') ∨ (e = .returned (.bool false) ∧ Jx (pre ++ [x]) W'))
    (W : World) (hBt : W.cell? ⟨Bt, 0, none⟩ = some (.pointer p0)) (hT : RTreeN n₀ W p0 T) (h0 : J [] W) :
    CallsIn F n Try.prog 82 #[.func (.yield l) #[] #[], .pointer (some ⟨Bt, 0, none⟩)] W fun e W' => (∃ v, e = .returned v) ∧
      ((∃ ys, ys = T.list ∧ J ys W') ∨ (∃ pre, pre <+: T.list ∧ Jx pre W')) := by
  have hdd : ∀ k : Nat, (F.depth.isSome = true → 1 ≤ k) := fun k h => by rw [hd] at h; cases h
  have hp := walkM_in T.list F hd h83 hro l n₀ T.list.length J Jx (fun m pre x W hx hj hl => YieldAt.anyDepth hd m (by have := hY pre x W hj hl; rwa [pick_of hx] at this)) _ T (Nat.le_refl _) (n - 1) p0 [] W (fun _ h => h) hT h0 (by simp)
  refine callsIn_of_wp Try.func82 rfl h82 ?_ hro
  simp only [Try.ntmps82, List.size_toArray, List.length_cons, List.length_nil, Nat.reduceAdd, Nat.reduceSub, Array.replicate_succ, Array.replicate_zero, List.push_toArray, List.append_toArray, List.nil_append, List.cons_append]
  gi_wp2_with ((try refine ⟨hdd _, ?_⟩); gi_at_call 83; refine hp.mono ?_; clear hp; rintro e W1 (⟨rfl, hJ1, _⟩ | ⟨rfl, q, hq, hx⟩))
  · go_end0
    exact ⟨⟨_, rfl⟩, .inl ⟨_, rfl, by simpa using hJ1⟩⟩
  · go_end0
    exact ⟨⟨_, rfl⟩, .inr ⟨q, hq, by simpa using hx⟩⟩

theorem allM_stops (F : Fence) (hd : F.depth = none) (n : Nat) (h82 : F.fn 82) (h83 : F.fn 83) (hro : F.round = none) (Bt n₀ : Nat) (p0 : Option Addr) (T : BT Run) (w : World) (hBt : Bt < w.heap.size) (hn₀ : n₀ ≤ w.heap.size)
    (hc : w.cell? ⟨Bt, 0, none⟩ = some (.pointer p0)) (hT : RTreeN n₀ w p0 T) :
    SeqStopsK F n Try.prog 82 #[.pointer (some ⟨Bt, 0, none⟩)] (fun x : Run => #[Value.agg #[.int .u64 (pick T.list x).1, .int .u64 (pick T.list x).2]]) (Below n₀) (fun ys => ys = T.list) (fun pre => pre <+: T.list) T.list.length w := fun l J Jx W hW _ _ hY h0 =>
  all1M_in F hd n h82 h83 hro l Bt n₀ p0 T J Jx hY W ((hW.cell (p := ⟨Bt, 0, none⟩) hBt).trans hc) (hT.below (hW.mono hn₀)) h0

end Go.Proofs.Qxb6608633a
