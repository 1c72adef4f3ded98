/- treeOf, len, at over runs, in general. -/
import Derived.Test.Qxb6608633aBuildC
namespace Go.Proofs.Qxb6608633a
open Go.RowKit

theorem RTree.unique {w : World} : ∀ {T U : BT Run} {p : Option Addr}, RTree w p T → RTree w p U → T = U
  | .nil, .nil, _, _, _ => rfl
  | .nil, .node _ _ _, _, h, ⟨_, _, _, _, hp, _⟩ => by rw [h] at hp; cases hp
  | .node _ _ _, .nil, _, ⟨_, _, _, _, hp, _⟩, h => by rw [h] at hp; cases hp
  | .node l x r, .node l' x' r', _, ⟨N, off, pl, pr, hp, h0, h1, h2, h3, _, hl, hr⟩, ⟨N', off', pl', pr', hp', h0', h1', h2', h3', _, hl', hr'⟩ => by
    rw [hp] at hp'; cases hp'
    rw [h0] at h0'; rw [h1] at h1'; rw [h2] at h2'; rw [h3] at h3'
    cases h2'; cases h3'
    have e1 : x.1 = x'.1 := by injection h0' with h; injection h
    have e2 : x.2 = x'.2 := by injection h1' with h; injection h
    rw [RTree.unique hl hl', RTree.unique hr hr', Prod.ext e1 e2]

open Classical in
/-- How many elements the tree at v holds: for a loop's measure. -/
noncomputable def leftR (w : World) (v : Value) : Nat := if h : ∃ r : Option Addr × BT Run, v = .pointer r.1 ∧ RTree w r.1 r.2 then (Classical.choose h).2.list.length else 0
theorem leftR_eq {w : World} {q : Option Addr} {T : BT Run} (h : RTree w q T) : leftR w (.pointer q) = T.list.length := by
  have hex : ∃ r : Option Addr × BT Run, Value.pointer q = .pointer r.1 ∧ RTree w r.1 r.2 := ⟨(q, T), rfl, h⟩
  unfold leftR
  rw [dif_pos hex]
  obtain ⟨e, hl⟩ := Classical.choose_spec hex
  have e' : q = (Classical.choose hex).1 := by simpa using e
  rw [← e'] at hl
  rw [RTree.unique hl h]

set_option maxHeartbeats 400000 in
theorem lenR_any (p : Option Addr) (T : BT Run) (w : World) (h : RTree w p T) : Calls Try.prog 49 #[.pointer p] w fun e w' => e = .returned (.int .i64 (T.list.length : Nat)) ∧ w' = w := by
  cases T with
  | nil =>
    obtain rfl : p = none := h
    exact lenR_none w
  | node l x r =>
    obtain ⟨N, off, pl, pr, rfl, _, _, _, _, h4, _, _⟩ := h
    have hn : (BT.node l x r).list.length = (l.list ++ x :: r.list).length := rfl
    rw [hn]
    generalize (l.list ++ x :: r.list).length = n at h4 ⊢
    go_enter Try.func49, Try.ntmps49
    go_wp2
    go_ret
    exact ⟨rfl, rfl⟩

def TreeRet (w : World) (xs : List Run) (e : Ending) (w' : World) : Prop := ∃ p T, e = .returned (.pointer p) ∧ RTree w' p T ∧ T.list = xs ∧ Below w.heap.size w w'

theorem room_of_own {w : World} {B N t m c : Nat} {xs : List Value} (h : w.ownsRow B t 5 (.slice (some ⟨N, 0, none⟩) m c) m xs) : Room w N 0 m := by
  have h' := h
  rcases h.2 with ⟨h, _⟩ | ⟨g, cap, cur, hs, _, hg, hle, _, hsz, _⟩
  · cases h
  · cases hs
    intro j hj
    have hj' : j < cur.size := by rw [hsz]; exact Nat.lt_of_lt_of_le hj (Nat.mul_le_mul_right 5 hle)
    refine ⟨?_, by simp [World.frozen?, hg]⟩
    simp [World.cell?, hg, hj']

set_option maxHeartbeats 1000000 in
set_option maxRecDepth 100000 in
theorem treeOfR_any (ae : Option Addr) (E eo ec m : Nat) (xs : List Run) (w : World) (hx : xs.length = m) (hm : m ≤ 1048577) (hae : m ≠ 0 → ae = some ⟨E, eo, none⟩ ∧ m ≤ ec ∧ E < w.heap.size) (hr : RunsAt w E eo xs) :
    Calls Try.prog 47 #[.slice ae m ec] w (TreeRet w xs) := by
  have Hr := hidd hr
  have Hae := hidd hae
  have Hx := hidd hx
  obtain ⟨i0, hi0, hz0, hz1, hz2⟩ := info_parts Try.info136
  clear hr hae hx
  go_enter Try.func47, Try.ntmps47
  go_wp2_with (at_make; refine wpList_make_full _ rfl _ _ 124 rfl w.heap.size 136 i0 _ 5 Try.underlying124 hi0 hz0 hz1 _ _ _ _ m rfl rfl rfl rfl ?c1 ?c2 ?c3 ?_)
  case c1 => rw [hz2]; omega
  case c2 => unfold maxLen; omega
  case c3 => exact Nat.le_refl _
  intro w1 hown hgrow
  have hb : Below w.heap.size w w1 := (Below.refl _ _).grown hgrow (Nat.le_refl _) (fun k h => by cases h)
  have H := hidd (buildAt_any m hm (some ⟨w.heap.size, 0, none⟩) ae w.heap.size 0 m E eo ec xs w1 Hx.out (fun h0 => ⟨rfl, (Hae.out h0).1, Nat.le_refl _, (Hae.out h0).2.1, Nat.ne_of_lt (Hae.out h0).2.2⟩) (room_of_own hown)
    (fun i x hi => by
      have hlt : m ≠ 0 := by have := (List.getElem?_eq_some_iff.1 hi).1; have := Hx.out; omega
      have hE := (Hae.out hlt).2.2
      exact ⟨(hb.cell (p := ⟨E, eo + i * 2, none⟩) hE).trans (Hr.out i x hi).1, (hb.cell (p := ⟨E, eo + i * 2 + 1, none⟩) hE).trans (Hr.out i x hi).2⟩))
  clear hown hgrow hi0 hz0 hz1 hz2 Hr Hae
  go_wp2_with fail
  refine H.out.mono ?_
  rintro e w2 ⟨p, T, rfl, htr, hl, hu⟩
  have hfin : TreeRet w xs (.returned (.pointer p)) w2 := ⟨p, T, rfl, htr.tree, hl, hb.trans (hu.below (Nat.le_refl _))⟩
  have Hfin := hidd hfin
  clear htr hl hu H hfin
  go_wp2
  go_ret
  exact Hfin.out

theorem list_at {l r : BT Run} {x y : Run} {k : Nat} (h : (l.list ++ x :: r.list)[k]? = some y) :
    (k < l.list.length ∧ l.list[k]? = some y) ∨ (k = l.list.length ∧ x = y) ∨ (l.list.length < k ∧ r.list[k - (l.list.length + 1)]? = some y) := by
  rcases (show k < l.list.length ∨ k = l.list.length ∨ l.list.length < k by omega) with hk | hk | hk
  · rw [List.getElem?_append_left hk] at h; exact .inl ⟨hk, h⟩
  · subst hk
    rw [List.getElem?_append_right (Nat.le_refl _), Nat.sub_self] at h
    simp at h; exact .inr (.inl ⟨rfl, h⟩)
  · rw [List.getElem?_append_right (by omega), show k - l.list.length = (k - (l.list.length + 1)) + 1 by omega] at h
    simp at h; exact .inr (.inr ⟨hk, h⟩)

end Go.Proofs.Qxb6608633a
