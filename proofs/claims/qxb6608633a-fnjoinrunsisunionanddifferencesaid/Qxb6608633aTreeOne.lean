/- Trees of one element: build, treeOf, len, at. -/
import Derived.Test.Qxb6608633aSort
namespace Go.Proofs.Qxb6608633a
open Go.RowKit

set_option maxHeartbeats 400000 in
theorem buildR_none (v : Value) (ao : Option Addr) (c : Nat) (w : World) : Calls Try.prog 63 #[v, .slice ao 0 c] w fun e w' => e = .returned (.pointer none) ∧ w' = w := by
  go_enter Try.func63, Try.ntmps63
  go_wp2
  go_ret
  exact ⟨rfl, rfl⟩

/-- The node at the head of block N is a tree of the one element (a, b). -/
def OneAt (w : World) (N t : Nat) (a b : Value) : Prop := w.heap[N]? = some (.cells #[a, b, .pointer none, .pointer none, .int .i64 1] t (0, 0))

def OneRet (w : World) (N t : Nat) (a b : Value) (e : Ending) (w' : World) : Prop := e = .returned (.pointer (some ⟨N, 0, none⟩)) ∧ OneAt w' N t a b ∧ Below N w w'

theorem heap_set {w : World} {N t i : Nat} {cs : Array Value} (v : Value) (h : w.heap[N]? = some (.cells cs t (0, 0))) : (w.setCell ⟨N, i, none⟩ v).heap[N]? = some (.cells (cs.setIfInBounds i v) t (0, 0)) := by
  obtain ⟨hlt, hk⟩ := Array.getElem?_eq_some_iff.1 h
  show (w.heap.modify N _)[N]? = _
  rw [Array.getElem?_eq_getElem (by rw [Array.size_modify]; exact hlt), Array.getElem_modify_self, hk]
  rfl

set_option maxHeartbeats 2000000 in
set_option maxRecDepth 100000 in
theorem buildR_one (N E eo cap : Nat) (hcap : 1 ≤ cap) (lo hi : Int) (c0 c1 c2 c3 c4 : Value) (w : World) (hN : w.heap[N]? = some (.cells #[c0, c1, c2, c3, c4] 136 (0, 0))) (h0 : w.cell? ⟨E, eo, none⟩ = some (.int .u64 lo)) (h1 : w.cell? ⟨E, eo + 1, none⟩ = some (.int .u64 hi)) :
    Calls Try.prog 63 #[.slice (some ⟨N, 0, none⟩) 1 1, .slice (some ⟨E, eo, none⟩) 1 cap] w (OneRet w N 136 (.int .u64 lo) (.int .u64 hi)) := by
  have d0 : w.cell? ⟨N, 0, none⟩ = some c0 := by simp [World.cell?, hN]
  have d1 : w.cell? ⟨N, 1, none⟩ = some c1 := by simp [World.cell?, hN]
  have d2 : w.cell? ⟨N, 2, none⟩ = some c2 := by simp [World.cell?, hN]
  have d3 : w.cell? ⟨N, 3, none⟩ = some c3 := by simp [World.cell?, hN]
  have d4 : w.cell? ⟨N, 4, none⟩ = some c4 := by simp [World.cell?, hN]
  have f0 : w.frozen? ⟨N, 0, none⟩ = false := by simp [World.frozen?, hN]
  have f1 : w.frozen? ⟨N, 1, none⟩ = false := by simp [World.frozen?, hN]
  have f2 : w.frozen? ⟨N, 2, none⟩ = false := by simp [World.frozen?, hN]
  have f3 : w.frozen? ⟨N, 3, none⟩ = false := by simp [World.frozen?, hN]
  have f4 : w.frozen? ⟨N, 4, none⟩ = false := by simp [World.frozen?, hN]
  have HN := hidd hN
  clear hN
  go_enter Try.func63, Try.ntmps63
  go_wp2
  have HN1 := hidd (heap_set (i := 4) (.int .i64 1) (heap_set (i := 1) (.int .u64 hi) (heap_set (i := 0) (.int .u64 lo) HN.out)))
  have hb1 : Below N w (((w.setCell ⟨N, 0, none⟩ (.int .u64 lo)).setCell ⟨N, 1, none⟩ (.int .u64 hi)).setCell ⟨N, 4, none⟩ (.int .i64 1)) := (((Below.refl _ _).setCell (p := ⟨N, 0, none⟩) (Nat.le_refl _) _).setCell (p := ⟨N, 1, none⟩) (Nat.le_refl _) _).setCell (p := ⟨N, 4, none⟩) (Nat.le_refl _) _
  generalize (((w.setCell ⟨N, 0, none⟩ (.int .u64 lo)).setCell ⟨N, 1, none⟩ (.int .u64 hi)).setCell ⟨N, 4, none⟩ (.int .i64 1)) = W1 at HN1 hb1 ⊢
  clear HN h0 h1 d0 d1 d2 d3 d4 f0 f1 f2 f3 f4
  have d2 : W1.cell? ⟨N, 2, none⟩ = some c2 := by simp [World.cell?, HN1.out]
  have f2 : W1.frozen? ⟨N, 2, none⟩ = false := by simp [World.frozen?, HN1.out]
  have d3 : W1.cell? ⟨N, 3, none⟩ = some c3 := by simp [World.cell?, HN1.out]
  have f3 : W1.frozen? ⟨N, 3, none⟩ = false := by simp [World.frozen?, HN1.out]
  go_region_with (go_at_call 63; refine (buildR_none _ _ _ _).mono ?_; rintro e w' ⟨rfl, rfl⟩)
  all_goals go_wp2
  all_goals rcases (show cap = 1 ∨ 1 < cap by omega) with hcp | hcp
  all_goals try subst hcp
  all_goals go_region_with (go_at_call 63; refine (buildR_none _ _ _ _).mono ?_; rintro e w' ⟨rfl, rfl⟩)
  all_goals go_wp2
  all_goals go_ret
  all_goals exact ⟨rfl, heap_set (i := 3) (.pointer none) (heap_set (i := 2) (.pointer none) HN1.out), hb1.drew.setCell (p := ⟨N, 2, none⟩) (Nat.le_refl _) _ |>.drew |>.setCell (p := ⟨N, 3, none⟩) (Nat.le_refl _) _⟩

end Go.Proofs.Qxb6608633a
