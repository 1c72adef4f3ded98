/- Trees of one element: the same for the entries of a context. -/
import Derived.Test.Qxb6608633aTreeOne2
namespace Go.Proofs.Qxb6608633a
open Go.RowKit

set_option maxHeartbeats 400000 in
theorem buildX_none (v : Value) (ao : Option Addr) (c : Nat) (w : World) : Calls Try.prog 79 #[v, .slice ao 0 c] w fun e w' => e = .returned (.pointer none) ∧ w' = w := by
  go_enter Try.func79, Try.ntmps79
  go_wp2
  go_ret
  exact ⟨rfl, rfl⟩

set_option maxHeartbeats 2000000 in
set_option maxRecDepth 100000 in
theorem buildX_one (N E eo cap : Nat) (hcap : 1 ≤ cap) (lo : ByteArray) (hi : Option Addr) (c0 c1 c2 c3 c4 : Value) (w : World) (hN : w.heap[N]? = some (.cells #[c0, c1, c2, c3, c4] 139 (0, 0))) (h0 : w.cell? ⟨E, eo, none⟩ = some (.string lo)) (h1 : w.cell? ⟨E, eo + 1, none⟩ = some (.pointer hi)) :
    Calls Try.prog 79 #[.slice (some ⟨N, 0, none⟩) 1 1, .slice (some ⟨E, eo, none⟩) 1 cap] w (OneRet w N 139 (.string lo) (.pointer hi)) := by
  have d0 : w.cell? ⟨N, 0, none⟩ = some c0 := by simp [World.cell?, hN]
  have d1 : w.cell? ⟨N, 1, none⟩ = some c1 := by simp [World.cell?, hN]
  have d2 : w.cell? ⟨N, 2, none⟩ = some c2 := by simp [World.cell?, hN]
  have d3 : w.cell? ⟨N, 3, none⟩ = some c3 := by simp [World.cell?, hN]
  have d4 : w.cell? ⟨N, 4, none⟩ = some c4 := by simp [World.cell?, hN]
  have f0 : w.frozen? ⟨N, 0, none⟩ = false := by simp [World.frozen?, hN]
  have f1 : w.frozen? ⟨N, 1, none⟩ = false := by simp [World.frozen?, hN]
  have f2 : w.frozen? ⟨N, 2, none⟩ = false := by simp [World.frozen?, hN]
  have f3 : w.frozen? ⟨N, 3, none⟩ = false := by simp [World.frozen?, hN]
  have f4 : w.frozen? ⟨N, 4, none⟩ = false := by simp [World.frozen?, hN]
  have HN := hidd hN
  clear hN
  go_enter Try.func79, Try.ntmps79
  go_wp2
  have HN1 := hidd (heap_set (i := 4) (.int .i64 1) (heap_set (i := 1) (.pointer hi) (heap_set (i := 0) (.string lo) HN.out)))
  have hb1 : Below N w (((w.setCell ⟨N, 0, none⟩ (.string lo)).setCell ⟨N, 1, none⟩ (.pointer hi)).setCell ⟨N, 4, none⟩ (.int .i64 1)) := (((Below.refl _ _).setCell (p := ⟨N, 0, none⟩) (Nat.le_refl _) _).setCell (p := ⟨N, 1, none⟩) (Nat.le_refl _) _).setCell (p := ⟨N, 4, none⟩) (Nat.le_refl _) _
  generalize (((w.setCell ⟨N, 0, none⟩ (.string lo)).setCell ⟨N, 1, none⟩ (.pointer hi)).setCell ⟨N, 4, none⟩ (.int .i64 1)) = W1 at HN1 hb1 ⊢
  clear HN h0 h1 d0 d1 d2 d3 d4 f0 f1 f2 f3 f4
  have d2 : W1.cell? ⟨N, 2, none⟩ = some c2 := by simp [World.cell?, HN1.out]
  have f2 : W1.frozen? ⟨N, 2, none⟩ = false := by simp [World.frozen?, HN1.out]
  have d3 : W1.cell? ⟨N, 3, none⟩ = some c3 := by simp [World.cell?, HN1.out]
  have f3 : W1.frozen? ⟨N, 3, none⟩ = false := by simp [World.frozen?, HN1.out]
  go_region_with (go_at_call 79; refine (buildX_none _ _ _ _).mono ?_; rintro e w' ⟨rfl, rfl⟩)
  all_goals go_wp2
  all_goals rcases (show cap = 1 ∨ 1 < cap by omega) with hcp | hcp
  all_goals try subst hcp
  all_goals go_region_with (go_at_call 79; refine (buildX_none _ _ _ _).mono ?_; rintro e w' ⟨rfl, rfl⟩)
  all_goals go_wp2
  all_goals go_ret
  all_goals exact ⟨rfl, heap_set (i := 3) (.pointer none) (heap_set (i := 2) (.pointer none) HN1.out), hb1.drew.setCell (p := ⟨N, 2, none⟩) (Nat.le_refl _) _ |>.drew |>.setCell (p := ⟨N, 3, none⟩) (Nat.le_refl _) _⟩
theorem Try.info139 : (Try.prog.info? 139).map (fun i => (i.zero, i.size, i.bytes)) = some (some (.agg #[.string ByteArray.empty, .pointer none, .pointer none, .pointer none, .int .i64 0]), 5, 48) := by kernel_rfl

set_option maxHeartbeats 1000000 in
set_option maxRecDepth 100000 in
theorem treeOfX_one (E eo cap : Nat) (hcap : 1 ≤ cap) (lo : ByteArray) (hi : Option Addr) (w : World) (h0 : w.cell? ⟨E, eo, none⟩ = some (.string lo)) (h1 : w.cell? ⟨E, eo + 1, none⟩ = some (.pointer hi)) :
    Calls Try.prog 61 #[.slice (some ⟨E, eo, none⟩) 1 cap] w (OneRet w w.heap.size 139 (.string lo) (.pointer hi)) := by
  have hE : E < w.heap.size := World.block_lt_of_cell? w _ h0
  have H0 := hidd h0
  have H1 := hidd h1
  obtain ⟨i0, hi0, hz0, hz1, hz2⟩ := info_parts Try.info139
  clear h0 h1
  go_enter Try.func61, Try.ntmps61
  go_wp2_with (at_make; refine wpList_make_full _ rfl _ _ 145 rfl w.heap.size 139 i0 _ 5 Try.underlying145 hi0 hz0 hz1 _ _ _ _ 1 rfl rfl rfl rfl ?c1 ?c2 ?c3 ?_)
  case c1 => rw [hz2]; omega
  case c2 => unfold maxLen; omega
  case c3 => exact Nat.le_refl _
  intro w1 hown hgrow
  obtain ⟨c0, c1, c2, c3, c4, hN⟩ := five_cells hown
  have hb : Below w.heap.size w w1 := (Below.refl _ _).grown hgrow (Nat.le_refl _) (fun k h => by cases h)
  have H := hidd (buildX_one w.heap.size E eo cap hcap lo hi _ _ _ _ _ w1 hN ((hb.cell (p := ⟨E, eo, none⟩) hE).trans H0.out) ((hb.cell (p := ⟨E, eo + 1, none⟩) hE).trans H1.out))
  clear hown hgrow H0 H1 hi0 hz0 hz1 hz2 hN
  go_wp2_with fail
  refine H.out.mono ?_
  rintro e w2 ⟨rfl, hone, hb1⟩
  have Hone := hidd hone
  clear hone H
  go_wp2
  go_ret
  exact ⟨rfl, Hone.out, hb.trans hb1⟩

set_option maxHeartbeats 400000 in
theorem lenX_none (w : World) : Calls Try.prog 57 #[.pointer none] w fun e w' => e = .returned (.int .i64 0) ∧ w' = w := by
  go_enter Try.func57, Try.ntmps57
  go_wp2
  go_ret
  exact ⟨rfl, rfl⟩

set_option maxHeartbeats 400000 in
theorem lenX_one (N : Nat) (a b : Value) (w : World) (h : OneAt w N 139 a b) : Calls Try.prog 57 #[.pointer (some ⟨N, 0, none⟩)] w fun e w' => e = .returned (.int .i64 1) ∧ w' = w := by
  have h4 : w.cell? ⟨N, 4, none⟩ = some (.int .i64 1) := by unfold OneAt at h; simp [World.cell?, h]
  clear h
  go_enter Try.func57, Try.ntmps57
  go_wp2
  go_ret
  exact ⟨rfl, rfl⟩

set_option maxHeartbeats 1000000 in
set_option maxRecDepth 100000 in
theorem atX_one (N : Nat) (lo : ByteArray) (hi : Option Addr) (w : World) (h : OneAt w N 139 (.string lo) (.pointer hi)) :
    Calls Try.prog 58 #[.pointer (some ⟨N, 0, none⟩), .int .i64 0] w (RetV w (.agg #[.string lo, .pointer hi])) := by
  unfold OneAt at h
  have hlt := (Array.getElem?_eq_some_iff.1 h).1
  have g : ∀ (W : World), Below w.heap.size w W → W.heap[N]? = _ := fun W hW => (hW.block N hlt).trans h
  have hb : Below w.heap.size w (w.alloc (.cells #[.string ⟨#[]⟩, .pointer none] 116)) := (Below.refl _ _).alloc (Nat.le_refl _) _
  have d0 : (w.alloc (.cells #[.string ⟨#[]⟩, .pointer none] 116)).cell? ⟨N, 0, none⟩ = some (.string lo) := by simp [World.cell?, g _ hb]
  have d1 : (w.alloc (.cells #[.string ⟨#[]⟩, .pointer none] 116)).cell? ⟨N, 1, none⟩ = some (.pointer hi) := by simp [World.cell?, g _ hb]
  have d2 : (w.alloc (.cells #[.string ⟨#[]⟩, .pointer none] 116)).cell? ⟨N, 2, none⟩ = some (.pointer none) := by simp [World.cell?, g _ hb]
  have e0 : (w.alloc (.cells #[.string ⟨#[]⟩, .pointer none] 116)).cell? ⟨w.heap.size, 0, none⟩ = some (.string ⟨#[]⟩) := by simp
  have e1 : (w.alloc (.cells #[.string ⟨#[]⟩, .pointer none] 116)).cell? ⟨w.heap.size, 1, none⟩ = some (.pointer none) := by simp
  have f0 : (w.alloc (.cells #[.string ⟨#[]⟩, .pointer none] 116)).frozen? ⟨w.heap.size, 0, none⟩ = false := by simp
  have f1 : (w.alloc (.cells #[.string ⟨#[]⟩, .pointer none] 116)).frozen? ⟨w.heap.size, 1, none⟩ = false := by simp
  clear g h
  go_enter Try.func58, Try.ntmps58
  go_wp2
  generalize w.alloc (.cells #[.string ⟨#[]⟩, .pointer none] 116) = W at *
  go_loopw [0, 1] (fun p i wr => p = .pointer (some ⟨N, 0, none⟩) ∧ i = .int .i64 0 ∧ wr = W) (fun _ _ _ => 0)
  case atStart => exact ⟨rfl, rfl, rfl⟩
  case round =>
    obtain ⟨rfl, rfl, rfl⟩ := hrel
    go_wp2_with (go_at_call 57; refine (lenX_none _).mono ?_; rintro e w' ⟨rfl, rfl⟩)
    exact bodyPost_ret (v := .agg #[.string lo, .pointer hi]) (by simp [results, Try.results58, go_sem, e0, e1]) rfl ⟨rfl, (hb.setCell (p := ⟨w.heap.size, 0, none⟩) (Nat.le_refl _) _).setCell (p := ⟨w.heap.size, 1, none⟩) (Nat.le_refl _) _⟩

end Go.Proofs.Qxb6608633a
