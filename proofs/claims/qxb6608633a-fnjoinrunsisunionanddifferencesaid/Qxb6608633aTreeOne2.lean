/- Trees of one element: treeOf, len, at. -/
import Derived.Test.Qxb6608633aTreeOne
namespace Go.Proofs.Qxb6608633a
open Go.RowKit

theorem Try.info136 : (Try.prog.info? 136).map (fun i => (i.zero, i.size, i.bytes)) = some (some (.agg #[.int .u64 0, .int .u64 0, .pointer none, .pointer none, .int .i64 0]), 5, 40) := by kernel_rfl

theorem five_cells {w : World} {B N t : Nat} {xs : List Value} (h : w.ownsRow B t 5 (.slice (some ⟨N, 0, none⟩) 1 1) 1 xs) : ∃ c0 c1 c2 c3 c4, w.heap[N]? = some (.cells #[c0, c1, c2, c3, c4] t (0, 0)) := by
  rcases h.2 with ⟨h, _⟩ | ⟨g, cap, cur, hs, _, hg, _, _, hsz, _⟩
  · cases h
  · cases hs
    rcases cur with ⟨l⟩
    match l, hsz with
    | [c0, c1, c2, c3, c4], _ => exact ⟨c0, c1, c2, c3, c4, hg⟩

set_option maxHeartbeats 1000000 in
set_option maxRecDepth 100000 in
theorem treeOfR_one (E eo cap : Nat) (hcap : 1 ≤ cap) (lo hi : Int) (w : World) (h0 : w.cell? ⟨E, eo, none⟩ = some (.int .u64 lo)) (h1 : w.cell? ⟨E, eo + 1, none⟩ = some (.int .u64 hi)) :
    Calls Try.prog 47 #[.slice (some ⟨E, eo, none⟩) 1 cap] w (OneRet w w.heap.size 136 (.int .u64 lo) (.int .u64 hi)) := by
  have hE : E < w.heap.size := World.block_lt_of_cell? w _ h0
  have H0 := hidd h0
  have H1 := hidd h1
  obtain ⟨i0, hi0, hz0, hz1, hz2⟩ := info_parts Try.info136
  clear h0 h1
  go_enter Try.func47, Try.ntmps47
  go_wp2_with (at_make; refine wpList_make_full _ rfl _ _ 124 rfl w.heap.size 136 i0 _ 5 Try.underlying124 hi0 hz0 hz1 _ _ _ _ 1 rfl rfl rfl rfl ?c1 ?c2 ?c3 ?_)
  case c1 => rw [hz2]; omega
  case c2 => unfold maxLen; omega
  case c3 => exact Nat.le_refl _
  intro w1 hown hgrow
  obtain ⟨c0, c1, c2, c3, c4, hN⟩ := five_cells hown
  have hb : Below w.heap.size w w1 := (Below.refl _ _).grown hgrow (Nat.le_refl _) (fun k h => by cases h)
  have H := hidd (buildR_one w.heap.size E eo cap hcap lo hi _ _ _ _ _ w1 hN ((hb.cell (p := ⟨E, eo, none⟩) hE).trans H0.out) ((hb.cell (p := ⟨E, eo + 1, none⟩) hE).trans H1.out))
  clear hown hgrow H0 H1 hi0 hz0 hz1 hz2 hN
  go_wp2_with fail
  refine H.out.mono ?_
  rintro e w2 ⟨rfl, hone, hb1⟩
  have Hone := hidd hone
  clear hone H
  go_wp2
  go_ret
  exact ⟨rfl, Hone.out, hb.trans hb1⟩

set_option maxHeartbeats 400000 in
theorem lenR_none (w : World) : Calls Try.prog 49 #[.pointer none] w fun e w' => e = .returned (.int .i64 0) ∧ w' = w := by
  go_enter Try.func49, Try.ntmps49
  go_wp2
  go_ret
  exact ⟨rfl, rfl⟩

set_option maxHeartbeats 400000 in
theorem lenR_one (N : Nat) (a b : Value) (w : World) (h : OneAt w N 136 a b) : Calls Try.prog 49 #[.pointer (some ⟨N, 0, none⟩)] w fun e w' => e = .returned (.int .i64 1) ∧ w' = w := by
  have h4 : w.cell? ⟨N, 4, none⟩ = some (.int .i64 1) := by unfold OneAt at h; simp [World.cell?, h]
  clear h
  go_enter Try.func49, Try.ntmps49
  go_wp2
  go_ret
  exact ⟨rfl, rfl⟩

/-- It returns the value; nothing that lay has turned. -/
def RetV (w : World) (v : Value) (e : Ending) (w' : World) : Prop := e = .returned v ∧ Below w.heap.size w w'

set_option maxHeartbeats 1000000 in
set_option maxRecDepth 100000 in
theorem atR_one (N : Nat) (lo hi : Int) (w : World) (h : OneAt w N 136 (.int .u64 lo) (.int .u64 hi)) :
    Calls Try.prog 50 #[.pointer (some ⟨N, 0, none⟩), .int .i64 0] w (RetV w (.agg #[.int .u64 lo, .int .u64 hi])) := by
  unfold OneAt at h
  have hlt := (Array.getElem?_eq_some_iff.1 h).1
  have g : ∀ (W : World), Below w.heap.size w W → W.heap[N]? = _ := fun W hW => (hW.block N hlt).trans h
  have hb : Below w.heap.size w (w.alloc (.cells #[.int .u64 0, .int .u64 0] 94)) := (Below.refl _ _).alloc (Nat.le_refl _) _
  have d0 : (w.alloc (.cells #[.int .u64 0, .int .u64 0] 94)).cell? ⟨N, 0, none⟩ = some (.int .u64 lo) := by simp [World.cell?, g _ hb]
  have d1 : (w.alloc (.cells #[.int .u64 0, .int .u64 0] 94)).cell? ⟨N, 1, none⟩ = some (.int .u64 hi) := by simp [World.cell?, g _ hb]
  have d2 : (w.alloc (.cells #[.int .u64 0, .int .u64 0] 94)).cell? ⟨N, 2, none⟩ = some (.pointer none) := by simp [World.cell?, g _ hb]
  have e0 : (w.alloc (.cells #[.int .u64 0, .int .u64 0] 94)).cell? ⟨w.heap.size, 0, none⟩ = some (.int .u64 0) := by simp
  have e1 : (w.alloc (.cells #[.int .u64 0, .int .u64 0] 94)).cell? ⟨w.heap.size, 1, none⟩ = some (.int .u64 0) := by simp
  have f0 : (w.alloc (.cells #[.int .u64 0, .int .u64 0] 94)).frozen? ⟨w.heap.size, 0, none⟩ = false := by simp
  have f1 : (w.alloc (.cells #[.int .u64 0, .int .u64 0] 94)).frozen? ⟨w.heap.size, 1, none⟩ = false := by simp
  clear g h
  go_enter Try.func50, Try.ntmps50
  go_wp2
  generalize w.alloc (.cells #[.int .u64 0, .int .u64 0] 94) = W at *
  go_loopw [0, 1] (fun p i wr => p = .pointer (some ⟨N, 0, none⟩) ∧ i = .int .i64 0 ∧ wr = W) (fun _ _ _ => 0)
  case atStart => exact ⟨rfl, rfl, rfl⟩
  case round =>
    obtain ⟨rfl, rfl, rfl⟩ := hrel
    go_wp2_with (go_at_call 49; refine (lenR_none _).mono ?_; rintro e w' ⟨rfl, rfl⟩)
    exact bodyPost_ret (v := .agg #[.int .u64 lo, .int .u64 hi]) (by simp [results, Try.results50, go_sem, e0, e1]) rfl ⟨rfl, (hb.setCell (p := ⟨w.heap.size, 0, none⟩) (Nat.le_refl _) _).setCell (p := ⟨w.heap.size, 1, none⟩) (Nat.le_refl _) _⟩

end Go.Proofs.Qxb6608633a
