/- compareDots. -/
import Derived.Test.Qxb6608633aCmp
import Derived.Test.Qxb6608633aSearch
import Derived.Deep.RegionHeld3
namespace Go.Proofs.Qxb6608633a
open Go.RowKit Go.Sort

def CmpRet (w : World) (r : Int) (e : Ending) (w' : World) : Prop := e = .returned (.int .i64 r) ∧ ∃ q os', w' = Sort.grow (w.drewN q) os'

theorem or_new (A : World) (b : Nat) (p q : Int) (hb : b = A.heap.size) : Calls Try.prog 77 #[.slice (some ⟨b, 0, none⟩) 2 2] (A.alloc (.cells #[.int .i64 p, .int .i64 q] 3)).drew fun e w' => e = .returned (.int .i64 (orI p q)) ∧ w' = (A.alloc (.cells #[.int .i64 p, .int .i64 q] 3)).drew := by
  subst hb
  exact or_any _ p q _ (by simp) (by simp)

theorem keepA {W : World} {p : Addr} {v : Value} (o : Obj) (h : W.cell? p = some v) : (W.alloc o).cell? p = some v := cell_kept h (World.grownBy_alloc W o none) (fun r e => by cases e)
theorem keepD {W : World} {p : Addr} {v : Value} (h : W.cell? p = some v) : W.drew.cell? p = some v := h

set_option maxHeartbeats 1000000 in
set_option maxRecDepth 100000 in
theorem compareDots_any (x y : Ent) (w : World) :
    Calls Try.prog 60 #[.agg #[.string x.1, .int .u64 x.2], .agg #[.string y.1, .int .u64 y.2]] w (CmpRet w (cmpD x y)) := by
  have Hv : Hid (cmpD x y = orI (cmpB x.1 y.1) (cmpI x.2 y.2)) := rfl
  generalize cmpD x y = r at Hv ⊢
  have b0 : ((w.alloc (.cells #[.string x.1, .int .u64 x.2] 79)).alloc (.cells #[.string y.1, .int .u64 y.2] 79)).cell? ⟨w.heap.size, 0, none⟩ = some (.string x.1) := keepA _ (by simp)
  have b1 : ((w.alloc (.cells #[.string x.1, .int .u64 x.2] 79)).alloc (.cells #[.string y.1, .int .u64 y.2] 79)).cell? ⟨w.heap.size, 1, none⟩ = some (.int .u64 x.2) := keepA _ (by simp)
  have b2 : ((w.alloc (.cells #[.string x.1, .int .u64 x.2] 79)).alloc (.cells #[.string y.1, .int .u64 y.2] 79)).cell? ⟨w.heap.size + 1, 0, none⟩ = some (.string y.1) := by have := World.size_alloc w (.cells #[.string x.1, .int .u64 x.2] 79); rw [← this]; simp
  have b3 : ((w.alloc (.cells #[.string x.1, .int .u64 x.2] 79)).alloc (.cells #[.string y.1, .int .u64 y.2] 79)).cell? ⟨w.heap.size + 1, 1, none⟩ = some (.int .u64 y.2) := by have := World.size_alloc w (.cells #[.string x.1, .int .u64 x.2] 79); rw [← this]; simp
  go_enter Try.func60, Try.ntmps60
  go_wp2
  have hWs : ((w.alloc (.cells #[.string x.1, .int .u64 x.2] 79)).alloc (.cells #[.string y.1, .int .u64 y.2] 79)) = Sort.grow w #[.cells #[.string x.1, .int .u64 x.2] 79, .cells #[.string y.1, .int .u64 y.2] 79] := by rw [alloc_eq_grow, alloc_eq_grow, grow_grow]; rfl
  have HWs := hidd hWs
  clear hWs
  generalize ((w.alloc (.cells #[.string x.1, .int .u64 x.2] 79)).alloc (.cells #[.string y.1, .int .u64 y.2] 79)) = W at b0 b1 b2 b3 HWs ⊢
  have n0 := World.new_ne W _ b0
  have n1 := World.new_ne W _ b1
  have n2 := World.new_ne W _ b2
  have n3 := World.new_ne W _ b3
  go_region_held3 (fun w' => w'.cell? ⟨w.heap.size, 0, none⟩ = some (.string x.1) ∧ w'.cell? ⟨w.heap.size, 1, none⟩ = some (.int .u64 x.2) ∧ w'.cell? ⟨w.heap.size + 1, 0, none⟩ = some (.string y.1) ∧ w'.cell? ⟨w.heap.size + 1, 1, none⟩ = some (.int .u64 y.2)) (first | (refine ⟨?_, ?_, ?_, ?_⟩ <;> (repeat (first | assumption | apply keepD | apply keepA)); done) | go_keep) (first | (go_at_call 54; refine (compare_any _ _ _).mono ?_; rintro e w' ⟨rfl, rfl⟩) | (go_at_call 78; refine (compareU_any _ _ _).mono ?_; rintro e w' ⟨rfl, rfl⟩) | (go_at_call 77; refine (or_new _ _ _ _ (by simp)).mono ?_; rintro e w' ⟨rfl, rfl⟩))
  rename_i hheld
  clear hheld n0 n1 n2 n3 b0 b1 b2 b3
  go_wp2
  go_ret
  refine ⟨by rw [Hv.out]; rfl, 1, ?_⟩
  rw [HWs.out, alloc_eq_grow, alloc_eq_grow, alloc_eq_grow, grow_grow, grow_grow, grow_grow]
  exact ⟨_, rfl⟩

end Go.Proofs.Qxb6608633a
