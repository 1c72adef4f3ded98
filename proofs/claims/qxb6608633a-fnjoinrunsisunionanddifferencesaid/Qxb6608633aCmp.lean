/- compareDots and what it calls. -/
import Derived.Test.Qxb6608633aSeq2
import Derived.Sort.Grow
namespace Go.Proofs.Qxb6608633a
open Go.RowKit

def cmpI (a b : Int) : Int := if a < b then -1 else if b < a then 1 else 0
def orI (a b : Int) : Int := if a = 0 then b else a
def cmpD (x y : Ent) : Int := orI (cmpB x.1 y.1) (cmpI x.2 y.2)

set_option maxHeartbeats 400000 in
theorem isNaN_any (a : Int) (w : World) : Calls Try.prog 94 #[.int .u64 a] w fun e w' => e = .returned (.bool false) ∧ w' = w := by
  go_enter Try.func94, Try.ntmps94
  go_wp2
  go_ret
  exact ⟨by simp, rfl⟩

set_option maxHeartbeats 1000000 in
theorem compareU_any (a b : Int) (w : World) : Calls Try.prog 78 #[.int .u64 a, .int .u64 b] w fun e w' => e = .returned (.int .i64 (cmpI a b)) ∧ w' = w := by
  by_cases h1 : a < b
  · have Hv : Hid (cmpI a b = -1) := by unfold cmpI; rw [if_pos h1]; rfl
    go_enter Try.func78, Try.ntmps78
    go_wp2_with (go_at_call 94; refine (isNaN_any _ _).mono ?_; rintro e w' ⟨rfl, rfl⟩)
    go_ret
    exact ⟨by rw [Hv.out]; rfl, rfl⟩
  · by_cases h2 : b < a
    · have Hv : Hid (cmpI a b = 1) := by unfold cmpI; rw [if_neg h1, if_pos h2]; rfl
      go_enter Try.func78, Try.ntmps78
      go_wp2_with (go_at_call 94; refine (isNaN_any _ _).mono ?_; rintro e w' ⟨rfl, rfl⟩)
      go_ret
      exact ⟨by rw [Hv.out]; rfl, rfl⟩
    · have Hv : Hid (cmpI a b = 0) := by unfold cmpI; rw [if_neg h1, if_neg h2]; rfl
      go_enter Try.func78, Try.ntmps78
      go_wp2_with (go_at_call 94; refine (isNaN_any _ _).mono ?_; rintro e w' ⟨rfl, rfl⟩)
      go_ret
      exact ⟨by rw [Hv.out]; rfl, rfl⟩

set_option maxHeartbeats 1000000 in
theorem or_any (b : Nat) (x y : Int) (w : World) (h0 : w.cell? ⟨b, 0, none⟩ = some (.int .i64 x)) (h1 : w.cell? ⟨b, 1, none⟩ = some (.int .i64 y)) :
    Calls Try.prog 77 #[.slice (some ⟨b, 0, none⟩) 2 2] w fun e w' => e = .returned (.int .i64 (orI x y)) ∧ w' = w := by
  by_cases hx : x = 0
  · subst hx
    have Hv : Hid (orI 0 y = y) := by unfold orI; rw [if_pos rfl]; rfl
    by_cases hy : y = 0
    · subst hy
      go_enter Try.func77, Try.ntmps77
      go_wp2
      go_loop [8] (fun i => ∃ k : Nat, k ≤ 2 ∧ i = .int .i64 k) (fun i => 2 - (intOf i).toNat)
      case atStart => exact ⟨0, by omega, rfl⟩
      case round =>
        obtain ⟨k, hk, rfl⟩ := hrel
        rcases (show k = 0 ∨ k = 1 ∨ k = 2 by omega) with rfl | rfl | rfl
        · go_wp2
          go_round
          case rel => exact ⟨1, by omega, by go_num⟩
          case measure => simp [intOf]
        · go_wp2
          go_round
          case rel => exact ⟨2, by omega, by go_num⟩
          case measure => simp [intOf]
        · go_wp2
          go_ret
          exact ⟨by rw [Hv.out]; rfl, rfl⟩
    · go_enter Try.func77, Try.ntmps77
      go_wp2
      go_loop [8] (fun i => ∃ k : Nat, k ≤ 1 ∧ i = .int .i64 k) (fun i => 2 - (intOf i).toNat)
      case atStart => exact ⟨0, by omega, rfl⟩
      case round =>
        obtain ⟨k, hk, rfl⟩ := hrel
        rcases (show k = 0 ∨ k = 1 by omega) with rfl | rfl
        · go_wp2
          go_round
          case rel => exact ⟨1, by omega, by go_num⟩
          case measure => simp [intOf]
        · go_wp2
          go_ret
          exact ⟨by rw [Hv.out]; rfl, rfl⟩
  · have Hv : Hid (orI x y = x) := by unfold orI; rw [if_neg hx]; rfl
    go_enter Try.func77, Try.ntmps77
    go_wp2
    go_loop [8] (fun i => i = .int .i64 0) (fun i => 2 - (intOf i).toNat)
    case atStart => exact rfl
    case round =>
      obtain rfl := hrel
      go_wp2
      go_ret
      exact ⟨by rw [Hv.out]; rfl, rfl⟩

end Go.Proofs.Qxb6608633a
