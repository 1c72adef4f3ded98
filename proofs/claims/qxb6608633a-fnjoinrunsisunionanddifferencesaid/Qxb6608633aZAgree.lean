/- zzJoinAgreesAt, zzJoinAgreesAround. -/
import Derived.Test.Qxb6608633aZHold
namespace Go.Proofs.Qxb6608633a
open Go.RowKit

/-- The four lists agree at every counter. -/
def Agree (M T J F : List Run) : Prop := ∀ x, (cov J x ↔ cov M x ∨ cov T x) ∧ (cov F x ↔ cov T x ∧ ¬ cov M x)
theorem agree_b {M T J F : List Run} (h : Agree M T J F) (x : Int) : covB J x = (covB M x || covB T x) ∧ covB F x = (covB T x && !covB M x) := by
  obtain ⟨h1, h2⟩ := h x
  constructor
  · rw [Bool.eq_iff_iff, covB_iff, h1, Bool.or_eq_true, covB_iff, covB_iff]
  · rw [Bool.eq_iff_iff, covB_iff, h2, Bool.and_eq_true, covB_iff, Bool.not_eq_true', ← Bool.not_eq_true, covB_iff]

/-- Four slices of runs in their one form that agree. -/
structure Four (w : World) (vm vt vj vf : Value) (M T J F : List Run) : Prop where
  m : SlR w vm M
  t : SlR w vt T
  j : SlR w vj J
  f : SlR w vf F
  fm : Form M
  ft : Form T
  fj : Form J
  ff : Form F
  lm : M.length ≤ 1000000
  lt : T.length ≤ 1000000
  lj : J.length ≤ 1000000
  lf : F.length ≤ 1000000
  ag : Agree M T J F

set_option maxHeartbeats 2000000 in
set_option maxRecDepth 100000 in
theorem agreesAt_any (vm vt vj vf : Value) (M T J F : List Run) (x : Int) (w : World) (h : Four w vm vt vj vf M T J F) :
    Calls Try.prog 51 #[vm, vt, vj, vf, .int .u64 x] w fun e w' => e = .returned (.bool true) ∧ w' = w := by
  have CM := hidd (zzHold_any vm M x w h.m h.fm h.lm)
  have CT := hidd (zzHold_any vt T x w h.t h.ft h.lt)
  have CJ := hidd (zzHold_any vj J x w h.j h.fj h.lj)
  have CF := hidd (zzHold_any vf F x w h.f h.ff h.lf)
  obtain ⟨hj, hf⟩ := agree_b h.ag x
  rw [hj] at CJ
  rw [hf] at CF
  clear h hj hf
  generalize covB M x = a at *
  generalize covB T x = b at *
  go_enter Try.func51, Try.ntmps51
  go_wp2_with fail
  refine CM.out.mono ?_
  rintro e wq ⟨rfl, hwq⟩
  rw [hwq]
  clear hwq wq CM
  go_wp2_with fail
  refine CT.out.mono ?_
  rintro e wq ⟨rfl, hwq⟩
  rw [hwq]
  clear hwq wq CT
  cases a <;> cases b
  all_goals
    go_wp2_with fail
    refine CJ.out.mono ?_
    rintro e wq ⟨rfl, hwq⟩
    rw [hwq]
    clear hwq wq CJ
    go_wp2_with fail
    refine CF.out.mono ?_
    rintro e wq ⟨rfl, hwq⟩
    rw [hwq]
    clear hwq wq CF
    go_wp2
    go_ret
    exact ⟨rfl, rfl⟩

set_option maxHeartbeats 4000000 in
set_option maxRecDepth 100000 in
theorem agreesAround_any (vm vt vj vf vo : Value) (M T J F O : List Run) (w : World) (h : Four w vm vt vj vf M T J F) (ho : SlR w vo O) (hl : O.length ≤ 1000000) (hu : ∀ x ∈ O, InU x) :
    Calls Try.prog 36 #[vm, vt, vj, vf, vo] w fun e w' => e = .returned (.bool true) ∧ w' = w := by
  have CA : Hid (∀ x, Calls Try.prog 51 #[vm, vt, vj, vf, .int .u64 x] w fun e w' => e = .returned (.bool true) ∧ w' = w) := fun x => agreesAt_any vm vt vj vf M T J F x w h
  obtain ⟨ao, c, rfl, hrd⟩ := ho.at
  have Hrd := hidd hrd
  have Hu := hidd hu
  clear hrd hu ho h
  go_enter Try.func36, Try.ntmps36
  go_wp2
  go_loop [11] (fun i => ∃ k : Nat, k ≤ O.length ∧ i = .int .i64 k) (fun i => O.length - (intOf i).toNat)
  case atStart => exact ⟨0, Nat.zero_le _, rfl⟩
  case round =>
    obtain ⟨k, hk, rfl⟩ := hrel
    by_cases hlt : k < O.length
    · obtain ⟨y, hy⟩ : ∃ y, Hid (O[k]? = some y) := ⟨O[k], hidd (List.getElem?_eq_getElem hlt)⟩
      obtain ⟨g, off, rfl, c0, c1⟩ := Hrd.out k y hy.out
      obtain ⟨u1, u2, u3, u4⟩ := Hu.out y (List.mem_of_getElem? hy.out)
      have k1 : IntKind.u64.wrap (y.1 - 1) = y.1 - 1 := IntWalk.u64_in _ (by omega)
      by_cases hmx : y.2 < 18446744073709551615
      · have k2 : IntKind.u64.wrap (y.2 + 1) = y.2 + 1 := IntWalk.u64_in _ (by omega)
        go_wp2_with (go_at_call 51; refine (CA.out _).mono ?_; rintro e wq ⟨rfl, hwq⟩; rw [hwq]; clear hwq wq)
        go_round
        case rel => exact ⟨k + 1, by omega, by go_num⟩
        case measure => simp [intOf]; omega
      · go_wp2_with (go_at_call 51; refine (CA.out _).mono ?_; rintro e wq ⟨rfl, hwq⟩; rw [hwq]; clear hwq wq)
        go_round
        case rel => exact ⟨k + 1, by omega, by go_num⟩
        case measure => simp [intOf]; omega
    · obtain rfl : k = O.length := by omega
      go_wp2
      go_ret
      exact ⟨rfl, rfl⟩

theorem form_step {rs : List Run} {k : Nat} {x : Run} (h : rs[k]? = some x) : Form (rs.take (k + 1)) ↔ Form (rs.take k) ∧ (1 ≤ x.1 ∧ x.1 ≤ x.2) ∧ (∀ y, k ≠ 0 → rs[k - 1]? = some y → y.2 + 2 ≤ x.1) := by
  rw [take_snoc h, form_snoc]
  constructor
  · rintro ⟨h1, h2, h3⟩
    refine ⟨h1, h2, fun y hk hy => h3 y ?_⟩
    exact List.mem_iff_getElem?.2 ⟨k - 1, by rw [List.getElem?_take, if_pos (by omega)]; exact hy⟩
  · rintro ⟨h1, h2, h3⟩
    refine ⟨h1, h2, fun y hy => ?_⟩
    obtain ⟨i, hi⟩ := List.mem_iff_getElem?.1 hy
    have hik : i < k := by
      have := (List.getElem?_eq_some_iff.1 hi).1
      rw [List.length_take] at this; omega
    have hlt := (List.getElem?_eq_some_iff.1 h).1
    obtain ⟨z, hz⟩ : ∃ z, rs[k - 1]? = some z := ⟨_, List.getElem?_eq_getElem (by omega)⟩
    have h4 := h3 z (by omega) hz
    have hz' : (rs.take k)[k - 1]? = some z := by rw [List.getElem?_take, if_pos (by omega)]; exact hz
    by_cases e : i = k - 1
    · subst e; rw [hz'] at hi; cases hi; exact h4
    · obtain ⟨l1, e1⟩ := List.getElem?_eq_some_iff.1 hi
      obtain ⟨l2, e2⟩ := List.getElem?_eq_some_iff.1 hz'
      have h5 := List.pairwise_iff_getElem.1 h1.2 i (k - 1) l1 l2 (by omega)
      have h6 := h1.1 z (List.mem_of_getElem? hz')
      rw [e1, e2] at h5
      omega

theorem form_take {rs : List Run} (h : Form rs) (k : Nat) : Form (rs.take k) := by
  have h2 := h
  rw [← List.take_append_drop k rs] at h2
  exact form_left h2

/-- A bool that says whether the runs are in their one form; nothing but draws. -/
def FormRet (w : World) (rs : List Run) (e : Ending) (w' : World) : Prop := ∃ b : Bool, e = .returned (.bool b) ∧ (b = true ↔ Form rs) ∧ ∃ q, w' = w.drewN q

end Go.Proofs.Qxb6608633a
