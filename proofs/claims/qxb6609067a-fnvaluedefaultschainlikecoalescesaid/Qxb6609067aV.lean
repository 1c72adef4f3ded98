/- Walks: value, ZZvalue, the sizes. -/
import Derived.Test.Qxb6609067aRows
import Derived.WalkKit
import Derived.WalkSpells
import Derived.WalkLawsBesides
import Derived.WalkSmall
namespace Go.Proofs.Qxb6609067a
open Go.RowKit

theorem hidd {p : Prop} (h : p) : Hid p := h

/-- What a reference with the operation op stands for. -/
def valS (op v s : ByteArray) : ByteArray :=
  if (op.toList == [58, 45]) = true then (if v.toList.isEmpty = true then s else v)
  else if (op.toList == [58, 43]) = true then (if v.toList.isEmpty = true then ⟨#[]⟩ else s)
  else v

set_option maxHeartbeats 400000 in
theorem word_any (b : Nat) (s : ByteArray) (w : World) (hc : w.cell? ⟨b, 0, none⟩ = some (.string s)) :
    Calls Try.prog 12 #[.pointer (some ⟨b, 0, none⟩)] w fun e w' => e = .returned (.tuple #[.string s, .nilIface]) ∧ w' = w := by
  go_enter Try.func12, Try.ntmps12
  go_wp2
  go_ret2
  exact ⟨rfl, rfl⟩

/-- It returns the string and no error; nothing that was there has turned. -/
def RetS (w : World) (s : ByteArray) (e : Ending) (w' : World) : Prop := e = .returned (.tuple #[.string s, .nilIface]) ∧ Below w.heap.size w w'

set_option maxHeartbeats 1000000 in
theorem value_any (nm op wd v s : ByteArray) (en : Int) (b : Nat) (w : World) (hc : w.cell? ⟨b, 0, none⟩ = some (.string s)) :
    Calls Try.prog 11 #[.agg #[.string nm, .string op, .string wd, .int .i64 en], .string v, .func (.func 12) #[] #[.pointer (some ⟨b, 0, none⟩)]] w (RetS w (valS op v s)) := by
  have hb : b < w.heap.size := World.block_lt_of_cell? w _ hc
  have hc' : (w.alloc (.cells #[.string nm, .string op, .string wd, .int .i64 en] 32)).cell? ⟨b, 0, none⟩ = some (.string s) := by rw [World.cell?_alloc_past _ _ _ hb]; exact hc
  have hbel : Below w.heap.size w (w.alloc (.cells #[.string nm, .string op, .string wd, .int .i64 en] 32)) := (Below.refl _ _).alloc (Nat.le_refl _) _
  cases h1 : (op.toList == [58, 45]) with
  | true =>
    have h2 : (op.toList == [58, 43]) = false := by
      have := eq_of_beq h1; rw [this]; rfl
    cases h3 : v.toList.isEmpty with
    | true =>
      have hv : valS op v s = s := by unfold valS; rw [if_pos h1, if_pos h3]
      have Hv := hidd hv
      clear hv
      go_enter Try.func11, Try.ntmps11
      go_wp2_with (go_at_call 12; refine (word_any b s _ hc').mono ?_; rintro e w' ⟨rfl, rfl⟩)
      go_ret2
      exact ⟨by rw [Hv.out]; rfl, hbel⟩
    | false =>
      have hv : valS op v s = v := by unfold valS; rw [if_pos h1, if_neg (by simp [h3])]
      have Hv := hidd hv
      clear hv
      go_enter Try.func11, Try.ntmps11
      go_wp2_with fail
      go_ret2
      exact ⟨by rw [Hv.out]; rfl, hbel⟩
  | false =>
    cases h2 : (op.toList == [58, 43]) with
    | true =>
      cases h3 : v.toList.isEmpty with
      | true =>
        have hv : valS op v s = ⟨#[]⟩ := by unfold valS; rw [if_neg (by simp [h1]), if_pos h2, if_pos h3]
        have Hv := hidd hv
        clear hv
        go_enter Try.func11, Try.ntmps11
        go_wp2_with fail
        go_ret2
        exact ⟨by rw [Hv.out]; rfl, hbel⟩
      | false =>
        have hv : valS op v s = s := by unfold valS; rw [if_neg (by simp [h1]), if_pos h2, if_neg (by simp [h3])]
        have Hv := hidd hv
        clear hv
        go_enter Try.func11, Try.ntmps11
        go_wp2_with (go_at_call 12; refine (word_any b s _ hc').mono ?_; rintro e w' ⟨rfl, rfl⟩)
        go_ret2
        exact ⟨by rw [Hv.out]; rfl, hbel⟩
    | false =>
      have hv : valS op v s = v := by unfold valS; rw [if_neg (by simp [h1]), if_neg (by simp [h2])]
      have Hv := hidd hv
      clear hv
      go_enter Try.func11, Try.ntmps11
      go_wp2_with fail
      go_ret2
      exact ⟨by rw [Hv.out]; rfl, hbel⟩

set_option maxHeartbeats 1000000 in
theorem zzvalue_any (nm op wd : ByteArray) (en : Int) (v s : ByteArray) (w : World) :
    Calls Try.prog 7 #[.string nm, .string op, .string wd, .int .i64 en, .string v, .string s] w (RetS w (valS op v s)) := by
  have hc : (w.alloc (.cells #[.string s] 9)).cell? ⟨w.heap.size, 0, none⟩ = some (.string s) := by simp
  have Hc := hidd hc
  clear hc
  go_enter Try.func7, Try.ntmps7
  go_wp2_with (go_at_call 11; refine (value_any _ _ _ _ s _ _ _ Hc.out).mono ?_; rintro e w' ⟨rfl, hb⟩)
  go_ret2
  exact ⟨rfl, ((Below.refl w.heap.size w).alloc (Nat.le_refl _) _).trans (hb.mono (by simp))⟩

/-- It returns an int between -1 and the bound; the world is as it was. -/
def RetN (w : World) (e : Ending) (w' : World) : Prop := ∃ z : Int, e = .returned (.int .i64 z) ∧ -1 ≤ z ∧ z ≤ 1048576 ∧ w' = w

set_option maxHeartbeats 1000000 in
theorem addLen_any (t n : Int) (w : World) (h1 : -1 ≤ t) (h2 : t ≤ 1048576) (h3 : 0 ≤ n) (h4 : n ≤ 1048576) :
    Calls Try.prog 10 #[.int .i64 t, .int .i64 n] w (RetN w) := by
  by_cases h5 : t < 0
  · go_enter Try.func10, Try.ntmps10
    go_wp2
    go_ret
    exact ⟨-1, rfl, by omega, by omega, rfl⟩
  · by_cases h6 : 1048576 - t < n
    · go_enter Try.func10, Try.ntmps10
      go_wp2
      go_ret
      exact ⟨-1, rfl, by omega, by omega, rfl⟩
    · go_enter Try.func10, Try.ntmps10
      go_wp2
      go_ret
      exact ⟨t + n, rfl, by omega, by omega, rfl⟩

set_option maxHeartbeats 1000000 in
theorem fiveSize_any (a b c d e : ByteArray) (w : World) (ha : a.size ≤ 1048576) (hb : b.size ≤ 1048576) (hc : c.size ≤ 1048576) (hd : d.size ≤ 1048576) (he : e.size ≤ 1048576) :
    Calls Try.prog 6 #[.string a, .string b, .string c, .string d, .string e] w (RetN w) := by
  go_enter Try.func6, Try.ntmps6
  go_wp2_with fail
  refine (addLen_any _ _ w (by omega) (by omega) (by omega) (by omega)).mono ?_
  rintro _ wq ⟨z1, rfl, l1, u1, hwq⟩
  rw [hwq]
  clear hwq wq
  go_wp2_with fail
  refine (addLen_any _ _ w (by omega) (by omega) (by omega) (by omega)).mono ?_
  rintro _ wq ⟨z2, rfl, l2, u2, hwq⟩
  rw [hwq]
  clear hwq wq
  go_wp2_with fail
  refine (addLen_any _ _ w (by omega) (by omega) (by omega) (by omega)).mono ?_
  rintro _ wq ⟨z3, rfl, l3, u3, hwq⟩
  rw [hwq]
  clear hwq wq
  go_wp2_with fail
  refine (addLen_any _ _ w (by omega) (by omega) (by omega) (by omega)).mono ?_
  rintro _ wq ⟨z4, rfl, l4, u4, hwq⟩
  rw [hwq]
  clear hwq wq
  go_wp2_with fail
  refine (addLen_any _ _ w (by omega) (by omega) (by omega) (by omega)).mono ?_
  rintro _ wq ⟨z5, rfl, l5, u5, hwq⟩
  rw [hwq]
  clear hwq wq
  go_wp2_with fail
  go_ret
  exact ⟨z5, rfl, l5, u5, rfl⟩

/-- The first of the two that is not empty. -/
def firstS (a b : ByteArray) : ByteArray := if a.toList.isEmpty = true then b else a

set_option maxHeartbeats 1000000 in
theorem firstSet_any (a b : ByteArray) (w : World) : Calls Try.prog 8 #[.string a, .string b] w fun e w' => e = .returned (.string (firstS a b)) ∧ w' = w := by
  cases h : a.toList.isEmpty with
  | true =>
    have Hv : Hid (firstS a b = b) := by unfold firstS; rw [if_pos h]; rfl
    go_enter Try.func8, Try.ntmps8
    go_wp2
    go_ret
    exact ⟨by rw [Hv.out]; rfl, rfl⟩
  | false =>
    have Hv : Hid (firstS a b = a) := by unfold firstS; rw [if_neg (by simp [h])]; rfl
    go_enter Try.func8, Try.ntmps8
    go_wp2
    go_ret
    exact ⟨by rw [Hv.out]; rfl, rfl⟩

end Go.Proofs.Qxb6609067a
