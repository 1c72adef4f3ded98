/- Leaf walks: zzMax, zzCmpStr, IsZero, Compare, ZZReplicaID, search$1. -/
import Derived.Test.Qxb6608633aRows
import Derived.WalkKit
import Derived.WalkSpells
import Derived.WalkLawsBesides
import Derived.Deep.QuietTactic
import Derived.BigQuiet
import Derived.Lib.Bytealg
import Derived.Lib.Strings
import Derived.Lib.Walk
namespace Go.Proofs.Qxb6608633a
open Go.RowKit

def cmpB (a b : ByteArray) : Int := Lib.compareBytes a.data.toList b.data.toList

theorem dN3 (w : World) (a b c : Nat) : ((w.drewN a).drewN b).drewN c = w.drewN (a + b + c) := by rw [World.drewN_drewN, World.drewN_drewN, Nat.add_assoc]

theorem ret_int {k : IntKind} {a b : Int} (h : a = b) : Ending.returned (.int k a) = .returned (.int k b) := by rw [h]

set_option maxHeartbeats 400000 in
theorem max_any (a b : Int) (w : World) :
    Calls Try.prog 15 #[.int .u64 a, .int .u64 b] w fun e w' => e = .returned (.int .u64 (max a b)) ∧ w' = w := by
  by_cases h : b < a
  · go_enter Try.func15, Try.ntmps15
    go_wp2
    go_ret
    exact ⟨ret_int (by omega), rfl⟩
  · go_enter Try.func15, Try.ntmps15
    go_wp2
    go_ret
    exact ⟨ret_int (by omega), rfl⟩

set_option maxHeartbeats 1000000 in
set_option maxRecDepth 100000 in
theorem CompareString_any (a b : ByteArray) (w : World) :
    Calls Try.prog 90 #[.string a, .string b] w fun e w' => e = .returned (.int .i64 (cmpB a b)) ∧ w' = w := by
  go_enter Try.func90, Try.ntmps90
  go_wp2
  rw [run_callFunc_extern Try.func101 (by kernel_rfl) (by kernel_rfl) (by kernel_rfl) (e := Extern.BytealgCompare.compare) (by kernel_rfl), Lib.run_compareString]
  simp only [Result.andThen]
  rw [Oper.upon_value]
  go_wp2
  go_ret
  exact ⟨rfl, rfl⟩

set_option maxHeartbeats 400000 in
theorem stringsCompare_any (a b : ByteArray) (w : World) :
    Calls Try.prog 73 #[.string a, .string b] w fun e w' => e = .returned (.int .i64 (cmpB a b)) ∧ w' = w := by
  go_enter Try.func73, Try.ntmps73
  go_wp2_with (go_at_call 90; refine (CompareString_any _ _ _).mono ?_; rintro e w' ⟨rfl, rfl⟩)
  go_ret
  exact ⟨rfl, rfl⟩

set_option maxHeartbeats 400000 in
theorem isZero_any (a : ByteArray) (w : World) :
    Calls Try.prog 41 #[.agg #[.string a]] w fun e w' => e = .returned (.bool a.toList.isEmpty) ∧ w' = w.alloc (.cells #[.string a] 30) := by
  go_enter Try.func41, Try.ntmps41
  go_wp2
  go_ret
  exact ⟨rfl, rfl⟩

set_option maxHeartbeats 400000 in
theorem compare_any (a b : ByteArray) (w : World) :
    Calls Try.prog 54 #[.agg #[.string a], .agg #[.string b]] w fun e w' => e = .returned (.int .i64 (cmpB a b)) ∧ w' = (w.alloc (.cells #[.string a] 30)).alloc (.cells #[.string b] 30) := by
  go_enter Try.func54, Try.ntmps54
  go_wp2_with (go_at_call 73; refine (stringsCompare_any _ _ _).mono ?_; rintro e w' ⟨rfl, rfl⟩)
  go_ret
  exact ⟨rfl, rfl⟩


theorem cmpL_drop (a b : ByteArray) (k : Nat) (ha : k < a.size) (hb : k < b.size) :
    Lib.compareBytes (a.data.toList.drop k) (b.data.toList.drop k) =
      if (a[k].toNat : Int) < (b[k].toNat : Int) then -1 else if (b[k].toNat : Int) < (a[k].toNat : Int) then 1 else Lib.compareBytes (a.data.toList.drop (k + 1)) (b.data.toList.drop (k + 1)) := by
  have e1 : a.data.toList.drop k = a[k] :: a.data.toList.drop (k + 1) := by
    rw [List.drop_eq_getElem_cons (by simpa using ha)]; rfl
  have e2 : b.data.toList.drop k = b[k] :: b.data.toList.drop (k + 1) := by
    rw [List.drop_eq_getElem_cons (by simpa using hb)]; rfl
  rw [e1, e2, Lib.compareBytes]
  simp [UInt8.lt_iff_toNat_lt]

theorem cmp_end (a b : ByteArray) (k : Nat) (h : k = min a.size b.size) :
    Lib.compareBytes (a.data.toList.drop k) (b.data.toList.drop k) = if a.size < b.size then -1 else if b.size < a.size then 1 else 0 := by
  have la : a.data.toList.length = a.size := by simp
  have lb : b.data.toList.length = b.size := by simp
  rcases Nat.lt_trichotomy a.size b.size with g | g | g
  · rw [if_pos g, List.drop_eq_nil_of_le (by omega), show k = a.size by omega, List.drop_eq_getElem_cons (by omega)]; rfl
  · rw [if_neg (by omega), if_neg (by omega), List.drop_eq_nil_of_le (by omega), List.drop_eq_nil_of_le (by omega)]; rfl
  · rw [if_neg (by omega), if_pos g, (show b.data.toList.drop k = [] from List.drop_eq_nil_of_le (by omega)), show k = b.size by omega, List.drop_eq_getElem_cons (by omega)]; rfl

set_option maxHeartbeats 1000000 in
theorem cmpStr_any (a b : ByteArray) (w : World) (ha : a.size ≤ maxLen) (hb : b.size ≤ maxLen) :
    Calls Try.prog 40 #[.string a, .string b] w fun e w' => e = .returned (.int .i64 (cmpB a b)) ∧ ∃ q, w' = w.drewN q := by
  unfold maxLen at ha hb
  by_cases hlt : b.size < a.size
  · go_enter Try.func40, Try.ntmps40
    go_wp2
    go_loopw [6] (fun i wr => ∃ k q : Nat, k ≤ b.size ∧ i = .int .i64 k ∧ Lib.compareBytes (a.data.toList.drop k) (b.data.toList.drop k) = cmpB a b ∧ wr = w.drewN q) (fun i _ => b.size - (intOf i).toNat)
    case atStart => exact ⟨0, 0, Nat.zero_le _, rfl, rfl, rfl⟩
    case round =>
      obtain ⟨k, q, hk, rfl, hc, rfl⟩ := hrel
      by_cases hkb : k < b.size
      · have hd := cmpL_drop a b k (by omega) (by omega)
        rw [hc] at hd
        have Hd := (show Hid _ from hd)
        clear hd hc
        have h1 : (0 : Int) ≤ (k : Int) := by omega
        have h2 : (k : Int) < (a.size : Int) := by omega
        have h3 : (k : Int) < (b.size : Int) := by omega
        have h4 : a[k].toNat < 256 := a[k].toNat_lt
        have h5 : b[k].toNat < 256 := b[k].toNat_lt
        rcases (show (a[k].toNat : Int) < (b[k].toNat : Int) ∨ (b[k].toNat : Int) < (a[k].toNat : Int) ∨ ((a[k].toNat : Int) ≤ (b[k].toNat : Int) ∧ (b[k].toNat : Int) ≤ (a[k].toNat : Int)) from by omega) with g | g | ⟨g, g'⟩
        · go_wp2
          go_quiet (fail)
          go_wp2
          go_ret
          exact ⟨ret_int (by rw [Hd.out, if_pos g]), _, World.drewN_drewN _ _ _⟩
        · go_wp2
          go_quiet (fail)
          go_wp2
          go_quiet (fail)
          go_wp2
          go_ret
          exact ⟨ret_int (by rw [Hd.out, if_neg (by omega), if_pos g]), _, dN3 _ _ _ _⟩
        · go_wp2
          go_quiet (fail)
          go_wp2
          go_quiet (fail)
          go_wp2
          go_roundw
          case rel => exact ⟨k + 1, _, by omega, by go_num, by rw [Hd.out, if_neg (by omega), if_neg (by omega)], rfl⟩
          case measure => simp [intOf]; omega
      · have hkk : k = b.size := by omega
        subst hkk
        have Hc : Hid (_ = cmpB a b) := hc
        clear hc
        rcases (show a.size < b.size ∨ b.size < a.size ∨ (a.size ≤ b.size ∧ b.size ≤ a.size) from by omega) with g | g | ⟨g, g'⟩
        all_goals
          try (exfalso; omega)
          try (
            go_wp2
            go_ret
            refine ⟨ret_int ?_, q, rfl⟩
            rw [← Hc.out, cmp_end a b _ (by omega)]
            first
              | rw [if_pos (by omega)]
              | rw [if_neg (by omega), if_pos (by omega)]
              | rw [if_neg (by omega), if_neg (by omega)])
  · go_enter Try.func40, Try.ntmps40
    go_wp2
    go_loopw [6] (fun i wr => ∃ k q : Nat, k ≤ a.size ∧ i = .int .i64 k ∧ Lib.compareBytes (a.data.toList.drop k) (b.data.toList.drop k) = cmpB a b ∧ wr = w.drewN q) (fun i _ => a.size - (intOf i).toNat)
    case atStart => exact ⟨0, 0, Nat.zero_le _, rfl, rfl, rfl⟩
    case round =>
      obtain ⟨k, q, hk, rfl, hc, rfl⟩ := hrel
      by_cases hkb : k < a.size
      · have hd := cmpL_drop a b k (by omega) (by omega)
        rw [hc] at hd
        have Hd := (show Hid _ from hd)
        clear hd hc
        have h1 : (0 : Int) ≤ (k : Int) := by omega
        have h2 : (k : Int) < (a.size : Int) := by omega
        have h3 : (k : Int) < (b.size : Int) := by omega
        have h4 : a[k].toNat < 256 := a[k].toNat_lt
        have h5 : b[k].toNat < 256 := b[k].toNat_lt
        rcases (show (a[k].toNat : Int) < (b[k].toNat : Int) ∨ (b[k].toNat : Int) < (a[k].toNat : Int) ∨ ((a[k].toNat : Int) ≤ (b[k].toNat : Int) ∧ (b[k].toNat : Int) ≤ (a[k].toNat : Int)) from by omega) with g | g | ⟨g, g'⟩
        · go_wp2
          go_quiet (fail)
          go_wp2
          go_ret
          exact ⟨ret_int (by rw [Hd.out, if_pos g]), _, World.drewN_drewN _ _ _⟩
        · go_wp2
          go_quiet (fail)
          go_wp2
          go_quiet (fail)
          go_wp2
          go_ret
          exact ⟨ret_int (by rw [Hd.out, if_neg (by omega), if_pos g]), _, dN3 _ _ _ _⟩
        · go_wp2
          go_quiet (fail)
          go_wp2
          go_quiet (fail)
          go_wp2
          go_roundw
          case rel => exact ⟨k + 1, _, by omega, by go_num, by rw [Hd.out, if_neg (by omega), if_neg (by omega)], rfl⟩
          case measure => simp [intOf]; omega
      · have hkk : k = a.size := by omega
        subst hkk
        have Hc : Hid (_ = cmpB a b) := hc
        clear hc
        rcases (show a.size < b.size ∨ b.size < a.size ∨ (a.size ≤ b.size ∧ b.size ≤ a.size) from by omega) with g | g | ⟨g, g'⟩
        all_goals
          try (exfalso; omega)
          try (
            go_wp2
            go_ret
            refine ⟨ret_int ?_, q, rfl⟩
            rw [← Hc.out, cmp_end a b _ (by omega)]
            first
              | rw [if_pos (by omega)]
              | rw [if_neg (by omega), if_pos (by omega)]
              | rw [if_neg (by omega), if_neg (by omega)])

set_option maxHeartbeats 400000 in
theorem replicaID_any (s : ByteArray) (w : World) :
    Calls Try.prog 11 #[.string s] w fun e w' => e = .returned (.agg #[.string s]) ∧ Below w.heap.size w w' := by
  go_enter Try.func11, Try.ntmps11
  go_wp2
  exact bodyPost_ret (v := .agg #[.string s]) (by simp [results, Try.results11, go_sem]) rfl ⟨rfl, (Below.refl _ _).alloc (Nat.le_refl _) _⟩

set_option maxHeartbeats 400000 in
theorem search1_any (s t : ByteArray) (n : Int) (w : World) :
    Calls Try.prog 53 #[.agg #[.string s, .int .u64 n], .agg #[.string t]] w fun e w' => e = .returned (.int .i64 (cmpB s t)) ∧ Below w.heap.size w w' := by
  go_enter Try.func53, Try.ntmps53
  go_wp2_with (go_at_call 54; refine (compare_any _ _ _).mono ?_; rintro e w' ⟨rfl, rfl⟩)
  go_ret
  exact ⟨rfl, ((((Below.refl _ _).alloc (by simp) _).alloc (by simp) _).alloc (by simp; omega) _).alloc (by simp; omega) _⟩

end Go.Proofs.Qxb6608633a
