/- The order of byte strings; plain lists of entries. No Go. -/
import Derived.Test.Qxb6608633aMake
namespace Go.Proofs.Qxb6608633a
open Go.RowKit

theorem cmpL_cases : ∀ (a b : List UInt8), Lib.compareBytes a b = -1 ∨ Lib.compareBytes a b = 0 ∨ Lib.compareBytes a b = 1
  | [], [] => by simp [Lib.compareBytes]
  | [], _ :: _ => by simp [Lib.compareBytes]
  | _ :: _, [] => by simp [Lib.compareBytes]
  | a :: xs, b :: ys => by
    rw [Lib.compareBytes]
    split
    · simp
    · split
      · simp
      · exact cmpL_cases xs ys

theorem cmpL_swap : ∀ (a b : List UInt8), Lib.compareBytes b a = - Lib.compareBytes a b
  | [], [] => by simp [Lib.compareBytes]
  | [], _ :: _ => by simp [Lib.compareBytes]
  | _ :: _, [] => by simp [Lib.compareBytes]
  | a :: xs, b :: ys => by
    rw [Lib.compareBytes, Lib.compareBytes]
    by_cases h1 : a < b
    · have h2 : ¬ b < a := by simp only [UInt8.lt_iff_toNat_lt] at *; omega
      simp [h1, h2]
    · by_cases h2 : b < a
      · simp [h1, h2]
      · simp [h1, h2, cmpL_swap xs ys]

theorem cmpL_zero : ∀ (a b : List UInt8), Lib.compareBytes a b = 0 ↔ a = b
  | [], [] => by simp [Lib.compareBytes]
  | [], _ :: _ => by simp [Lib.compareBytes]
  | _ :: _, [] => by simp [Lib.compareBytes]
  | a :: xs, b :: ys => by
    rw [Lib.compareBytes]
    by_cases h1 : a < b
    · have : a ≠ b := by intro h; subst h; simp only [UInt8.lt_iff_toNat_lt] at h1; omega
      simp [h1, this]
    · by_cases h2 : b < a
      · have : a ≠ b := by intro h; subst h; simp only [UInt8.lt_iff_toNat_lt] at h2; omega
        simp [h1, h2, this]
      · have : a = b := UInt8.toNat_inj.1 (by simp only [UInt8.lt_iff_toNat_lt] at h1 h2; omega)
        simp [this, cmpL_zero xs ys]

theorem cmpL_trans : ∀ (a b c : List UInt8), Lib.compareBytes a b < 0 → Lib.compareBytes b c < 0 → Lib.compareBytes a c < 0
  | [], [], _ => by simp [Lib.compareBytes]
  | _ :: _, [], _ => by simp [Lib.compareBytes]
  | [], _ :: _, [] => by simp [Lib.compareBytes]
  | _ :: _, _ :: _, [] => by simp [Lib.compareBytes]
  | [], _ :: _, _ :: _ => by simp [Lib.compareBytes]
  | a :: xs, b :: ys, c :: zs => by
    rw [Lib.compareBytes, Lib.compareBytes, Lib.compareBytes]
    intro h1 h2
    by_cases x1 : a < b
    · by_cases x2 : b < c
      · have : a < c := by simp only [UInt8.lt_iff_toNat_lt] at *; omega
        simp [this]
      · by_cases x3 : c < b
        · simp [x2, x3] at h2
        · have : a < c := by simp only [UInt8.lt_iff_toNat_lt] at *; omega
          simp [this]
    · by_cases x2 : b < a
      · simp [x1, x2] at h1
      · simp only [x1, x2, if_false] at h1
        have hab : a = b := UInt8.toNat_inj.1 (by simp only [UInt8.lt_iff_toNat_lt] at x1 x2; omega)
        subst hab
        by_cases x3 : a < c
        · simp [x3]
        · by_cases x4 : c < a
          · simp [x3, x4] at h2
          · simp only [x3, x4, if_false] at h2 ⊢
            exact cmpL_trans xs ys zs h1 h2

theorem cmpB_cases (a b : ByteArray) : cmpB a b = -1 ∨ cmpB a b = 0 ∨ cmpB a b = 1 := cmpL_cases _ _
theorem cmpB_swap (a b : ByteArray) : cmpB b a = - cmpB a b := cmpL_swap _ _
theorem cmpB_zero (a b : ByteArray) : cmpB a b = 0 ↔ a = b := by
  unfold cmpB; rw [cmpL_zero]
  constructor
  · intro h
    cases a with
    | mk a => cases b with
      | mk b => exact congrArg ByteArray.mk (Array.toList_inj.1 h)
  · intro h; rw [h]
theorem cmpB_trans {a b c : ByteArray} (h1 : cmpB a b < 0) (h2 : cmpB b c < 0) : cmpB a c < 0 := cmpL_trans _ _ _ h1 h2

/-- Ascending: each id sorts before every later one. -/
def Asc (es : List Ent) : Prop := es.Pairwise fun x y => cmpB x.1 y.1 < 0

theorem okTo_lt {es : List Ent} (h : OkTo es es.length) : ∀ (d i : Nat) (s : ByteArray) (n : Int) (s' : ByteArray) (n' : Int), es[i]? = some (s, n) → es[i + d + 1]? = some (s', n') → cmpB s s' < 0 := by
  intro d
  induction d with
  | zero =>
    intro i s n s' n' h1 h2
    obtain ⟨hlt, _⟩ := List.getElem?_eq_some_iff.1 h2
    exact h.2 i s n s' n' (by omega) h1 h2
  | succ d ih =>
    intro i s n s' n' h1 h2
    obtain ⟨hlt, _⟩ := List.getElem?_eq_some_iff.1 h2
    obtain ⟨t, m, ht⟩ : ∃ t m, es[i + d + 1]? = some (t, m) := ⟨(es[i + d + 1]'(by omega)).1, (es[i + d + 1]'(by omega)).2, by rw [List.getElem?_eq_getElem (by omega)]⟩
    exact cmpB_trans (ih i s n t m h1 ht) (h.2 (i + d + 1) t m s' n' (by omega) ht h2)

theorem asc_of_ok {es : List Ent} (h : OkTo es es.length) : Asc es := by
  unfold Asc
  rw [List.pairwise_iff_getElem]
  intro i j hi hj hij
  obtain ⟨d, rfl⟩ : ∃ d, j = i + d + 1 := ⟨j - i - 1, by omega⟩
  exact okTo_lt h d i _ _ _ _ (by rw [List.getElem?_eq_getElem hi]) (by rw [List.getElem?_eq_getElem hj])

/-- The first place at which an id does not sort before id: i. -/
def IsLow (es : List Ent) (id : ByteArray) (i : Nat) : Prop :=
  i ≤ es.length ∧ (∀ (t : Nat) (s : ByteArray) (n : Int), t < i → es[t]? = some (s, n) → cmpB s id < 0) ∧ (∀ (s : ByteArray) (n : Int), es[i]? = some (s, n) → 0 ≤ cmpB s id)

/-- The ids before i sort before id, those from j on do not. -/
def Span (es : List Ent) (id : ByteArray) (i j : Nat) : Prop :=
  (∀ (t : Nat) (s : ByteArray) (n : Int), t < i → es[t]? = some (s, n) → cmpB s id < 0) ∧ (∀ (t : Nat) (s : ByteArray) (n : Int), j ≤ t → es[t]? = some (s, n) → 0 ≤ cmpB s id)

theorem span_start (es : List Ent) (id : ByteArray) : Span es id 0 es.length :=
  ⟨fun t _ _ h => absurd h (by omega), fun t _ _ h h' => by obtain ⟨hlt, _⟩ := List.getElem?_eq_some_iff.1 h'; omega⟩

theorem asc_at {es : List Ent} (h : Asc es) {i j : Nat} (hij : i < j) {s s' : ByteArray} {n n' : Int} (h1 : es[i]? = some (s, n)) (h2 : es[j]? = some (s', n')) : cmpB s s' < 0 := by
  obtain ⟨hi, e1⟩ := List.getElem?_eq_some_iff.1 h1
  obtain ⟨hj, e2⟩ := List.getElem?_eq_some_iff.1 h2
  have := (List.pairwise_iff_getElem.1 h) i j hi hj hij
  rw [e1, e2] at this; exact this

theorem span_up {es : List Ent} {id : ByteArray} {i j m : Nat} {s : ByteArray} {n : Int} (ha : Asc es) (h : Span es id i j) (hm : Hid (es[m]? = some (s, n))) (hc : cmpB s id < 0) : Span es id (m + 1) j := by
  refine ⟨fun t s' n' ht he => ?_, h.2⟩
  by_cases htm : t = m
  · subst htm; rw [hm.out] at he; cases he; exact hc
  · exact cmpB_trans (asc_at ha (show t < m by omega) he hm.out) hc

theorem span_down {es : List Ent} {id : ByteArray} {i j m : Nat} {s : ByteArray} {n : Int} (ha : Asc es) (h : Span es id i j) (hm : Hid (es[m]? = some (s, n))) (hc : 0 ≤ cmpB s id) : Span es id i m := by
  refine ⟨h.1, fun t s' n' ht he => ?_⟩
  by_cases htm : t = m
  · subst htm; rw [hm.out] at he; cases he; exact hc
  · have h1 := asc_at ha (show m < t by omega) hm.out he
    by_cases h2 : 0 ≤ cmpB s' id
    · exact h2
    · have := cmpB_trans h1 (show cmpB s' id < 0 by omega); omega

theorem span_end {es : List Ent} {id : ByteArray} {i : Nat} (hi : i ≤ es.length) (h : Span es id i i) : IsLow es id i := ⟨hi, h.1, fun s n he => h.2 i s n (Nat.le_refl _) he⟩

end Go.Proofs.Qxb6608633a
