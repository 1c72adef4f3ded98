/- Raising a count, on plain lists. No Go. -/
import Derived.Test.Qxb6608633aSearch
namespace Go.Proofs.Qxb6608633a
open Go.RowKit

/-- The list with id raised to n (n not 0), ids ascending. -/
def raiseR : List Ent → ByteArray → Int → List Ent
  | [], id, n => [(id, n)]
  | (s, m) :: t, id, n => if cmpB s id < 0 then (s, m) :: raiseR t id n else if cmpB s id = 0 then (s, max m n) :: t else (id, n) :: (s, m) :: t

def raise (es : List Ent) (id : ByteArray) (n : Int) : List Ent := if n = 0 then es else raiseR es id n

def raisedB (es : List Ent) (id : ByteArray) (n : Int) : Bool := if n = 0 then false else decide (countL es id < n)

theorem isLow_cons {s : ByteArray} {m : Int} {t : List Ent} {id : ByteArray} {i : Nat} (h : IsLow ((s, m) :: t) id (i + 1)) : cmpB s id < 0 ∧ IsLow t id i := by
  refine ⟨h.2.1 0 s m (by omega) rfl, by have := h.1; simp at this; omega, fun t' s' n' ht he => h.2.1 (t' + 1) s' n' (by omega) (by simpa using he), fun s' n' he => h.2.2 s' n' (by simpa using he)⟩

theorem raiseR_new : ∀ (es : List Ent) (id : ByteArray) (n : Int) (i : Nat), IsLow es id i → foundAt es id i = false → raiseR es id n = es.take i ++ ((id, n) :: es.drop i)
  | [], id, n, i, h, _ => by have := h.1; simp at this; subst this; rfl
  | (s, m) :: t, id, n, 0, h, hf => by
    have h1 := h.2.2 s m rfl
    have h2 : ¬ cmpB s id = 0 := by simpa [foundAt] using hf
    rw [raiseR, if_neg (by omega), if_neg h2]; rfl
  | (s, m) :: t, id, n, i + 1, h, hf => by
    obtain ⟨h1, h2⟩ := isLow_cons h
    rw [raiseR, if_pos h1, raiseR_new t id n i h2 (by simpa [foundAt] using hf)]; rfl

theorem raiseR_old : ∀ (es : List Ent) (id : ByteArray) (n : Int) (i : Nat) (s : ByteArray) (m : Int), IsLow es id i → es[i]? = some (s, m) → cmpB s id = 0 → raiseR es id n = es.set i (s, max m n)
  | [], id, n, i, s, m, h, he, _ => by simp at he
  | (s', m') :: t, id, n, 0, s, m, h, he, hc => by
    simp at he; obtain ⟨rfl, rfl⟩ := he
    rw [raiseR, if_neg (by omega), if_pos hc]; rfl
  | (s', m') :: t, id, n, i + 1, s, m, h, he, hc => by
    obtain ⟨h1, h2⟩ := isLow_cons h
    rw [raiseR, if_pos h1, raiseR_old t id n i s m h2 (by simpa using he) hc]; rfl

theorem count_new : ∀ (es : List Ent) (id : ByteArray) (i : Nat), Asc es → IsLow es id i → foundAt es id i = false → countL es id = 0
  | [], id, i, _, h, _ => rfl
  | (s, m) :: t, id, 0, ha, h, hf => by
    have h1 := h.2.2 s m rfl
    have h2 : ¬ cmpB s id = 0 := by simpa [foundAt] using hf
    have key : ∀ (t : List Ent), (∀ e ∈ t, 0 < cmpB e.1 id) → countL t id = 0 := by
      intro t
      induction t with
      | nil => intro _; rfl
      | cons e t ih =>
        intro hh
        obtain ⟨s', m'⟩ := e
        have h3 := hh (s', m') (by simp)
        rw [countL, if_neg (fun h => by have := (cmpB_zero s' id).2 h; simp at h3; omega)]
        exact ih fun e he => hh e (by simp [he])
    refine key _ fun e he => ?_
    rcases List.mem_cons.1 he with rfl | he
    · show 0 < cmpB s id; omega
    · have h4 : cmpB s e.1 < 0 := List.rel_of_pairwise_cons ha he
      have h5 := cmpB_swap s e.1
      have h6 := cmpB_swap e.1 id
      have h7 : 0 < cmpB s id := by omega
      have h8 := cmpB_swap s id
      have h9 : cmpB id s < 0 := by omega
      have := cmpB_trans h9 h4
      omega
  | (s, m) :: t, id, i + 1, ha, h, hf => by
    obtain ⟨h1, h2⟩ := isLow_cons h
    rw [countL, if_neg (fun h => by have := (cmpB_zero s id).2 h; omega)]
    exact count_new t id i (List.Pairwise.of_cons ha) h2 (by simpa [foundAt] using hf)

theorem count_old : ∀ (es : List Ent) (id : ByteArray) (i : Nat) (s : ByteArray) (m : Int), IsLow es id i → es[i]? = some (s, m) → cmpB s id = 0 → countL es id = m
  | [], id, i, s, m, h, he, _ => by simp at he
  | (s', m') :: t, id, 0, s, m, h, he, hc => by
    simp at he; obtain ⟨rfl, rfl⟩ := he
    rw [countL, if_pos ((cmpB_zero _ _).1 hc)]
  | (s', m') :: t, id, i + 1, s, m, h, he, hc => by
    obtain ⟨h1, h2⟩ := isLow_cons h
    rw [countL, if_neg (fun h => by have := (cmpB_zero s' id).2 h; omega)]
    exact count_old t id i s m h2 (by simpa using he) hc

/-- The cells of a list of entries. -/
def flat : List Ent → List Value
  | [] => []
  | (s, n) :: t => .string s :: .int .u64 n :: flat t

theorem flat_length : ∀ (es : List Ent), (flat es).length = es.length * 2
  | [] => rfl
  | (s, n) :: t => by simp [flat, flat_length t]; omega

theorem flat_append : ∀ (a b : List Ent), flat (a ++ b) = flat a ++ flat b
  | [], b => rfl
  | (s, n) :: t, b => by simp [flat, flat_append t b]

theorem flat_at : ∀ (es : List Ent) (i : Nat) (s : ByteArray) (n : Int), es[i]? = some (s, n) → (flat es)[i * 2]? = some (.string s) ∧ (flat es)[i * 2 + 1]? = some (.int .u64 n)
  | [], i, s, n, h => by simp at h
  | (s', n') :: t, 0, s, n, h => by simp at h; obtain ⟨rfl, rfl⟩ := h; exact ⟨rfl, rfl⟩
  | (s', n') :: t, i + 1, s, n, h => by
    have := flat_at t i s n (by simpa using h)
    simp only [flat]
    rw [show (i + 1) * 2 = i * 2 + 1 + 1 by omega]
    simpa using this

theorem flat_of {xs : List Value} {es : List Ent} (h : FlatTo xs es es.length) : xs = flat es := by
  apply List.ext_getElem?
  intro j
  by_cases hj : j < es.length * 2
  · obtain ⟨i, hi⟩ : ∃ i, i = j / 2 := ⟨_, rfl⟩
    obtain ⟨s, n, he⟩ : ∃ s n, es[i]? = some (s, n) := ⟨(es[i]'(by omega)).1, (es[i]'(by omega)).2, by rw [List.getElem?_eq_getElem (by omega)]⟩
    have h1 := h.2 i s n (by omega) he
    have h2 := flat_at es i s n he
    rcases (show j = i * 2 ∨ j = i * 2 + 1 by omega) with rfl | rfl
    · rw [h1.1, h2.1]
    · rw [h1.2, h2.2]
  · rw [List.getElem?_eq_none (by rw [h.1]; omega), List.getElem?_eq_none (by rw [flat_length]; omega)]

theorem flatTo_flat (es : List Ent) : FlatTo (flat es) es es.length := ⟨flat_length es, fun i s n _ he => flat_at es i s n he⟩

theorem flat_take (es : List Ent) (i : Nat) : (flat es).take (i * 2) = flat (es.take i) := by
  by_cases h : i ≤ es.length
  · conv => lhs; rw [← List.take_append_drop i es, flat_append]
    rw [List.take_left' (by rw [flat_length, List.length_take]; omega)]
  · rw [List.take_of_length_le (by rw [flat_length]; omega), List.take_of_length_le (by omega)]

theorem flat_drop (es : List Ent) (i : Nat) : (flat es).drop (i * 2) = flat (es.drop i) := by
  by_cases h : i ≤ es.length
  · conv => lhs; rw [← List.take_append_drop i es, flat_append]
    rw [List.drop_left' (by rw [flat_length, List.length_take]; omega)]
  · rw [List.drop_eq_nil_of_le (by rw [flat_length]; omega), List.drop_eq_nil_of_le (by omega)]; rfl

theorem flat_one : ∀ (es : List Ent), ∀ v ∈ flat es, v.oneCell' = true
  | [], v, h => by simp [flat] at h
  | (s, n) :: t, v, h => by
    simp only [flat, List.mem_cons] at h
    rcases h with rfl | rfl | h
    · rfl
    · rfl
    · exact flat_one t v h

theorem flat_set (es : List Ent) (i : Nat) (s : ByteArray) (m n : Int) (he : es[i]? = some (s, m)) : (flat es).set (i * 2 + 1) (.int .u64 n) = flat (es.set i (s, n)) := by
  have hlt : i < es.length := (List.getElem?_eq_some_iff.1 he).1
  refine flat_of ⟨by simp [flat_length], fun j t k hj hk => ?_⟩
  rw [List.length_set] at hj
  by_cases hij : j = i
  · subst hij
    rw [List.getElem?_set_self (by omega)] at hk; cases hk
    rw [List.getElem?_set_ne (by omega), List.getElem?_set_self (by rw [flat_length]; omega)]
    exact ⟨(flat_at es j s m he).1, rfl⟩
  · rw [List.getElem?_set_ne (by omega)] at hk
    rw [List.getElem?_set_ne (by omega), List.getElem?_set_ne (by omega)]
    exact flat_at es j t k hk

end Go.Proofs.Qxb6608633a
