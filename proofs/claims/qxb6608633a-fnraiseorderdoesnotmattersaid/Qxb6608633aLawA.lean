/- Plain laws of raise. No Go. -/
import Derived.Test.Qxb6608633aRaised
namespace Go.Proofs.Qxb6608633a
open Go.RowKit

theorem cmpB_self (a : ByteArray) : cmpB a a = 0 := (cmpB_zero a a).2 rfl

theorem raiseR_ids : ∀ (es : List Ent) (id : ByteArray) (n : Int), ∀ e ∈ raiseR es id n, e.1 = id ∨ ∃ f ∈ es, e.1 = f.1
  | [], id, n, e, h => by simp [raiseR] at h; subst h; exact .inl rfl
  | (s, m) :: t, id, n, e, h => by
    rw [raiseR] at h
    split at h
    · rcases List.mem_cons.1 h with rfl | h
      · exact .inr ⟨(s, m), by simp, rfl⟩
      · rcases raiseR_ids t id n e h with h | ⟨f, hf, h⟩
        · exact .inl h
        · exact .inr ⟨f, by simp [hf], h⟩
    · split at h
      · rcases List.mem_cons.1 h with rfl | h
        · exact .inr ⟨(s, m), by simp, rfl⟩
        · exact .inr ⟨e, by simp [h], rfl⟩
      · rcases List.mem_cons.1 h with rfl | h
        · exact .inl rfl
        · exact .inr ⟨e, h, rfl⟩

theorem raiseR_asc : ∀ (es : List Ent) (id : ByteArray) (n : Int), Asc es → Asc (raiseR es id n)
  | [], id, n, _ => by simp [raiseR, Asc]
  | (s, m) :: t, id, n, h => by
    have ht := List.Pairwise.of_cons h
    rw [raiseR]
    split
    · rename_i h1
      refine List.pairwise_cons.2 ⟨fun e he => ?_, raiseR_asc t id n ht⟩
      rcases raiseR_ids t id n e he with h2 | ⟨f, hf, h2⟩
      · rw [h2]; exact h1
      · rw [h2]; exact List.rel_of_pairwise_cons h hf
    · split
      · exact List.pairwise_cons.2 ⟨fun e he => List.rel_of_pairwise_cons h he, ht⟩
      · rename_i h1 h2
        have h3 : cmpB id s < 0 := by have := cmpB_swap s id; omega
        refine List.pairwise_cons.2 ⟨fun e he => ?_, h⟩
        rcases List.mem_cons.1 he with rfl | he
        · exact h3
        · exact cmpB_trans h3 (List.rel_of_pairwise_cons h he)

theorem raise_asc (es : List Ent) (id : ByteArray) (n : Int) (h : Asc es) : Asc (raise es id n) := by
  unfold raise; split
  · exact h
  · exact raiseR_asc es id n h

theorem raiseR_len : ∀ (es : List Ent) (id : ByteArray) (n : Int), (raiseR es id n).length ≤ es.length + 1
  | [], id, n => by simp [raiseR]
  | (s, m) :: t, id, n => by
    have := raiseR_len t id n
    rw [raiseR]; split
    · simp; omega
    · split
      · simp
      · simp

theorem raise_len (es : List Ent) (id : ByteArray) (n : Int) : (raise es id n).length ≤ es.length + 1 := by
  unfold raise; split
  · omega
  · exact raiseR_len es id n

theorem count_gt : ∀ (t : List Ent) (id : ByteArray), (∀ e ∈ t, 0 < cmpB e.1 id) → countL t id = 0
  | [], _, _ => rfl
  | (s, m) :: t, id, h => by
    have h1 : 0 < cmpB s id := h (s, m) (by simp)
    rw [countL, if_neg (fun h => by have := (cmpB_zero s id).2 h; omega)]
    exact count_gt t id fun e he => h e (by simp [he])

theorem count_raiseR : ∀ (es : List Ent) (id : ByteArray) (n : Int), Asc es → 0 ≤ n → (∀ e ∈ es, 0 ≤ e.2) → countL (raiseR es id n) id = max (countL es id) n
  | [], id, n, _, hn, _ => by simp [raiseR, countL]; omega
  | (s, m) :: t, id, n, h, hn, hp => by
    rw [raiseR]
    split
    · rename_i h1
      have hne : ¬ s = id := fun e => by have := (cmpB_zero s id).2 e; omega
      rw [countL, countL, if_neg hne, if_neg hne]
      exact count_raiseR t id n (List.Pairwise.of_cons h) hn (fun e he => hp e (by simp [he]))
    · split
      · rename_i h1 h2
        have := (cmpB_zero s id).1 h2
        rw [countL, countL, if_pos this, if_pos this]
      · rename_i h1 h2
        have hne : ¬ s = id := fun e => h2 ((cmpB_zero s id).2 e)
        rw [countL, if_pos rfl, countL, if_neg hne, count_gt t id (gt_of_gt h (by omega))]
        omega

theorem count_nonneg : ∀ (es : List Ent) (id : ByteArray), (∀ e ∈ es, 0 ≤ e.2) → 0 ≤ countL es id
  | [], _, _ => by simp [countL]
  | (s, m) :: t, id, h => by
    rw [countL]; split
    · exact h (s, m) (by simp)
    · exact count_nonneg t id fun e he => h e (by simp [he])

theorem count_raise (es : List Ent) (id : ByteArray) (n : Int) (h : Asc es) (hn : 0 ≤ n) (hp : ∀ e ∈ es, 0 ≤ e.2) : countL (raise es id n) id = max (countL es id) n := by
  unfold raise; split
  · have := count_nonneg es id hp; omega
  · exact count_raiseR es id n h hn hp

theorem raisedB_eq (es : List Ent) (id : ByteArray) (n : Int) (hp : ∀ e ∈ es, 0 ≤ e.2) : raisedB es id n = decide (countL es id < n) := by
  unfold raisedB; split
  · have := count_nonneg es id hp
    exact (decide_eq_false (by omega)).symm
  · rfl

theorem raiseR_twice : ∀ (es : List Ent) (id : ByteArray) (a b : Int), raiseR (raiseR es id a) id b = raiseR es id (max a b)
  | [], id, a, b => by simp [raiseR, cmpB_self]
  | (s, m) :: t, id, a, b => by
    rw [raiseR, raiseR]
    by_cases h1 : cmpB s id < 0
    · rw [if_pos h1, if_pos h1, raiseR, if_pos h1, raiseR_twice t id a b]
    · rw [if_neg h1, if_neg h1]
      by_cases h2 : cmpB s id = 0
      · rw [if_pos h2, if_pos h2, raiseR, if_neg h1, if_pos h2, Int.max_assoc]
      · rw [if_neg h2, if_neg h2, raiseR, if_neg (by rw [cmpB_self]; omega), if_pos (cmpB_self id)]

theorem raise_twice (es : List Ent) (id : ByteArray) (a b : Int) (ha : 0 ≤ a) (hb : 0 ≤ b) : raise (raise es id a) id b = raise es id (max a b) := by
  unfold raise
  by_cases h1 : a = 0
  · rw [if_pos h1, h1, show max 0 b = b by omega]
  · rw [if_neg h1]
    by_cases h2 : b = 0
    · rw [if_pos h2, h2, show max a 0 = a by omega, if_neg h1]
    · rw [if_neg h2, if_neg (by omega), raiseR_twice]

theorem raiseR_pos : ∀ (es : List Ent) (id : ByteArray) (n : Int), 0 ≤ n → (∀ e ∈ es, 0 ≤ e.2) → ∀ e ∈ raiseR es id n, 0 ≤ e.2
  | [], id, n, hn, _, e, h => by simp [raiseR] at h; subst h; exact hn
  | (s, m) :: t, id, n, hn, hp, e, h => by
    have hm : 0 ≤ m := hp (s, m) (by simp)
    rw [raiseR] at h
    split at h
    · rcases List.mem_cons.1 h with rfl | h
      · exact hm
      · exact raiseR_pos t id n hn (fun e he => hp e (by simp [he])) e h
    · split at h
      · rcases List.mem_cons.1 h with rfl | h
        · show 0 ≤ max m n; omega
        · exact hp e (by simp [h])
      · rcases List.mem_cons.1 h with rfl | h
        · exact hn
        · exact hp e h

theorem raise_pos' (es : List Ent) (id : ByteArray) (n : Int) (hn : 0 ≤ n) (hp : ∀ e ∈ es, 0 ≤ e.2) : ∀ e ∈ raise es id n, 0 ≤ e.2 := by
  unfold raise; split
  · exact hp
  · exact raiseR_pos es id n hn hp

end Go.Proofs.Qxb6608633a
