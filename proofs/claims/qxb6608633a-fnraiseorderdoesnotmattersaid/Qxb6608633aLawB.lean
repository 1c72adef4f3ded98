/- Plain laws of two raises. No Go. -/
import Derived.Test.Qxb6608633aLawA
namespace Go.Proofs.Qxb6608633a
open Go.RowKit

theorem cmpB_ne {a b : ByteArray} (h : a ≠ b) : cmpB a b ≠ 0 := fun e => h ((cmpB_zero a b).1 e)

theorem raiseR_comm : ∀ (es : List Ent) (i j : ByteArray) (n m : Int), i ≠ j → raiseR (raiseR es i n) j m = raiseR (raiseR es j m) i n
  | [], i, j, n, m, h => by
    have h1 := cmpB_ne h
    have h2 := cmpB_swap i j
    have h3 : cmpB j i ≠ 0 := by omega
    simp only [raiseR]
    by_cases h4 : cmpB i j < 0
    · rw [if_pos h4, if_neg (by omega), if_neg h3]
    · rw [if_neg h4, if_neg h1, if_pos (by omega)]
  | (s, k) :: t, i, j, n, m, h => by
    have h1 := cmpB_ne h
    have h2 := cmpB_swap i j
    have h3 : cmpB j i ≠ 0 := by omega
    by_cases a1 : cmpB s i < 0
    · by_cases b1 : cmpB s j < 0
      · simp only [raiseR, if_pos a1, if_pos b1]
        rw [raiseR_comm t i j n m h]
      · by_cases b2 : cmpB s j = 0
        · simp only [raiseR, if_pos a1, if_neg b1, if_pos b2]
        · have c1 : cmpB j i < 0 := cmpB_trans (show cmpB j s < 0 by have := cmpB_swap s j; omega) a1
          simp only [raiseR, if_pos a1, if_neg b1, if_neg b2, if_pos c1]
    · by_cases a2 : cmpB s i = 0
      · have es' : s = i := (cmpB_zero s i).1 a2
        by_cases b1 : cmpB s j < 0
        · simp only [raiseR, if_neg a1, if_pos a2, if_pos b1]
        · by_cases b2 : cmpB s j = 0
          · exact absurd (((cmpB_zero s i).1 a2).symm.trans ((cmpB_zero s j).1 b2)) h
          · have c1 : cmpB j i < 0 := by rw [← es']; have := cmpB_swap s j; omega
            simp only [raiseR, if_neg a1, if_pos a2, if_neg b1, if_neg b2, if_pos c1]
      · by_cases b1 : cmpB s j < 0
        · have c1 : cmpB i j < 0 := cmpB_trans (show cmpB i s < 0 by have := cmpB_swap s i; omega) b1
          simp only [raiseR, if_neg a1, if_neg a2, if_pos b1, if_pos c1]
        · by_cases b2 : cmpB s j = 0
          · have es' : s = j := (cmpB_zero s j).1 b2
            have c1 : cmpB i j < 0 := by rw [← es']; have := cmpB_swap s i; omega
            simp only [raiseR, if_neg a1, if_neg a2, if_neg b1, if_pos b2, if_pos c1]
          · by_cases c1 : cmpB i j < 0
            · have c2 : ¬ cmpB j i < 0 := by omega
              simp only [raiseR, if_neg a1, if_neg a2, if_neg b1, if_neg b2, if_pos c1, if_neg c2, if_neg h3]
            · have c2 : cmpB j i < 0 := by omega
              simp only [raiseR, if_neg a1, if_neg a2, if_neg b1, if_neg b2, if_neg c1, if_pos c2, if_neg h1]

theorem raise_comm (es : List Ent) (i j : ByteArray) (n m : Int) (hn : 0 ≤ n) (hm : 0 ≤ m) : raise (raise es i n) j m = raise (raise es j m) i n := by
  by_cases h : i = j
  · subst h; rw [raise_twice es i n m hn hm, raise_twice es i m n hm hn, Int.max_comm]
  · unfold raise
    by_cases h1 : n = 0
    · rw [if_pos h1, if_pos h1]
    · by_cases h2 : m = 0
      · rw [if_neg h1, if_pos h2, if_pos h2, if_neg h1]
      · rw [if_neg h1, if_neg h2, if_neg h2, if_neg h1, raiseR_comm es i j n m h]

theorem count_raiseR_other : ∀ (es : List Ent) (i j : ByteArray) (n : Int), i ≠ j → countL (raiseR es i n) j = countL es j
  | [], i, j, n, h => by simp [raiseR, countL, h]
  | (s, m) :: t, i, j, n, h => by
    rw [raiseR]; split
    · rw [countL, countL, count_raiseR_other t i j n h]
    · split
      · rename_i h1 h2
        have e := (cmpB_zero s i).1 h2
        rw [countL, countL, if_neg (fun e' => h (e.symm.trans e')), if_neg (fun e' => h (e.symm.trans e'))]
      · rw [countL, if_neg h]

theorem count_raise_other (es : List Ent) (i j : ByteArray) (n : Int) (h : i ≠ j) : countL (raise es i n) j = countL es j := by
  unfold raise; split
  · rfl
  · exact count_raiseR_other es i j n h

theorem count_le_raise (es : List Ent) (i j : ByteArray) (n : Int) (ha : Asc es) (hn : 0 ≤ n) (hp : ∀ e ∈ es, 0 ≤ e.2) : countL es j ≤ countL (raise es i n) j := by
  by_cases h : i = j
  · subst h; rw [count_raise es i n ha hn hp]; omega
  · rw [count_raise_other es i j n h]; omega

/-- A raise that reports no change leaves the list as it was. -/
theorem raiseR_same : ∀ (es : List Ent) (id : ByteArray) (n : Int), Asc es → 0 < n → ¬ countL es id < n → raiseR es id n = es
  | [], id, n, _, hn, h => by simp [countL] at h; omega
  | (s, m) :: t, id, n, ha, hn, h => by
    rw [raiseR]; split
    · rename_i h1
      have hne : ¬ s = id := fun e => by have := (cmpB_zero s id).2 e; omega
      rw [countL, if_neg hne] at h
      rw [raiseR_same t id n (List.Pairwise.of_cons ha) hn h]
    · split
      · rename_i h1 h2
        have e := (cmpB_zero s id).1 h2
        rw [countL, if_pos e] at h
        rw [show max m n = m by omega]
      · rename_i h1 h2
        have hne : ¬ s = id := fun e => h2 ((cmpB_zero s id).2 e)
        rw [countL, if_neg hne, count_gt t id (gt_of_gt ha (by omega))] at h
        omega

theorem raise_same (es : List Ent) (id : ByteArray) (n : Int) (ha : Asc es) (hn : 0 ≤ n) (hp : ∀ e ∈ es, 0 ≤ e.2) (h : decide (countL es id < n) = false) : raise es id n = es := by
  have h' : ¬ countL es id < n := of_decide_eq_false h
  unfold raise; split
  · rfl
  · exact raiseR_same es id n ha (by have := count_nonneg es id hp; omega) h'

/-- One of the two calls reports a change just when the entries differ. -/
theorem changed_iff (es : List Ent) (i j : ByteArray) (n m : Int) (ha : Asc es) (hn : 0 ≤ n) (hm : 0 ≤ m) (hp : ∀ e ∈ es, 0 ≤ e.2) :
    (decide (countL es i < n) || decide (countL (raise es i n) j < m)) = !eqEnts (raise (raise es i n) j m) es := by
  have hp1 := raise_pos' es i n hn hp
  have ha1 := raise_asc es i n ha
  cases h1 : decide (countL es i < n) with
  | true =>
    have h1' := of_decide_eq_true h1
    have h2 : eqEnts (raise (raise es i n) j m) es = false := by
      refine decide_eq_false fun e => ?_
      have h3 := count_le_raise (raise es i n) j i m ha1 hm hp1
      rw [e, count_raise es i n ha hn hp] at h3
      omega
    rw [h2]; rfl
  | false =>
    rw [raise_same es i n ha hn hp h1, Bool.false_or]
    cases h2 : decide (countL es j < m) with
    | true =>
      have h2' := of_decide_eq_true h2
      have h3 : eqEnts (raise es j m) es = false := by
        refine decide_eq_false fun e => ?_
        have h3 := count_raise es j m ha hm hp
        rw [e] at h3
        omega
      rw [h3]; rfl
    | false =>
      rw [raise_same es j m ha hm hp h2]
      have : eqEnts es es = true := decide_eq_true rfl
      rw [this]; rfl

theorem raiseR_length : ∀ (es : List Ent) (id : ByteArray) (n : Int), Asc es → (∀ e ∈ es, e.2 ≠ 0) → (raiseR es id n).length = es.length + if countL es id = 0 then 1 else 0
  | [], id, n, _, _ => by simp [raiseR, countL]
  | (s, m) :: t, id, n, ha, hz => by
    have hm : m ≠ 0 := hz (s, m) (by simp)
    rw [raiseR]; split
    · rename_i h1
      have hne : ¬ s = id := fun e => by have := (cmpB_zero s id).2 e; omega
      rw [countL, if_neg hne, List.length_cons, raiseR_length t id n (List.Pairwise.of_cons ha) (fun e he => hz e (by simp [he])), List.length_cons]
      omega
    · split
      · rename_i h1 h2
        have e := (cmpB_zero s id).1 h2
        rw [countL, if_pos e, if_neg hm]; simp
      · rename_i h1 h2
        have hne : ¬ s = id := fun e => h2 ((cmpB_zero s id).2 e)
        rw [countL, if_neg hne, count_gt t id (gt_of_gt ha (by omega)), if_pos rfl]; simp

/-- How many entries a raise adds: 1 where the id is new and n is not 0. -/
def addN (n old : Int) : Nat := if n ≠ 0 ∧ old = 0 then 1 else 0

theorem raise_length (es : List Ent) (id : ByteArray) (n : Int) (ha : Asc es) (hz : ∀ e ∈ es, e.2 ≠ 0) : (raise es id n).length = es.length + addN n (countL es id) := by
  unfold raise addN
  by_cases h : n = 0
  · rw [if_pos h, if_neg (by simp [h])]; rfl
  · rw [if_neg h, raiseR_length es id n ha hz]
    by_cases h2 : countL es id = 0
    · rw [if_pos h2, if_pos ⟨h, h2⟩]
    · rw [if_neg h2, if_neg (by simp [h2])]

theorem raiseR_nz : ∀ (es : List Ent) (id : ByteArray) (n : Int), 0 < n → (∀ e ∈ es, 0 ≤ e.2) → (∀ e ∈ es, e.2 ≠ 0) → ∀ e ∈ raiseR es id n, e.2 ≠ 0
  | [], id, n, hn, _, _, e, h => by simp [raiseR] at h; subst h; show n ≠ 0; omega
  | (s, m) :: t, id, n, hn, hp, hz, e, h => by
    have hm : m ≠ 0 := hz (s, m) (by simp)
    have hm' : 0 ≤ m := hp (s, m) (by simp)
    rw [raiseR] at h
    split at h
    · rcases List.mem_cons.1 h with rfl | h
      · exact hm
      · exact raiseR_nz t id n hn (fun e he => hp e (by simp [he])) (fun e he => hz e (by simp [he])) e h
    · split at h
      · rcases List.mem_cons.1 h with rfl | h
        · show max m n ≠ 0; omega
        · exact hz e (by simp [h])
      · rcases List.mem_cons.1 h with rfl | h
        · show n ≠ 0; omega
        · exact hz e h

theorem raise_nz (es : List Ent) (id : ByteArray) (n : Int) (hn : 0 ≤ n) (hp : ∀ e ∈ es, 0 ≤ e.2) (hz : ∀ e ∈ es, e.2 ≠ 0) : ∀ e ∈ raise es id n, e.2 ≠ 0 := by
  unfold raise; split
  · exact hz
  · exact raiseR_nz es id n (by omega) hp hz

theorem nz_of_ok {es : List Ent} (h : OkTo es es.length) : ∀ e ∈ es, e.2 ≠ 0 := by
  intro e he
  obtain ⟨i, hi, rfl⟩ := List.mem_iff_getElem.1 he
  exact (h.1 i es[i].1 es[i].2 hi (by rw [List.getElem?_eq_getElem hi])).2

/-- The number that the law adds up. -/
def addT (i j : ByteArray) (n m o1 o2 : Int) : Nat := addN n o1 + if m ≠ 0 ∧ o2 = 0 ∧ ¬ (i = j ∧ n ≠ 0) then 1 else 0

theorem two_length (es : List Ent) (i j : ByteArray) (n m : Int) (ha : Asc es) (hn : 0 ≤ n) (hp : ∀ e ∈ es, 0 ≤ e.2) (hz : ∀ e ∈ es, e.2 ≠ 0) :
    (raise (raise es i n) j m).length = es.length + addT i j n m (countL es i) (countL es j) := by
  rw [raise_length _ j m (raise_asc es i n ha) (raise_nz es i n hn hp hz), raise_length es i n ha hz]
  have key : addN m (countL (raise es i n) j) = if m ≠ 0 ∧ countL es j = 0 ∧ ¬ (i = j ∧ n ≠ 0) then 1 else 0 := by
    have hc := count_nonneg es j hp
    unfold addN
    by_cases h : i = j
    · subst h
      rw [count_raise es i n ha hn hp]
      by_cases h1 : n = 0
      · by_cases h2 : m ≠ 0 ∧ countL es i = 0
        · rw [if_pos ⟨h2.1, by omega⟩, if_pos ⟨h2.1, h2.2, fun h3 => h3.2 h1⟩]
        · rw [if_neg (fun h3 => h2 ⟨h3.1, by omega⟩), if_neg (fun h3 => h2 ⟨h3.1, h3.2.1⟩)]
      · rw [if_neg (fun h => by omega), if_neg (fun h3 => h3.2.2 ⟨rfl, h1⟩)]
    · rw [count_raise_other es i j n h]
      by_cases h2 : m ≠ 0 ∧ countL es j = 0
      · rw [if_pos h2, if_pos ⟨h2.1, h2.2, fun h3 => h h3.1⟩]
      · rw [if_neg h2, if_neg (fun h3 => h2 ⟨h3.1, h3.2.1⟩)]
  rw [key]; unfold addT; omega

/-- The count that the law wants of the first id, and of the second. -/
def wantI (i j : ByteArray) (n m o : Int) : Int := if i = j then max (max o n) m else max o n

theorem two_count1 (es : List Ent) (i j : ByteArray) (n m : Int) (ha : Asc es) (hn : 0 ≤ n) (hm : 0 ≤ m) (hp : ∀ e ∈ es, 0 ≤ e.2) : countL (raise (raise es i n) j m) i = wantI i j n m (countL es i) := by
  unfold wantI
  by_cases h : i = j
  · subst h
    rw [if_pos rfl, count_raise _ i m (raise_asc es i n ha) hm (raise_pos' es i n hn hp), count_raise es i n ha hn hp]
  · rw [if_neg h, count_raise_other _ j i m (fun e => h e.symm), count_raise es i n ha hn hp]

theorem two_count2 (es : List Ent) (i j : ByteArray) (n m : Int) (ha : Asc es) (hn : 0 ≤ n) (hm : 0 ≤ m) (hp : ∀ e ∈ es, 0 ≤ e.2) : countL (raise (raise es i n) j m) j = if i = j then max (max (countL es i) n) m else max (countL es j) m := by
  by_cases h : i = j
  · subst h
    rw [if_pos rfl, count_raise _ i m (raise_asc es i n ha) hm (raise_pos' es i n hn hp), count_raise es i n ha hn hp]
  · rw [if_neg h, count_raise _ j m (raise_asc es i n ha) hm (raise_pos' es i n hn hp), count_raise_other es i j n h]

end Go.Proofs.Qxb6608633a
