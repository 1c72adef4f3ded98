/- The plain side of joinRuns, run by run. -/
import Derived.Test.Qxb6608633aJoin1
import Derived.Test.Qxb6608633aPut1
namespace Go.Proofs.Qxb6608633a
open Go.RowKit

theorem p96_iff {r t : Run} : P96 r t = true ↔ t.2 < r.1 - 1 := by
  unfold P96 cmpR
  by_cases c : t.2 < r.1 - 1
  · simp [c]
  · rw [if_neg c]
    by_cases d : r.2 < t.1 - 1 <;> simp [c, d]
theorem p96_not {r t : Run} : P96 r t = false ↔ ¬ t.2 < r.1 - 1 := by
  rw [← Bool.not_eq_true, p96_iff]
theorem p97_not {r t : Run} (h : P96 r t = false) : P97 r t = false ↔ r.2 < t.1 - 1 := by
  rw [← Bool.not_eq_true, p97_iff h]; exact Classical.not_not

/-- The state of the way run by run: mine now, the pieces, whether all was new. -/
structure WaySt (M0 pre Mc pieces : List Run) (whole : Bool) : Prop where
  fm : Form Mc
  fp : Form pieces
  cm : ∀ x, cov Mc x ↔ cov M0 x ∨ cov pre x
  cp : ∀ x, cov pieces x ↔ cov pre x ∧ ¬ cov M0 x
  inn : ∀ p ∈ pieces, ∃ r ∈ pre, r.1 ≤ p.1 ∧ p.2 ≤ r.2
  wh : whole = true → ∀ x, cov pre x → ¬ cov M0 x
  len : Mc.length ≤ M0.length + pre.length

theorem way_zero {M0 : List Run} (h : Form M0) : WaySt M0 [] M0 [] true :=
  ⟨h, ⟨by simp, by simp⟩, fun x => ⟨.inl, fun h => h.elim id (fun h => absurd h (cov_nil' x))⟩, fun x => ⟨fun h => absurd h (cov_nil' x), fun h => absurd h.1 (cov_nil' x)⟩, by simp, fun _ x hx => absurd hx (cov_nil' x), by simp⟩

/-- A run that mine holds whole: nothing is new. -/
theorem way_held {M0 pre Mc pieces : List Run} {whole : Bool} {r : Run} (h : WaySt M0 pre Mc pieces whole) (hfp : Form (pre ++ [r])) (hh : holdsR Mc r) : WaySt M0 (pre ++ [r]) Mc pieces false := by
  obtain ⟨f1, f2, f3⟩ := (form_snoc pre r).1 hfp
  have hin : ∀ x, r.1 ≤ x ∧ x ≤ r.2 → cov Mc x := fun x hx => by
    obtain ⟨t, ht, a, b⟩ := hh
    exact ⟨t, ht, by omega, by omega⟩
  have hgap : ∀ x, r.1 ≤ x ∧ x ≤ r.2 → ¬ cov pre x := fun x hx ⟨y, hy, a, b⟩ => by have := f3 y hy; omega
  refine ⟨h.fm, h.fp, fun x => ?_, fun x => ?_, fun p hp => ?_, fun e => (by cases e), ?_⟩
  · rw [h.cm, cov_append, cov_one]
    constructor
    · rintro (a | a)
      · exact .inl a
      · exact .inr (.inl a)
    · rintro (a | a | a)
      · exact .inl a
      · exact .inr a
      · exact (h.cm x).1 (hin x a)
  · rw [h.cp, cov_append, cov_one]
    constructor
    · rintro ⟨a, b⟩; exact ⟨.inl a, b⟩
    · rintro ⟨a | a, b⟩
      · exact ⟨a, b⟩
      · rcases (h.cm x).1 (hin x a) with c | c
        · exact absurd c b
        · exact ⟨c, b⟩
  · obtain ⟨q, hq, a⟩ := h.inn p hp
    exact ⟨q, List.mem_append_left _ hq, a⟩
  · have := h.len
    simp only [List.length_append, List.length_cons, List.length_nil]; omega

theorem joinR_spec {r : Run} {B : List Run} (hr : 1 ≤ r.1 ∧ r.1 ≤ r.2) (hB : Form B) (ht : ∀ t ∈ B, ¬ t.2 < r.1 - 1 ∧ ¬ r.2 < t.1 - 1) :
    (1 ≤ (joinR r B).1 ∧ (joinR r B).1 ≤ (joinR r B).2) ∧ (∀ x, ((joinR r B).1 ≤ x ∧ x ≤ (joinR r B).2) ↔ (r.1 ≤ x ∧ x ≤ r.2) ∨ cov B x) ∧ (∀ a : Int, a + 2 ≤ r.1 → (∀ t ∈ B, a + 2 ≤ t.1) → a + 2 ≤ (joinR r B).1) ∧ (∀ c : Int, r.2 + 2 ≤ c → (∀ t ∈ B, t.2 + 2 ≤ c) → (joinR r B).2 + 2 ≤ c) := by
  rcases List.eq_nil_or_concat B with rfl | ⟨l, z, rfl⟩
  · refine ⟨hr, fun x => ?_, fun a h _ => h, fun c h _ => h⟩
    show (r.1 ≤ x ∧ x ≤ r.2) ↔ _
    constructor
    · exact .inl
    · rintro (h | h)
      · exact h
      · exact absurd h (cov_nil' x)
  · rw [List.concat_eq_append] at *
    obtain ⟨y, hy⟩ : ∃ y, (l ++ [z]).head? = some y := by
      cases l with
      | nil => exact ⟨z, rfl⟩
      | cons a l => exact ⟨a, rfl⟩
    have hz : (l ++ [z]).getLast? = some z := by simp
    have hj : joinR r (l ++ [z]) = (min r.1 y.1, max r.2 z.2) := by unfold joinR; rw [hy, hz]
    have hym : y ∈ l ++ [z] := List.mem_of_mem_head? (by rw [hy]; rfl)
    have hzm : z ∈ l ++ [z] := by simp
    have hyt := ht y hym
    have hzt := ht z hzm
    have hy1 := hB.1 y hym
    have hz1 := hB.1 z hzm
    obtain ⟨t, hcons⟩ : ∃ t, l ++ [z] = y :: t := by
      cases l with
      | nil => simp at hy; subst hy; exact ⟨[], rfl⟩
      | cons a l => simp at hy; subst hy; exact ⟨l ++ [z], rfl⟩
    have hfirst : ∀ b ∈ l ++ [z], y.1 ≤ b.1 := fun b hb => by
      rw [hcons] at hb hB
      rcases List.mem_cons.1 hb with rfl | hb
      · exact Int.le_refl _
      · have := (form_cons.1 hB).2.1 b hb
        have := (form_cons.1 hB).1
        omega
    have hlast : ∀ b ∈ l ++ [z], b.2 ≤ z.2 := fun b hb => by
      rcases List.mem_append.1 hb with hb' | hb'
      · have := ((form_snoc l z).1 hB).2.2 b hb'
        omega
      · simp at hb'; subst hb'; exact Int.le_refl _
    rw [hj]
    refine ⟨⟨by simp; omega, by simp; omega⟩, fun x => ?_, fun a h1 h2 => ?_, fun c h1 h2 => ?_⟩
    · simp only
      constructor
      · rintro ⟨h1, h2⟩
        by_cases c1 : x < r.1
        · exact .inr ⟨y, hym, by omega, by omega⟩
        · by_cases c2 : r.2 < x
          · exact .inr ⟨z, hzm, by omega, by omega⟩
          · exact .inl (by omega)
      · rintro (h | ⟨b, hb, h1, h2⟩)
        · omega
        · have := hfirst b hb
          have := hlast b hb
          omega
    · have := h2 y hym
      simp only; omega
    · have := h2 z hzm
      simp only; omega

/-- A run that mine does not hold whole. -/
theorem way_new {M0 pre Mc pieces : List Run} {whole : Bool} {r : Run} {A B C : List Run} (h : WaySt M0 pre Mc pieces whole) (hfp : Form (pre ++ [r])) (hh : ¬ holdsR Mc r)
    (hABC : A ++ (B ++ C) = Mc) (hA : ∀ x ∈ A, P96 r x = true) (hB : ∀ x ∈ B, P96 r x = false ∧ P97 r x = true) (hC : ∀ x ∈ C, P96 r x = false ∧ P97 r x = false) (w' : Bool) (hw : w' = true → whole = true ∧ sub [r] B = [r]) :
    WaySt M0 (pre ++ [r]) (A ++ joinR r B :: C) (pieces ++ sub [r] B) w' ∧ sub [r] B ≠ [] := by
  obtain ⟨f1, f2, f3⟩ := (form_snoc pre r).1 hfp
  have hfm := h.fm
  rw [← hABC] at hfm
  obtain ⟨fA, fBC, gA⟩ := form_append.1 hfm
  obtain ⟨fB, fC, gB⟩ := form_append.1 fBC
  have hBt : ∀ t ∈ B, ¬ t.2 < r.1 - 1 ∧ ¬ r.2 < t.1 - 1 := fun t ht => ⟨p96_not.1 (hB t ht).1, (p97_iff (hB t ht).1).1 (hB t ht).2⟩
  have hAt : ∀ t ∈ A, t.2 < r.1 - 1 := fun t ht => p96_iff.1 (hA t ht)
  have hCt : ∀ t ∈ C, r.2 < t.1 - 1 := fun t ht => (p97_not (hC t ht).1).1 (hC t ht).2
  obtain ⟨j1, j2, j3, j4⟩ := joinR_spec f2 fB hBt
  have hgap : ∀ x, r.1 ≤ x ∧ x ≤ r.2 → ¬ cov pre x := fun x hx ⟨y, hy, a, b⟩ => by have := f3 y hy; omega
  have hcB : ∀ x, r.1 ≤ x ∧ x ≤ r.2 → (cov B x ↔ cov Mc x) := fun x hx => by
    rw [← hABC, cov_append, cov_append]
    constructor
    · intro h; exact .inr (.inl h)
    · rintro (⟨t, ht, a, b⟩ | h | ⟨t, ht, a, b⟩)
      · have := hAt t ht; omega
      · exact h
      · have := hCt t ht; omega
  have fr : Form [r] := ⟨by simpa using f2, by simp⟩
  obtain ⟨s1, s2, s3⟩ := sub_spec [r] B fr fB
  have hsub : ∀ x, cov (sub [r] B) x ↔ (r.1 ≤ x ∧ x ≤ r.2) ∧ ¬ cov M0 x := fun x => by
    rw [s2, cov_one]
    constructor
    · rintro ⟨a, b⟩; exact ⟨a, fun c => b ((hcB x a).2 ((h.cm x).2 (.inl c)))⟩
    · rintro ⟨a, b⟩
      refine ⟨a, fun c => ?_⟩
      rcases (h.cm x).1 ((hcB x a).1 c) with d | d
      · exact b d
      · exact hgap x a d
  refine ⟨⟨?_, ?_, fun x => ?_, fun x => ?_, fun p hp => ?_, fun e x hx => ?_, ?_⟩, fun hnil => ?_⟩
  · rw [form_append]
    refine ⟨fA, form_cons.2 ⟨j1, fun c hc => j4 c.1 (by have := hCt c hc; omega) (fun t ht => gB t ht c hc), fC⟩, fun a ha y hy => ?_⟩
    rcases List.mem_cons.1 hy with rfl | hy
    · exact j3 a.2 (by have := hAt a ha; omega) (fun t ht => gA a ha t (List.mem_append_left _ ht))
    · exact gA a ha y (List.mem_append_right _ hy)
  · rw [form_append]
    refine ⟨h.fp, s1, fun a ha y hy => ?_⟩
    obtain ⟨q, hq, _, q2⟩ := h.inn a ha
    obtain ⟨r', hr', g1, _⟩ := s3 y hy
    simp at hr'; subst hr'
    have := f3 q hq
    omega
  · rw [cov_append, cov_cons, j2, cov_append, cov_one]
    have hcm := h.cm x
    rw [← hABC, cov_append, cov_append] at hcm
    constructor
    · rintro (a | (a | a) | a)
      · rcases hcm.1 (.inl a) with b | b
        · exact .inl b
        · exact .inr (.inl b)
      · exact .inr (.inr a)
      · rcases hcm.1 (.inr (.inl a)) with b | b
        · exact .inl b
        · exact .inr (.inl b)
      · rcases hcm.1 (.inr (.inr a)) with b | b
        · exact .inl b
        · exact .inr (.inl b)
    · rintro (a | a | a)
      · rcases hcm.2 (.inl a) with b | b | b
        · exact .inl b
        · exact .inr (.inl (.inr b))
        · exact .inr (.inr b)
      · rcases hcm.2 (.inr a) with b | b | b
        · exact .inl b
        · exact .inr (.inl (.inr b))
        · exact .inr (.inr b)
      · exact .inr (.inl (.inl a))
  · rw [cov_append, h.cp, hsub, cov_append, cov_one]
    constructor
    · rintro (⟨a, b⟩ | ⟨a, b⟩)
      · exact ⟨.inl a, b⟩
      · exact ⟨.inr a, b⟩
    · rintro ⟨a | a, b⟩
      · exact .inl ⟨a, b⟩
      · exact .inr ⟨a, b⟩
  · rcases List.mem_append.1 hp with hp | hp
    · obtain ⟨q, hq, a⟩ := h.inn p hp
      exact ⟨q, List.mem_append_left _ hq, a⟩
    · obtain ⟨r', hr', a⟩ := s3 p hp
      exact ⟨r', List.mem_append_right _ hr', a⟩
  · obtain ⟨w1, w2⟩ := hw e
    rw [cov_append, cov_one] at hx
    rcases hx with hx | hx
    · exact h.wh w1 x hx
    · have : cov (sub [r] B) x := by rw [w2, cov_one]; exact hx
      exact ((hsub x).1 this).2
  · have := h.len
    rw [← hABC] at this
    simp only [List.length_append, List.length_cons, List.length_nil] at this ⊢; omega
  · -- all of r would lie in mine, hence in one run of mine
    have hall : ∀ x, r.1 ≤ x ∧ x ≤ r.2 → cov Mc x := fun x hx => by
      have h1 := s2 x
      rw [hnil, cov_one] at h1
      by_cases hc : cov B x
      · exact (hcB x hx).1 hc
      · exact absurd (h1.2 ⟨hx, hc⟩) (cov_nil' x)
    obtain ⟨t, ht, t1, t2⟩ := hall r.1 ⟨Int.le_refl _, f2.2⟩
    by_cases hle : r.2 ≤ t.2
    · exact hh ⟨t, ht, t1, hle⟩
    · obtain ⟨u, hu, u1, u2⟩ := hall (t.2 + 1) ⟨by omega, by omega⟩
      obtain ⟨i, hi⟩ := List.mem_iff_getElem?.1 ht
      obtain ⟨j, hj⟩ := List.mem_iff_getElem?.1 hu
      obtain ⟨l1, e1⟩ := List.getElem?_eq_some_iff.1 hi
      obtain ⟨l2, e2⟩ := List.getElem?_eq_some_iff.1 hj
      have ht1 := h.fm.1 t ht
      rcases Nat.lt_trichotomy i j with hij | hij | hij
      · have := List.pairwise_iff_getElem.1 h.fm.2 i j l1 l2 hij
        rw [e1, e2] at this; omega
      · subst hij; rw [hi] at hj; cases hj; omega
      · have := List.pairwise_iff_getElem.1 h.fm.2 j i l2 l1 hij
        rw [e1, e2] at this; omega

end Go.Proofs.Qxb6608633a
