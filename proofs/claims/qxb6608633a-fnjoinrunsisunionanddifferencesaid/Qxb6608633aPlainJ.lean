/- The plain side of joinRuns: the difference. -/
import Derived.Test.Qxb6608633aSeek
namespace Go.Proofs.Qxb6608633a
open Go.RowKit

/-- The pieces of lo..hi that b leaves, and what is left of b. -/
def cut (lo hi : Int) : List Run → List Run × List Run
  | [] => ([(lo, hi)], [])
  | y :: t => if y.1 ≤ hi then
      (if hi ≤ y.2 then ((if lo < y.1 then [(lo, y.1 - 1)] else []), y :: t)
       else ((if lo < y.1 then [(lo, y.1 - 1)] else []) ++ (cut (y.2 + 1) hi t).1, (cut (y.2 + 1) hi t).2))
    else ([(lo, hi)], y :: t)

/-- b without the runs that end ahead of lo. -/
def dropB (lo : Int) (b : List Run) : List Run := b.dropWhile fun y => decide (y.2 < lo)

def sub : List Run → List Run → List Run
  | [], _ => []
  | r :: a, b => (cut r.1 r.2 (dropB r.1 b)).1 ++ sub a (cut r.1 r.2 (dropB r.1 b)).2

theorem form_cons {x : Run} {t : List Run} : Form (x :: t) ↔ (1 ≤ x.1 ∧ x.1 ≤ x.2) ∧ (∀ y ∈ t, x.2 + 2 ≤ y.1) ∧ Form t := by
  unfold Form
  rw [List.pairwise_cons]
  constructor
  · rintro ⟨h1, h2, h3⟩
    exact ⟨h1 x (by simp), h2, fun y hy => h1 y (List.mem_cons_of_mem _ hy), h3⟩
  · rintro ⟨h1, h2, h3, h4⟩
    refine ⟨fun y hy => ?_, h2, h4⟩
    rcases List.mem_cons.1 hy with rfl | hy
    · exact h1
    · exact h3 y hy
theorem form_append {a b : List Run} : Form (a ++ b) ↔ Form a ∧ Form b ∧ ∀ x ∈ a, ∀ y ∈ b, x.2 + 2 ≤ y.1 := by
  unfold Form
  rw [List.pairwise_append]
  constructor
  · rintro ⟨h1, h2, h3, h4⟩
    exact ⟨⟨fun x hx => h1 x (List.mem_append_left _ hx), h2⟩, ⟨fun x hx => h1 x (List.mem_append_right _ hx), h3⟩, h4⟩
  · rintro ⟨⟨h1, h2⟩, ⟨h3, h4⟩, h5⟩
    refine ⟨fun x hx => ?_, h2, h4, h5⟩
    rcases List.mem_append.1 hx with hx | hx
    · exact h1 x hx
    · exact h3 x hx
theorem cov_cons (x : Run) (t : List Run) (c : Int) : cov (x :: t) c ↔ (x.1 ≤ c ∧ c ≤ x.2) ∨ cov t c := by
  unfold cov; simp
theorem cov_nil' (c : Int) : ¬ cov [] c := fun ⟨x, hx, _⟩ => by simp at hx

theorem cut_spec : ∀ (b : List Run) (lo hi : Int), Form b → 1 ≤ lo → lo ≤ hi → (∀ y ∈ b, lo ≤ y.2) →
    Form (cut lo hi b).1 ∧ (∀ p ∈ (cut lo hi b).1, lo ≤ p.1 ∧ p.2 ≤ hi) ∧ (∀ x, cov (cut lo hi b).1 x ↔ (lo ≤ x ∧ x ≤ hi) ∧ ¬ cov b x) ∧ Form (cut lo hi b).2 ∧ (∀ x, hi < x → (cov (cut lo hi b).2 x ↔ cov b x)) ∧ (∀ y ∈ (cut lo hi b).2, y ∈ b)
  | [], lo, hi, _, h1, h2, _ => by
    refine ⟨⟨by simp [cut]; omega, by simp [cut]⟩, by simp [cut], fun x => ?_, ⟨by simp [cut], by simp [cut]⟩, fun x _ => by simp [cut], by simp [cut]⟩
    simp only [cut, cov_one, cov_nil', not_false_eq_true, and_true]
  | y :: t, lo, hi, hf, h1, h2, hk => by
    obtain ⟨hy, hyt, hft⟩ := form_cons.1 hf
    have hyk := hk y (by simp)
    unfold cut
    by_cases c1 : y.1 ≤ hi
    · rw [if_pos c1]
      by_cases c2 : hi ≤ y.2
      · rw [if_pos c2]
        refine ⟨?_, ?_, fun x => ?_, hf, fun x hx => Iff.rfl, fun z hz => hz⟩
        · split
          · exact ⟨by simp; omega, by simp⟩
          · exact ⟨by simp, by simp⟩
        · intro p hp
          split at hp
          · simp at hp; subst hp; simp; omega
          · simp at hp
        · rw [cov_cons]
          have hno : x ≤ hi → ¬ cov t x := fun hx ⟨z, hz, z1, z2⟩ => by have := hyt z hz; omega
          split
          · rw [cov_one]; simp only
            constructor
            · rintro ⟨a, b⟩; exact ⟨⟨a, by omega⟩, fun h => h.elim (fun h => by omega) (hno (by omega))⟩
            · rintro ⟨⟨a, b⟩, h⟩
              refine ⟨a, ?_⟩
              have : ¬ (y.1 ≤ x ∧ x ≤ y.2) := fun h' => h (.inl h')
              omega
          · constructor
            · intro h; exact absurd h (cov_nil' _)
            · rintro ⟨⟨a, b⟩, h⟩
              exact absurd (.inl ⟨by omega, by omega⟩) h
      · rw [if_neg c2]
        obtain ⟨i1, i2, i3, i4, i5, i6⟩ := cut_spec t (y.2 + 1) hi hft (by omega) (by omega) (fun z hz => by have := hyt z hz; have := (hft.1 z hz).2; omega)
        refine ⟨?_, ?_, fun x => ?_, i4, fun x hx => ?_, fun z hz => List.mem_cons_of_mem _ (i6 z hz)⟩
        · split
          · simp only [List.cons_append, List.nil_append]
            rw [form_cons]
            exact ⟨by simp; omega, fun p hp => by have := (i2 p hp).1; simp; omega, i1⟩
          · simpa using i1
        · intro p hp
          rcases List.mem_append.1 hp with hp | hp
          · split at hp
            · simp at hp; subst hp; simp; omega
            · simp at hp
          · have := i2 p hp; omega
        · rw [cov_append, i3, cov_cons]
          have hno : x ≤ y.2 → ¬ cov t x := fun hx ⟨z, hz, z1, z2⟩ => by have := hyt z hz; omega
          by_cases hx : x ≤ y.2
          · have hn := hno hx
            split
            · rw [cov_one]; simp only
              constructor
              · rintro (⟨a, b⟩ | ⟨⟨a, b⟩, _⟩)
                · exact ⟨⟨a, by omega⟩, fun h => h.elim (fun h => by omega) hn⟩
                · omega
              · rintro ⟨⟨a, b⟩, h⟩
                have : ¬ (y.1 ≤ x ∧ x ≤ y.2) := fun h' => h (.inl h')
                exact .inl ⟨a, by omega⟩
            · constructor
              · rintro (h | ⟨⟨a, b⟩, _⟩)
                · exact absurd h (cov_nil' _)
                · omega
              · rintro ⟨⟨a, b⟩, h⟩
                exact absurd (.inl ⟨by omega, hx⟩) h
          · have hpre : ¬ cov (if lo < y.1 then [(lo, y.1 - 1)] else []) x := by
              split
              · rw [cov_one]; simp; omega
              · exact cov_nil' _
            constructor
            · rintro (h | ⟨⟨a, b⟩, h⟩)
              · exact absurd h hpre
              · exact ⟨⟨by omega, b⟩, fun h' => h'.elim (fun h' => hx h'.2) h⟩
            · rintro ⟨⟨a, b⟩, h⟩
              exact .inr ⟨⟨by omega, b⟩, fun h' => h (.inr h')⟩
        · rw [i5 x hx, cov_cons]
          constructor
          · exact .inr
          · rintro (h | h)
            · omega
            · exact h
    · rw [if_neg c1]
      refine ⟨⟨by simp; omega, by simp⟩, by simp, fun x => ?_, hf, fun x _ => Iff.rfl, fun z hz => hz⟩
      rw [cov_one, cov_cons]; simp only
      constructor
      · rintro ⟨a, b⟩
        exact ⟨⟨a, b⟩, fun h => h.elim (fun h => by omega) (fun ⟨z, hz, z1, z2⟩ => by have := hyt z hz; omega)⟩
      · rintro ⟨h, _⟩; exact h

theorem drop_spec (lo : Int) : ∀ (b : List Run), Form b → Form (dropB lo b) ∧ (∀ y ∈ dropB lo b, lo ≤ y.2) ∧ (∀ x, lo ≤ x → (cov (dropB lo b) x ↔ cov b x)) ∧ (∀ y ∈ dropB lo b, y ∈ b)
  | [], h => ⟨by simpa [dropB] using h, by simp [dropB], fun x _ => by simp [dropB], by simp [dropB]⟩
  | y :: t, h => by
    obtain ⟨hy, hyt, hft⟩ := form_cons.1 h
    by_cases c : y.2 < lo
    · have e : dropB lo (y :: t) = dropB lo t := by simp [dropB, c]
      rw [e]
      obtain ⟨i1, i2, i3, i4⟩ := drop_spec lo t hft
      refine ⟨i1, i2, fun x hx => ?_, fun z hz => List.mem_cons_of_mem _ (i4 z hz)⟩
      rw [i3 x hx, cov_cons]
      constructor
      · exact .inr
      · rintro (h | h)
        · omega
        · exact h
    · have e : dropB lo (y :: t) = y :: t := by simp [dropB, c]
      rw [e]
      refine ⟨h, fun z hz => ?_, fun x _ => Iff.rfl, fun z hz => hz⟩
      rcases List.mem_cons.1 hz with rfl | hz
      · omega
      · have := hyt z hz; have := (hft.1 z hz).2; omega

theorem sub_spec : ∀ (a b : List Run), Form a → Form b → Form (sub a b) ∧ (∀ x, cov (sub a b) x ↔ cov a x ∧ ¬ cov b x) ∧ (∀ p ∈ sub a b, ∃ r ∈ a, r.1 ≤ p.1 ∧ p.2 ≤ r.2)
  | [], b, _, _ => ⟨⟨by simp [sub], by simp [sub]⟩, fun x => by simp [sub, cov_nil'], by simp [sub]⟩
  | r :: a, b, ha, hb => by
    obtain ⟨hr, hra, hfa⟩ := form_cons.1 ha
    obtain ⟨d1, d2, d3, _⟩ := drop_spec r.1 b hb
    obtain ⟨c1, c2, c3, c4, c5, _⟩ := cut_spec (dropB r.1 b) r.1 r.2 d1 hr.1 hr.2 d2
    obtain ⟨i1, i2, i3⟩ := sub_spec a (cut r.1 r.2 (dropB r.1 b)).2 hfa c4
    unfold sub
    refine ⟨?_, fun x => ?_, fun p hp => ?_⟩
    · rw [form_append]
      refine ⟨c1, i1, fun x hx y hy => ?_⟩
      obtain ⟨r', hr', g1, g2⟩ := i3 y hy
      have := hra r' hr'
      have := (c2 x hx).2
      omega
    · rw [cov_append, c3, i2, cov_cons]
      have hgap : ∀ z, cov a z → r.2 < z := fun z ⟨q, hq, q1, q2⟩ => by have := hra q hq; omega
      constructor
      · rintro (⟨h1, h2⟩ | ⟨h1, h2⟩)
        · exact ⟨.inl h1, fun h => h2 ((d3 x h1.1).2 h)⟩
        · have hx := hgap x h1
          exact ⟨.inr h1, fun h => h2 ((c5 x hx).2 ((d3 x (by omega)).2 h))⟩
      · rintro ⟨h1 | h1, h2⟩
        · exact .inl ⟨h1, fun h => h2 ((d3 x h1.1).1 h)⟩
        · have hx := hgap x h1
          exact .inr ⟨h1, fun h => h2 ((d3 x (by omega)).1 ((c5 x hx).1 h))⟩
    · rcases List.mem_append.1 hp with hp | hp
      · exact ⟨r, by simp, (c2 p hp).1, (c2 p hp).2⟩
      · obtain ⟨r', hr', g⟩ := i3 p hp
        exact ⟨r', List.mem_cons_of_mem _ hr', g⟩

end Go.Proofs.Qxb6608633a
