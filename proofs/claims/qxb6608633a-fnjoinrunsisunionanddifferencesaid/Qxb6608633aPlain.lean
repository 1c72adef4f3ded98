/- The plain side of ContextOf: runs of ascending counters. -/
import Derived.Test.Qxb6608633aTree
namespace Go.Proofs.Qxb6608633a

/-- The counter c lies in one of the runs. -/
def cov (rs : List Run) (c : Int) : Prop := ∃ x ∈ rs, x.1 ≤ c ∧ c ≤ x.2

/-- The runs' one form. -/
def Form (rs : List Run) : Prop := (∀ x ∈ rs, 1 ≤ x.1 ∧ x.1 ≤ x.2) ∧ rs.Pairwise (fun x y => x.2 + 2 ≤ y.1)

def stepR (rs : List Run) (c : Int) : List Run :=
  match rs.getLast? with
  | none => [(c, c)]
  | some x => if c - 1 ≤ x.2 then rs.dropLast ++ [(x.1, max x.2 c)] else rs ++ [(c, c)]

theorem stepR_nil (c : Int) : stepR [] c = [(c, c)] := rfl
theorem stepR_snoc (l : List Run) (x : Run) (c : Int) : stepR (l ++ [x]) c = if c - 1 ≤ x.2 then l ++ [(x.1, max x.2 c)] else (l ++ [x]) ++ [(c, c)] := by
  unfold stepR
  simp

theorem cov_append (l m : List Run) (c : Int) : cov (l ++ m) c ↔ cov l c ∨ cov m c := by
  unfold cov
  constructor
  · rintro ⟨x, hx, h⟩
    rcases List.mem_append.1 hx with hx | hx
    · exact .inl ⟨x, hx, h⟩
    · exact .inr ⟨x, hx, h⟩
  · rintro (⟨x, hx, h⟩ | ⟨x, hx, h⟩)
    · exact ⟨x, List.mem_append_left _ hx, h⟩
    · exact ⟨x, List.mem_append_right _ hx, h⟩
theorem cov_one (x : Run) (c : Int) : cov [x] c ↔ x.1 ≤ c ∧ c ≤ x.2 := by unfold cov; simp

theorem form_snoc (l : List Run) (x : Run) : Form (l ++ [x]) ↔ Form l ∧ (1 ≤ x.1 ∧ x.1 ≤ x.2) ∧ ∀ y ∈ l, y.2 + 2 ≤ x.1 := by
  unfold Form
  constructor
  · rintro ⟨h1, h2⟩
    rw [List.pairwise_append] at h2
    exact ⟨⟨fun y hy => h1 y (List.mem_append_left _ hy), h2.1⟩, h1 x (by simp), fun y hy => h2.2.2 y hy x (by simp)⟩
  · rintro ⟨⟨h1, h2⟩, h3, h4⟩
    refine ⟨fun y hy => ?_, ?_⟩
    · rcases List.mem_append.1 hy with hy | hy
      · exact h1 y hy
      · simp at hy; subst hy; exact h3
    · rw [List.pairwise_append]
      exact ⟨h2, List.pairwise_singleton _ _, fun y hy z hz => by simp at hz; subst hz; exact h4 y hy⟩

theorem step_spec (rs : List Run) (c : Int) (hf : Form rs) (hle : ∀ d, cov rs d → d ≤ c) (hc : 1 ≤ c) :
    Form (stepR rs c) ∧ stepR rs c ≠ [] ∧ ∀ d, cov (stepR rs c) d ↔ cov rs d ∨ d = c := by
  rcases List.eq_nil_or_concat rs with rfl | ⟨l, x, rfl⟩
  · rw [stepR_nil]
    refine ⟨⟨by simp; exact hc, List.pairwise_singleton _ _⟩, by simp, fun d => ?_⟩
    rw [cov_one]
    constructor
    · intro h; exact .inr (by simp at h; omega)
    · rintro (⟨x, hx, _⟩ | rfl)
      · simp at hx
      · simp
  · rw [List.concat_eq_append] at *
    rw [stepR_snoc]
    obtain ⟨h1, h2, h3⟩ := (form_snoc l x).1 hf
    have hx : x.2 ≤ c := hle x.2 ((cov_append _ _ _).2 (.inr ((cov_one _ _).2 ⟨h2.2, Int.le_refl _⟩)))
    by_cases h : c - 1 ≤ x.2
    · rw [if_pos h]
      have hm : max x.2 c = c := by omega
      rw [hm]
      refine ⟨(form_snoc _ _).2 ⟨h1, ⟨h2.1, by simp; omega⟩, h3⟩, by simp, fun d => ?_⟩
      rw [cov_append, cov_append, cov_one, cov_one]
      constructor
      · rintro (h | h)
        · exact .inl (.inl h)
        · simp at h
          by_cases hd : d = c
          · exact .inr hd
          · exact .inl (.inr (by omega))
      · rintro ((h | h) | rfl)
        · exact .inl h
        · exact .inr (by simp; omega)
        · exact .inr (by simp; omega)
    · rw [if_neg h]
      refine ⟨(form_snoc _ _).2 ⟨hf, ⟨hc, Int.le_refl _⟩, fun y hy => ?_⟩, by simp, fun d => ?_⟩
      · rcases List.mem_append.1 hy with hy | hy
        · have := h3 y hy; simp; omega
        · simp at hy; subst hy; simp; omega
      · rw [cov_append, cov_one]
        constructor
        · rintro (h | h)
          · exact .inl h
          · simp at h; exact .inr (by omega)
        · rintro (h | rfl)
          · exact .inl h
          · exact .inr (by simp)

end Go.Proofs.Qxb6608633a
