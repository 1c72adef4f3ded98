/- The plain side of ContextOf: runs of ascending counters. -/
import Derived.Test.Qxb6608633aTree
namespace Go.Proofs.Qxb6608633a

/-- The counter c lies in one of the runs. -/
def cov (rs : List Run) (c : Int) : Prop := ∃ x ∈ rs, x.1 ≤ c ∧ c ≤ x.2

/-- The runs' one form. -/
def Form (rs : List Run) : Prop := (∀ x ∈ rs, 1 ≤ x.1 ∧ x.1 ≤ x.2) ∧ rs.Pairwise (fun x y => x.2 + 2 ≤ y.1)

theorem cov_append (l m : List Run) (c : Int) : cov (l ++ m) c ↔ cov l c ∨ cov m c := by
  unfold cov
  constructor
  · rintro ⟨x, hx, h⟩
    rcases List.mem_append.1 hx with hx | hx
    · exact .inl ⟨x, hx, h⟩
    · exact .inr ⟨x, hx, h⟩
  · rintro (⟨x, hx, h⟩ | ⟨x, hx, h⟩)
    · exact ⟨x, List.mem_append_left _ hx, h⟩
    · exact ⟨x, List.mem_append_right _ hx, h⟩
theorem cov_one (x : Run) (c : Int) : cov [x] c ↔ x.1 ≤ c ∧ c ≤ x.2 := by unfold cov; simp

theorem form_snoc (l : List Run) (x : Run) : Form (l ++ [x]) ↔ Form l ∧ (1 ≤ x.1 ∧ x.1 ≤ x.2) ∧ ∀ y ∈ l, y.2 + 2 ≤ x.1 := by
  unfold Form
  constructor
  · rintro ⟨h1, h2⟩
    rw [List.pairwise_append] at h2
    exact ⟨⟨fun y hy => h1 y (List.mem_append_left _ hy), h2.1⟩, h1 x (by simp), fun y hy => h2.2.2 y hy x (by simp)⟩
  · rintro ⟨⟨h1, h2⟩, h3, h4⟩
    refine ⟨fun y hy => ?_, ?_⟩
    · rcases List.mem_append.1 hy with hy | hy
      · exact h1 y hy
      · simp at hy; subst hy; exact h3
    · rw [List.pairwise_append]
      exact ⟨h2, List.pairwise_singleton _ _, fun y hy z hz => by simp at hz; subst hz; exact h4 y hy⟩

end Go.Proofs.Qxb6608633a
