/- The plain side of joinRuns. -/
import Derived.Test.Qxb6608633aZTree
namespace Go.Proofs.Qxb6608633a
open Go.RowKit

theorem cut_len : ∀ (b : List Run) (lo hi : Int), (cut lo hi b).1.length + (cut lo hi b).2.length ≤ b.length + 1
  | [], lo, hi => by simp [cut]
  | y :: t, lo, hi => by
    unfold cut
    have hp : ∀ a : List Run, (if lo < y.1 then a else []).length ≤ a.length := fun a => by split <;> simp
    have hp1 := hp [(lo, y.1 - 1)]
    simp only [List.length_cons, List.length_nil] at hp1
    by_cases c1 : y.1 ≤ hi
    · rw [if_pos c1]
      by_cases c2 : hi ≤ y.2
      · rw [if_pos c2]
        simp only [List.length_cons]; omega
      · rw [if_neg c2]
        have := cut_len t (y.2 + 1) hi
        simp only [List.length_append, List.length_cons]; omega
    · rw [if_neg c1]
      simp only [List.length_cons, List.length_nil]; omega
theorem dropB_len (lo : Int) (b : List Run) : (dropB lo b).length ≤ b.length := by
  unfold dropB; exact (List.dropWhile_sublist _).length_le
theorem sub_len : ∀ (a b : List Run), (sub a b).length ≤ a.length + b.length
  | [], b => by simp [sub]
  | r :: a, b => by
    unfold sub
    have h1 := cut_len (dropB r.1 b) r.1 r.2
    have h2 := dropB_len r.1 b
    have h3 := sub_len a (cut r.1 r.2 (dropB r.1 b)).2
    simp only [List.length_append, List.length_cons]; omega
theorem fold_len : ∀ (ns acc : List Run), (ns.foldl stepU acc).length ≤ acc.length + ns.length
  | [], acc => by simp
  | n :: ns, acc => by
    have h1 := stepU_len acc n
    have h2 := fold_len ns (stepU acc n)
    simp only [List.foldl_cons, List.length_cons]; omega
theorem uni_len (a b : List Run) : (uni a b).length ≤ a.length + b.length := by
  have := fold_len (merge2 a b) []
  rw [merge2_len] at this
  simpa [uni] using this

/-- All counters of the runs lie in range. -/
def Small (rs : List Run) : Prop := ∀ x, cov rs x → x ≤ 18446744073709551615
theorem inU_of {rs : List Run} (hf : Form rs) (h : Small rs) : ∀ r ∈ rs, InU r := fun r hr => by
  obtain ⟨h1, h2⟩ := hf.1 r hr
  have h3 := h r.2 ⟨r, hr, h2, Int.le_refl _⟩
  exact ⟨h1, by omega, by omega, h3⟩
theorem small_of {rs : List Run} (h : ∀ r ∈ rs, InU r) : Small rs := fun x ⟨r, hr, _, b⟩ => by
  have := (h r hr).2.2.2; omega

/-- What joinRuns hands out, of the trees at pm (M) and of T. -/
def JoinRet (w : World) (pm : Option Addr) (M T : List Run) (e : Ending) (w' : World) : Prop :=
  ∃ pj pf J F, e = .returned (.tuple #[.pointer pj, .pointer pf]) ∧ RTree w' pj J ∧ RTree w' pf F ∧ Form J.list ∧ Form F.list ∧ Agree M T J.list F.list ∧ (F.list = [] → pj = pm) ∧ J.list.length ≤ 1000000 ∧ F.list.length ≤ 1000000 ∧ Below w.heap.size w w'

theorem agree_nil {M T : List Run} (hM : Form M) (hT : Form T) (h : sub T M = []) : Agree M T M [] := fun x => by
  obtain ⟨_, h2, _⟩ := sub_spec T M hT hM
  have h3 := h2 x
  rw [h] at h3
  constructor
  · constructor
    · exact .inl
    · rintro (h4 | h4)
      · exact h4
      · by_cases h5 : cov M x
        · exact h5
        · exact absurd (h3.2 ⟨h4, h5⟩) (cov_nil' x)
  · exact h3
theorem agree_uni {M T : List Run} (hM : Form M) (hT : Form T) : Agree M T (uni M (sub T M)) (sub T M) := fun x => by
  obtain ⟨h1, h2, _⟩ := sub_spec T M hT hM
  obtain ⟨_, h4⟩ := uni_spec M (sub T M) hM h1
  refine ⟨?_, h2 x⟩
  rw [h4, h2]
  constructor
  · rintro (h | ⟨h, _⟩)
    · exact .inl h
    · exact .inr h
  · rintro (h | h)
    · exact .inl h
    · by_cases h5 : cov M x
      · exact .inl h5
      · exact .inr ⟨h, h5⟩

end Go.Proofs.Qxb6608633a
