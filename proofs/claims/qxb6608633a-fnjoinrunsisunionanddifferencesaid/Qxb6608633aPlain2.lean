/- The plain side of ContextOf: the dots in order, cut into replicas and runs. -/
import Derived.Test.Qxb6608633aPlain
namespace Go.Proofs.Qxb6608633a

abbrev Grp := ByteArray × List Run

/-- The entries that ContextOf makes of the dots in order; rs: the runs of the first dot's replica so far. -/
def groups : List Ent → List Run → List Grp
  | [], _ => []
  | [d], rs => [(d.1, stepR rs d.2)]
  | d :: d' :: t, rs => if d'.1 = d.1 then groups (d' :: t) (stepR rs d.2) else (d.1, stepR rs d.2) :: groups (d' :: t) []

def SortedP (ys : List Ent) : Prop := ys.Pairwise (fun x y => ¬ ltD y x)

theorem le_of_not {x y : Ent} (h : ¬ ltD y x) : cmpB x.1 y.1 < 0 ∨ (x.1 = y.1 ∧ x.2 ≤ y.2) := by
  rcases ltD_total x y with (h1 | ⟨h1, h2⟩) | h1 | h1
  · exact .inl h1
  · exact .inr ⟨h1, by omega⟩
  · exact .inr ⟨by rw [h1], by rw [h1]; exact Int.le_refl _⟩
  · exact absurd h1 h

/-- What the groups of ys over the pending runs rs are. -/
structure GSpec (ys : List Ent) (rs : List Run) (g : List Grp) : Prop where
  form : ∀ e ∈ g, e.2 ≠ [] ∧ Form e.2
  ids : ∀ e ∈ g, ∃ d ∈ ys, d.1 = e.1
  asc : g.Pairwise (fun a b => cmpB a.1 b.1 < 0)
  cover : ∀ e ∈ g, ∀ c, cov e.2 c ↔ (e.1, c) ∈ ys ∨ (some e.1 = ys.head?.map (·.1) ∧ cov rs c)
  all : ∀ d ∈ ys, ∃ e ∈ g, e.1 = d.1

theorem groups_spec : ∀ (ys : List Ent) (rs : List Run), SortedP ys → (∀ d ∈ ys, 1 ≤ d.2) → Form rs → (∀ d, ys.head? = some d → ∀ c, cov rs c → c ≤ d.2) → GSpec ys rs (groups ys rs)
  | [], rs, _, _, _, _ => ⟨by simp [groups], by simp [groups], by simp [groups], by simp [groups], by simp⟩
  | [d], rs, _, h1, hf, hp => by
    obtain ⟨s1, s2, s3⟩ := step_spec rs d.2 hf (hp d rfl) (h1 d (by simp))
    refine ⟨by simp [groups]; exact ⟨s2, s1⟩, by simp [groups], by simp [groups], ?_, by simp [groups]⟩
    intro e he c
    simp [groups] at he
    subst he
    rw [s3]
    simp only [List.mem_singleton, List.head?_cons, Option.map_some]
    constructor
    · rintro (h | rfl)
      · exact .inr ⟨by simp, h⟩
      · exact .inl rfl
    · rintro (h | ⟨_, h⟩)
      · exact .inr (by rw [← h])
      · exact .inl h
  | d :: d' :: t, rs, hs, h1, hf, hp => by
    obtain ⟨s1, s2, s3⟩ := step_spec rs d.2 hf (hp d rfl) (h1 d (by simp))
    have hs' : SortedP (d' :: t) := (List.pairwise_cons.1 hs).2
    have hd : ∀ y ∈ d' :: t, ¬ ltD y d := (List.pairwise_cons.1 hs).1
    have h1' : ∀ y ∈ d' :: t, 1 ≤ y.2 := fun y hy => h1 y (List.mem_cons_of_mem _ hy)
    unfold groups
    by_cases he : d'.1 = d.1
    · rw [if_pos he]
      have hdd : d.2 ≤ d'.2 := by
        rcases le_of_not (hd d' (by simp)) with h | ⟨_, h⟩
        · rw [← he, (cmpB_zero _ _).2 rfl] at h; omega
        · exact h
      have G := groups_spec (d' :: t) (stepR rs d.2) hs' h1' s1 (fun y hy c hc => by
        simp at hy; subst hy
        rcases (s3 c).1 hc with h | rfl
        · have := hp d rfl c h; omega
        · exact hdd)
      refine ⟨G.form, fun e hg => ?_, G.asc, fun e hg c => ?_, fun y hy => ?_⟩
      · obtain ⟨y, hy, h⟩ := G.ids e hg
        exact ⟨y, List.mem_cons_of_mem _ hy, h⟩
      · rw [G.cover e hg c, s3]
        simp only [List.head?_cons, Option.map_some, he]
        constructor
        · rintro (h | ⟨h, h2 | rfl⟩)
          · exact .inl (List.mem_cons_of_mem _ h)
          · exact .inr ⟨h, h2⟩
          · injection h with h
            exact .inl (by rw [h]; simp)
        · rintro (h | ⟨h, h2⟩)
          · rcases List.mem_cons.1 h with h | h
            · exact .inr ⟨by rw [← h], .inr (by rw [← h])⟩
            · exact .inl h
          · exact .inr ⟨h, .inl h2⟩
      · rcases List.mem_cons.1 hy with rfl | hy
        · obtain ⟨e, hg, h⟩ := G.all d' (by simp)
          exact ⟨e, hg, h.trans he⟩
        · exact G.all y hy
    · rw [if_neg he]
      have G := groups_spec (d' :: t) [] hs' h1' ⟨by simp, List.Pairwise.nil⟩ (fun y hy c hc => by obtain ⟨x, hx, _⟩ := hc; simp at hx)
      have hlt : ∀ y ∈ d' :: t, cmpB d.1 y.1 < 0 := by
        have h0 : cmpB d.1 d'.1 < 0 := by
          rcases le_of_not (hd d' (by simp)) with h | ⟨h, _⟩
          · exact h
          · exact absurd h.symm he
        intro y hy
        rcases List.mem_cons.1 hy with rfl | hy'
        · exact h0
        · rcases le_of_not ((List.pairwise_cons.1 hs').1 y hy') with h | ⟨h, _⟩
          · exact cmpB_trans h0 h
          · rw [← h]; exact h0
      have hno : ∀ c, (d.1, c) ∉ d' :: t := fun c hc => by
        have := hlt _ hc
        rw [(cmpB_zero _ _).2 rfl] at this; omega
      refine ⟨fun e hg => ?_, fun e hg => ?_, ?_, fun e hg c => ?_, fun y hy => ?_⟩
      · rcases List.mem_cons.1 hg with rfl | hg
        · exact ⟨s2, s1⟩
        · exact G.form e hg
      · rcases List.mem_cons.1 hg with rfl | hg
        · exact ⟨d, by simp, rfl⟩
        · obtain ⟨y, hy, h⟩ := G.ids e hg
          exact ⟨y, List.mem_cons_of_mem _ hy, h⟩
      · refine List.pairwise_cons.2 ⟨fun e hg => ?_, G.asc⟩
        obtain ⟨y, hy, h⟩ := G.ids e hg
        rw [← h]; exact hlt y hy
      · rcases List.mem_cons.1 hg with rfl | hg
        · rw [s3]
          simp only [List.head?_cons, Option.map_some]
          constructor
          · rintro (h | rfl)
            · exact .inr ⟨by simp, h⟩
            · exact .inl (by simp)
          · rintro (h | ⟨_, h⟩)
            · rcases List.mem_cons.1 h with h | h
              · exact .inr (by rw [← h])
              · exact absurd h (hno c)
            · exact .inl h
        · rw [G.cover e hg c]
          obtain ⟨y, hy, hye⟩ := G.ids e hg
          have hne : e.1 ≠ d.1 := fun h => by
            have := hlt y hy
            rw [hye, h, (cmpB_zero _ _).2 rfl] at this; omega
          simp only [List.head?_cons, Option.map_some]
          constructor
          · rintro (h | ⟨_, x, hx, _⟩)
            · exact .inl (List.mem_cons_of_mem _ h)
            · simp at hx
          · rintro (h | ⟨h, _⟩)
            · rcases List.mem_cons.1 h with h | h
              · exact absurd (by rw [← h]) hne
              · exact .inl h
            · injection h with h; exact absurd h hne
      · rcases List.mem_cons.1 hy with rfl | hy
        · exact ⟨_, List.mem_cons_self, rfl⟩
        · obtain ⟨e, hg, h⟩ := G.all y hy
          exact ⟨e, List.mem_cons_of_mem _ hg, h⟩

end Go.Proofs.Qxb6608633a
