/- The plain side of joinRuns: the union. -/
import Derived.Test.Qxb6608633aPlainJ
namespace Go.Proofs.Qxb6608633a
open Go.RowKit

def stepU (acc : List Run) (n : Run) : List Run := match acc.getLast? with
  | none => [n]
  | some x => if n.1 - 1 ≤ x.2 then acc.dropLast ++ [(x.1, max x.2 n.2)] else acc ++ [n]
theorem stepU_nil (n : Run) : stepU [] n = [n] := rfl
theorem stepU_snoc (l : List Run) (x n : Run) : stepU (l ++ [x]) n = if n.1 - 1 ≤ x.2 then l ++ [(x.1, max x.2 n.2)] else (l ++ [x]) ++ [n] := by
  unfold stepU; simp

/-- The two lists in one order. -/
def merge2 : List Run → List Run → List Run
  | [], b => b
  | x :: a, [] => x :: a
  | x :: a, y :: b => if x.1 ≤ y.1 then x :: merge2 a (y :: b) else y :: merge2 (x :: a) b
termination_by a b => a.length + b.length

def uni (a b : List Run) : List Run := (merge2 a b).foldl stepU []

theorem merge2_nil (a : List Run) : merge2 a [] = a := by cases a <;> simp [merge2]
theorem mem_merge2 : ∀ (a b : List Run) (z : Run), z ∈ merge2 a b ↔ z ∈ a ∨ z ∈ b
  | [], b, z => by simp [merge2]
  | x :: a, [], z => by simp [merge2]
  | x :: a, y :: b, z => by
    unfold merge2
    by_cases h : x.1 ≤ y.1
    · rw [if_pos h, List.mem_cons, mem_merge2 a (y :: b) z]; simp [or_assoc]
    · rw [if_neg h, List.mem_cons, mem_merge2 (x :: a) b z]
      simp only [List.mem_cons]
      constructor
      · rintro (h | h | h)
        · exact .inr (.inl h)
        · exact .inl h
        · exact .inr (.inr h)
      · rintro (h | h | h)
        · exact .inr (.inl h)
        · exact .inl h
        · exact .inr (.inr h)
termination_by a b => a.length + b.length
theorem merge2_asc : ∀ (a b : List Run), a.Pairwise (fun x y => x.1 ≤ y.1) → b.Pairwise (fun x y => x.1 ≤ y.1) → (merge2 a b).Pairwise (fun x y => x.1 ≤ y.1)
  | [], b, _, hb => by simpa [merge2] using hb
  | x :: a, [], ha, _ => by simpa [merge2] using ha
  | x :: a, y :: b, ha, hb => by
    unfold merge2
    obtain ⟨a1, a2⟩ := List.pairwise_cons.1 ha
    obtain ⟨b1, b2⟩ := List.pairwise_cons.1 hb
    by_cases h : x.1 ≤ y.1
    · rw [if_pos h, List.pairwise_cons]
      refine ⟨fun z hz => ?_, merge2_asc a (y :: b) a2 hb⟩
      rcases (mem_merge2 _ _ _).1 hz with hz | hz
      · exact a1 z hz
      · rcases List.mem_cons.1 hz with rfl | hz
        · exact h
        · have := b1 z hz; omega
    · rw [if_neg h, List.pairwise_cons]
      refine ⟨fun z hz => ?_, merge2_asc (x :: a) b ha b2⟩
      rcases (mem_merge2 _ _ _).1 hz with hz | hz
      · rcases List.mem_cons.1 hz with rfl | hz
        · omega
        · have := a1 z hz; omega
      · exact b1 z hz
termination_by a b => a.length + b.length

theorem stepU_spec (acc : List Run) (n : Run) (hf : Form acc) (hn : 1 ≤ n.1 ∧ n.1 ≤ n.2) (hle : ∀ z ∈ acc, z.1 ≤ n.1) :
    Form (stepU acc n) ∧ (∀ z ∈ stepU acc n, z.1 ≤ n.1) ∧ (∀ x, cov (stepU acc n) x ↔ cov acc x ∨ (n.1 ≤ x ∧ x ≤ n.2)) := by
  rcases List.eq_nil_or_concat acc with rfl | ⟨l, x, rfl⟩
  · rw [stepU_nil]
    refine ⟨⟨by simpa using hn, by simp⟩, by simp, fun c => ?_⟩
    rw [cov_one]; simp [cov_nil']
  · rw [List.concat_eq_append] at *
    rw [stepU_snoc]
    obtain ⟨h1, h2, h3⟩ := (form_snoc l x).1 hf
    have hx := hle x (by simp)
    by_cases c : n.1 - 1 ≤ x.2
    · rw [if_pos c]
      refine ⟨(form_snoc _ _).2 ⟨h1, ⟨h2.1, by simp; omega⟩, h3⟩, fun z hz => ?_, fun d => ?_⟩
      · rcases List.mem_append.1 hz with hz | hz
        · exact hle z (List.mem_append_left _ hz)
        · simp at hz; subst hz; exact hx
      · rw [cov_append, cov_append, cov_one, cov_one]; simp only
        constructor
        · rintro (h | h)
          · exact .inl (.inl h)
          · by_cases hd : d ≤ x.2
            · exact .inl (.inr ⟨h.1, hd⟩)
            · exact .inr (by omega)
        · rintro ((h | h) | h)
          · exact .inl h
          · exact .inr (by omega)
          · exact .inr (by omega)
    · rw [if_neg c]
      refine ⟨(form_snoc _ _).2 ⟨hf, hn, fun y hy => ?_⟩, fun z hz => ?_, fun d => ?_⟩
      · rcases List.mem_append.1 hy with hy | hy
        · have := h3 y hy; omega
        · simp at hy; subst hy; omega
      · rcases List.mem_append.1 hz with hz | hz
        · exact hle z hz
        · simp at hz; subst hz; omega
      · rw [cov_append, cov_one]

theorem fold_spec : ∀ (ns acc : List Run), Form acc → (∀ n ∈ ns, 1 ≤ n.1 ∧ n.1 ≤ n.2) → ns.Pairwise (fun x y => x.1 ≤ y.1) → (∀ z ∈ acc, ∀ n ∈ ns, z.1 ≤ n.1) →
    Form (ns.foldl stepU acc) ∧ ∀ x, cov (ns.foldl stepU acc) x ↔ cov acc x ∨ cov ns x
  | [], acc, hf, _, _, _ => ⟨hf, fun x => by simp [cov_nil']⟩
  | n :: ns, acc, hf, hn, hp, hle => by
    obtain ⟨p1, p2⟩ := List.pairwise_cons.1 hp
    obtain ⟨s1, s2, s3⟩ := stepU_spec acc n hf (hn n (by simp)) (fun z hz => hle z hz n (by simp))
    obtain ⟨i1, i2⟩ := fold_spec ns (stepU acc n) s1 (fun m hm => hn m (List.mem_cons_of_mem _ hm)) p2 (fun z hz m hm => by have := s2 z hz; have := p1 m hm; omega)
    refine ⟨i1, fun x => ?_⟩
    rw [List.foldl_cons, i2, s3, cov_cons, or_assoc]

theorem form_asc {a : List Run} (h : Form a) : a.Pairwise (fun x y => x.1 ≤ y.1) := h.2.imp_of_mem (fun {x y} hx _ hxy => by have := h.1 x hx; omega)

theorem uni_spec (a b : List Run) (ha : Form a) (hb : Form b) : Form (uni a b) ∧ ∀ x, cov (uni a b) x ↔ cov a x ∨ cov b x := by
  obtain ⟨h1, h2⟩ := fold_spec (merge2 a b) [] ⟨by simp, by simp⟩ (fun n hn => by
    rcases (mem_merge2 _ _ _).1 hn with h | h
    · exact ha.1 n h
    · exact hb.1 n h) (merge2_asc a b (form_asc ha) (form_asc hb)) (by simp)
  refine ⟨h1, fun x => ?_⟩
  unfold uni
  rw [h2]
  constructor
  · rintro (h | ⟨z, hz, h⟩)
    · exact absurd h (cov_nil' _)
    · rcases (mem_merge2 _ _ _).1 hz with hz | hz
      · exact .inl ⟨z, hz, h⟩
      · exact .inr ⟨z, hz, h⟩
  · rintro (⟨z, hz, h⟩ | ⟨z, hz, h⟩)
    · exact .inr ⟨z, (mem_merge2 _ _ _).2 (.inl hz), h⟩
    · exact .inr ⟨z, (mem_merge2 _ _ _).2 (.inr hz), h⟩

end Go.Proofs.Qxb6608633a
