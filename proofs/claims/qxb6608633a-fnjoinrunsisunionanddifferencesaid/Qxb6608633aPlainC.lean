/- The plain side of ContextOf: the law. -/
import Derived.Test.Qxb6608633aPlain2
namespace Go.Proofs.Qxb6608633a
open Go.RowKit

open Classical in
/-- The counters of the distinct dots of s between lo and hi, among the first i dots. -/
noncomputable def HT (ds : List Ent) (s : ByteArray) (lo hi : Int) : Nat → List Int
  | 0 => []
  | i + 1 => match ds[i]? with
    | none => HT ds s lo hi i
    | some d => if d ∉ ds.take i ∧ s = d.1 ∧ lo ≤ d.2 ∧ d.2 ≤ hi then HT ds s lo hi i ++ [d.2] else HT ds s lo hi i

open Classical in
theorem ht_succ {ds : List Ent} {s : ByteArray} {lo hi : Int} {i : Nat} {d : Ent} (h : ds[i]? = some d) :
    HT ds s lo hi (i + 1) = if d ∉ ds.take i ∧ s = d.1 ∧ lo ≤ d.2 ∧ d.2 ≤ hi then HT ds s lo hi i ++ [d.2] else HT ds s lo hi i := by
  rw [HT, h]

theorem take_snoc {α : Type} {ds : List α} {i : Nat} {d : α} (h : ds[i]? = some d) : ds.take (i + 1) = ds.take i ++ [d] := by
  rw [List.take_add_one, h]; rfl

theorem ht_spec (ds : List Ent) (s : ByteArray) (lo hi : Int) : ∀ i, i ≤ ds.length → (HT ds s lo hi i).length ≤ i ∧ (HT ds s lo hi i).Nodup ∧ ∀ c, c ∈ HT ds s lo hi i ↔ (lo ≤ c ∧ c ≤ hi) ∧ (s, c) ∈ ds.take i
  | 0, _ => ⟨by simp [HT], by simp [HT], by simp [HT]⟩
  | i + 1, h => by
    obtain ⟨h0, h1, h2⟩ := ht_spec ds s lo hi i (by omega)
    obtain ⟨d, hd⟩ : ∃ d, ds[i]? = some d := ⟨_, List.getElem?_eq_getElem (by omega)⟩
    rw [ht_succ hd, take_snoc hd]
    by_cases hc : d ∉ ds.take i ∧ s = d.1 ∧ lo ≤ d.2 ∧ d.2 ≤ hi
    · rw [if_pos hc]
      obtain ⟨hn, rfl, hl, hh⟩ := hc
      refine ⟨by simp; omega, ?_, fun c => ?_⟩
      · rw [List.nodup_append]
        refine ⟨h1, by simp, fun a ha b hb => ?_⟩
        simp at hb; subst hb
        intro e; subst e
        exact hn ((h2 _).1 ha).2
      · simp only [List.mem_append, h2, List.mem_singleton]
        constructor
        · rintro (⟨a, b⟩ | rfl)
          · exact ⟨a, .inl b⟩
          · exact ⟨⟨hl, hh⟩, .inr rfl⟩
        · rintro ⟨a, b | b⟩
          · exact .inl ⟨a, b⟩
          · exact .inr (by rw [← b])
    · rw [if_neg hc]
      refine ⟨by omega, h1, fun c => ?_⟩
      rw [h2]
      simp only [List.mem_append, List.mem_singleton]
      constructor
      · rintro ⟨a, b⟩; exact ⟨a, .inl b⟩
      · rintro ⟨a, b | b⟩
        · exact ⟨a, b⟩
        · subst b
          refine ⟨a, ?_⟩
          by_cases hm : (s, c) ∈ ds.take i
          · exact hm
          · exact absurd ⟨hm, rfl, a.1, a.2⟩ hc

theorem ht_all {ds : List Ent} {s : ByteArray} {lo hi : Int} (h : ∀ c, lo ≤ c → c ≤ hi → (s, c) ∈ ds) : ((HT ds s lo hi ds.length).length : Int) = max 0 (hi - lo + 1) := by
  obtain ⟨_, h1, h2⟩ := ht_spec ds s lo hi ds.length (Nat.le_refl _)
  have hp : (HT ds s lo hi ds.length).Perm ((List.range (hi - lo + 1).toNat).map (fun k : Nat => lo + k)) := by
    rw [List.perm_ext_iff_of_nodup h1]
    · intro c
      rw [h2, List.take_length]
      simp only [List.mem_map, List.mem_range]
      constructor
      · rintro ⟨⟨a, b⟩, _⟩
        exact ⟨(c - lo).toNat, by omega, by omega⟩
      · rintro ⟨k, hk, rfl⟩
        exact ⟨⟨by omega, by omega⟩, h _ (by omega) (by omega)⟩
    · unfold List.Nodup
      rw [List.pairwise_map]
      exact (List.nodup_range (n := (hi - lo + 1).toNat)).imp (fun {a b} hab e => hab (by omega))
  rw [hp.length_eq]
  simp; omega

/-- All runs in order, each with its owner. -/
def rows (gs : List Grp) : List (ByteArray × Run) := gs.flatMap fun g => g.2.map fun r => (g.1, r)

theorem rows_cons (g : Grp) (gs : List Grp) : rows (g :: gs) = g.2.map (fun r => (g.1, r)) ++ rows gs := by simp [rows]
theorem rows_append (a b : List Grp) : rows (a ++ b) = rows a ++ rows b := by simp [rows]
theorem rows_take {gs : List Grp} {e : Nat} {g : Grp} (h : gs[e]? = some g) : rows (gs.take (e + 1)) = rows (gs.take e) ++ g.2.map (fun r => (g.1, r)) := by
  rw [List.take_add_one, h, rows_append]; simp [rows]
theorem rows_split {gs : List Grp} {e : Nat} {g : Grp} (h : gs[e]? = some g) : rows gs = rows (gs.take e) ++ (g.2.map (fun r => (g.1, r)) ++ rows (gs.drop (e + 1))) := by
  obtain ⟨hlt, he⟩ := List.getElem?_eq_some_iff.1 h
  have : gs = gs.take e ++ g :: gs.drop (e + 1) := by
    rw [← he, ← List.drop_eq_getElem_cons hlt, List.take_append_drop]
  conv => lhs; rw [this]
  rw [rows_append, rows_cons]
theorem rows_at {gs : List Grp} {e j : Nat} {g : Grp} {r : Run} (h : gs[e]? = some g) (hj : g.2[j]? = some r) : (rows gs)[(rows (gs.take e)).length + j]? = some (g.1, r) := by
  rw [rows_split h, List.getElem?_append_right (by omega), Nat.add_sub_cancel_left]
  have hlt := (List.getElem?_eq_some_iff.1 hj).1
  rw [List.getElem?_append_left (by simpa using hlt)]
  simp [hj]
theorem rows_room {gs : List Grp} {e : Nat} {g : Grp} (h : gs[e]? = some g) : (rows (gs.take e)).length + g.2.length ≤ (rows gs).length := by
  rw [rows_split h]; simp only [List.length_append, List.length_map]; omega
theorem mem_rows {gs : List Grp} {s : ByteArray} {r : Run} : (s, r) ∈ rows gs ↔ ∃ g ∈ gs, g.1 = s ∧ r ∈ g.2 := by
  simp only [rows, List.mem_flatMap, List.mem_map, Prod.mk.injEq]
  constructor
  · rintro ⟨g, hg, r', hr, h1, h2⟩
    exact ⟨g, hg, h1, h2 ▸ hr⟩
  · rintro ⟨g, hg, h1, h2⟩
    exact ⟨g, hg, r, h2, h1, rfl⟩

theorem step_len (rs : List Run) (c : Int) : (stepR rs c).length ≤ rs.length + 1 := by
  rcases List.eq_nil_or_concat rs with rfl | ⟨l, x, rfl⟩
  · simp [stepR_nil]
  · rw [List.concat_eq_append, stepR_snoc]
    by_cases h : c - 1 ≤ x.2
    · rw [if_pos h]; simp
    · rw [if_neg h]; simp

theorem groups_len : ∀ (ys : List Ent) (rs : List Run), (rows (groups ys rs)).length ≤ ys.length + rs.length
  | [], rs => by simp [groups, rows]
  | [d], rs => by
    have := step_len rs d.2
    simp [groups, rows]; omega
  | d :: d' :: t, rs => by
    unfold groups
    have h0 := step_len rs d.2
    by_cases he : d'.1 = d.1
    · rw [if_pos he]
      have := groups_len (d' :: t) (stepR rs d.2)
      simp only [List.length_cons] at this ⊢; omega
    · rw [if_neg he, rows_cons]
      have := groups_len (d' :: t) []
      simp only [List.length_cons, List.length_nil, List.length_append, List.length_map] at this ⊢; omega

/-- What the groups are, for the program's own check. -/
structure Good (gs : List Grp) : Prop where
  ne : ∀ g ∈ gs, g.1.toList.isEmpty = false
  form : ∀ g ∈ gs, g.2 ≠ [] ∧ Form g.2
  asc : gs.Pairwise (fun a b => cmpB a.1 b.1 < 0)
  max : ∀ g ∈ gs, ∀ r ∈ g.2, r.2 ≤ 18446744073709551615
  size : ∀ g ∈ gs, g.1.size ≤ maxLen
  len : (rows gs).length ≤ 4096

theorem Good.count {gs : List Grp} (h : Good gs) : gs.length ≤ (rows gs).length := by
  have : ∀ gs : List Grp, (∀ g ∈ gs, g.2 ≠ []) → gs.length ≤ (rows gs).length := by
    intro gs
    induction gs with
    | nil => simp
    | cons g t ih =>
      intro h
      have h1 := ih (fun g hg => h g (List.mem_cons_of_mem _ hg))
      have h2 : 0 < g.2.length := List.length_pos_iff.2 (h g (by simp))
      rw [rows_cons]; simp only [List.length_cons, List.length_append, List.length_map]; omega
  exact this gs (fun g hg => (h.form g hg).1)

theorem sortedP_of {ys : List Ent} (h : SortedD ys) : SortedP ys := by
  unfold SortedP
  rw [List.pairwise_iff_getElem]
  intro i j hi hj hij
  exact h i j _ _ hij (List.getElem?_eq_getElem hi) (List.getElem?_eq_getElem hj)

/-- A dot that names an event. -/
def OkDot (d : Ent) : Prop := d.1.toList.isEmpty = false ∧ 1 ≤ d.2 ∧ d.2 ≤ 18446744073709551615

theorem spec_of {ys : List Ent} (h : SortedD ys) (ho : ∀ d ∈ ys, OkDot d) : GSpec ys [] (groups ys []) :=
  groups_spec ys [] (sortedP_of h) (fun d hd => (ho d hd).2.1) ⟨by simp, List.Pairwise.nil⟩ (fun d _ c hc => by obtain ⟨x, hx, _⟩ := hc; simp at hx)

theorem cov_nil (c : Int) : ¬ cov [] c := fun ⟨x, hx, _⟩ => by simp at hx

theorem run_mem {ys : List Ent} {gs : List Grp} (G : GSpec ys [] gs) {s : ByteArray} {r : Run} (h : (s, r) ∈ rows gs) : ∀ c, r.1 ≤ c → c ≤ r.2 → (s, c) ∈ ys := by
  obtain ⟨g, hg, rfl, hr⟩ := mem_rows.1 h
  intro c h1 h2
  rcases (G.cover g hg c).1 ⟨r, hr, h1, h2⟩ with h | ⟨_, h⟩
  · exact h
  · exact absurd h (cov_nil c)

theorem good_of {ys : List Ent} (h : SortedD ys) (ho : ∀ d ∈ ys, OkDot d) (hs : ∀ d ∈ ys, d.1.size ≤ maxLen) (hl : ys.length ≤ 4096) : Good (groups ys []) := by
  have G := spec_of h ho
  refine ⟨fun g hg => ?_, G.form, G.asc, fun g hg r hr => ?_, fun g hg => ?_, ?_⟩
  · obtain ⟨d, hd, he⟩ := G.ids g hg
    rw [← he]; exact (ho d hd).1
  · have := run_mem G (mem_rows.2 ⟨g, hg, rfl, hr⟩) r.2 ((G.form g hg).2.1 r hr).2 (Int.le_refl _)
    exact (ho _ this).2.2
  · obtain ⟨d, hd, he⟩ := G.ids g hg
    rw [← he]; exact hs d hd
  · have := groups_len ys []
    simp only [List.length_nil] at this; omega

/-- Each dot lies in a run of its own. -/
theorem found_of {ys : List Ent} (h : SortedD ys) (ho : ∀ d ∈ ys, OkDot d) {d : Ent} (hd : d ∈ ys) : ∃ (k : Nat) (r : Run), (rows (groups ys []))[k]? = some (d.1, r) ∧ r.1 ≤ d.2 ∧ d.2 ≤ r.2 := by
  have G := spec_of h ho
  obtain ⟨g, hg, he⟩ := G.all d hd
  obtain ⟨r, hr, h1, h2⟩ := (G.cover g hg d.2).2 (.inl (by rw [he]; exact hd))
  obtain ⟨k, hk⟩ := List.mem_iff_getElem?.1 (mem_rows.2 ⟨g, hg, he, hr⟩)
  exact ⟨k, r, hk, h1, h2⟩

/-- Each run holds as many counters as there are distinct dots of its owner in it. -/
theorem count_of {ys zs : List Ent} (hp : ys.Perm zs) (h : SortedD ys) (ho : ∀ d ∈ ys, OkDot d) {k : Nat} {s : ByteArray} {r : Run} (hk : (rows (groups ys []))[k]? = some (s, r)) : ((HT zs s r.1 r.2 zs.length).length : Int) = r.2 - r.1 + 1 := by
  have G := spec_of h ho
  have hm := List.mem_of_getElem? hk
  obtain ⟨g, hg, _, hr⟩ := mem_rows.1 hm
  have hf := (G.form g hg).2.1 r hr
  rw [ht_all (fun c h1 h2 => hp.mem_iff.1 (run_mem G hm c h1 h2))]
  omega

end Go.Proofs.Qxb6608633a
