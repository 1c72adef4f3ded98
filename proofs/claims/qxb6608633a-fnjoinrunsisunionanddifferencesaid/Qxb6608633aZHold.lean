/- zzRunsHold. -/
import Derived.Test.Qxb6608633aUniW
namespace Go.Proofs.Qxb6608633a
open Go.RowKit

theorem SlR.at {w : World} {v : Value} {xs : List Run} (h : SlR w v xs) : ∃ ao c, v = .slice ao xs.length c ∧ ∀ (k : Nat) (x : Run), xs[k]? = some x → ∃ g off, ao = some ⟨g, off, none⟩ ∧ w.cell? ⟨g, off + k * 2, none⟩ = some (.int .u64 x.1) ∧ w.cell? ⟨g, off + k * 2 + 1, none⟩ = some (.int .u64 x.2) := by
  obtain ⟨ao, c, h1, _, h3⟩ := h
  refine ⟨ao, c, h1, fun k x hk => ?_⟩
  obtain ⟨g, off, e, hr⟩ := h3 (by intro e; subst e; simp at hk)
  exact ⟨g, off, e, hr k x hk⟩

/-- Where the search stands: the runs before i end ahead of x, those from j on do not. -/
def SpanR (rs : List Run) (x : Int) (i j : Nat) : Prop := (∀ k y, k < i → rs[k]? = some y → y.2 < x) ∧ (∀ k y, j ≤ k → rs[k]? = some y → ¬ y.2 < x)
theorem spanR_up {rs : List Run} {x : Int} {i j m : Nat} {y : Run} (hf : Form rs) (h : SpanR rs x i j) (hm : rs[m]? = some y) (hy : y.2 < x) : SpanR rs x (m + 1) j := by
  refine ⟨fun k z hk hz => ?_, h.2⟩
  by_cases e : k = m
  · subst e; rw [hm] at hz; cases hz; exact hy
  · obtain ⟨l1, e1⟩ := List.getElem?_eq_some_iff.1 hz
    obtain ⟨l2, e2⟩ := List.getElem?_eq_some_iff.1 hm
    have h1 := List.pairwise_iff_getElem.1 hf.2 k m l1 l2 (by omega)
    have h2 := hf.1 y (List.mem_of_getElem? hm)
    rw [e1, e2] at h1
    omega
theorem spanR_down {rs : List Run} {x : Int} {i j m : Nat} {y : Run} (hf : Form rs) (h : SpanR rs x i j) (hm : rs[m]? = some y) (hy : ¬ y.2 < x) : SpanR rs x i m := by
  refine ⟨h.1, fun k z hk hz => ?_⟩
  by_cases e : k = m
  · subst e; rw [hm] at hz; cases hz; exact hy
  · obtain ⟨l1, e1⟩ := List.getElem?_eq_some_iff.1 hz
    obtain ⟨l2, e2⟩ := List.getElem?_eq_some_iff.1 hm
    have h1 := List.pairwise_iff_getElem.1 hf.2 m k l2 l1 (by omega)
    have h2 := hf.1 z (List.mem_of_getElem? hz)
    rw [e1, e2] at h1
    omega
theorem spanR_end {rs : List Run} {x : Int} {i : Nat} (hf : Form rs) (h : SpanR rs x i i) : (∀ y, rs[i]? = some y → (cov rs x ↔ y.1 ≤ x)) ∧ (rs[i]? = none → ¬ cov rs x) := by
  have hc : cov rs x → ∃ k y, rs[k]? = some y ∧ y.1 ≤ x ∧ x ≤ y.2 ∧ i ≤ k := fun ⟨y, hy, a, b⟩ => by
    obtain ⟨k, hk⟩ := List.mem_iff_getElem?.1 hy
    refine ⟨k, y, hk, a, b, ?_⟩
    rcases Nat.lt_or_ge k i with hlt | hge
    · have := h.1 k y hlt hk; omega
    · exact hge
  refine ⟨fun y hy => ⟨fun hx => ?_, fun hx => ⟨y, List.mem_of_getElem? hy, hx, by have := h.2 i y (Nat.le_refl _) hy; omega⟩⟩, fun hn hx => ?_⟩
  · obtain ⟨k, z, hk, a, b, hik⟩ := hc hx
    by_cases e : k = i
    · subst e; rw [hy] at hk; cases hk; exact a
    · obtain ⟨l1, e1⟩ := List.getElem?_eq_some_iff.1 hk
      obtain ⟨l2, e2⟩ := List.getElem?_eq_some_iff.1 hy
      have h1 := List.pairwise_iff_getElem.1 hf.2 i k l2 l1 (by omega)
      have h2 := hf.1 y (List.mem_of_getElem? hy)
      rw [e1, e2] at h1
      omega
  · obtain ⟨k, z, hk, _, _, hik⟩ := hc hx
    have := List.getElem?_eq_none_iff.1 hn
    have := (List.getElem?_eq_some_iff.1 hk).1
    omega

open Classical in
/-- Does x lie in one of the runs? -/
noncomputable def covB (rs : List Run) (x : Int) : Bool := decide (cov rs x)
open Classical in
theorem covB_iff (rs : List Run) (x : Int) : covB rs x = true ↔ cov rs x := by unfold covB; exact decide_eq_true_iff
theorem covB_eq {rs : List Run} {x : Int} {b : Bool} (h : b = true ↔ cov rs x) : covB rs x = b := by
  cases hb : covB rs x with
  | true => have := (covB_iff rs x).1 hb; exact (h.2 this).symm
  | false =>
    cases b with
    | false => rfl
    | true => have := (covB_iff rs x).2 (h.1 rfl); rw [hb] at this; cases this

set_option maxHeartbeats 2000000 in
set_option maxRecDepth 100000 in
theorem zzHold_any (v : Value) (rs : List Run) (x : Int) (w : World) (hs : SlR w v rs) (hf : Form rs) (hl : rs.length ≤ 1000000) :
    Calls Try.prog 72 #[v, .int .u64 x] w fun e w' => e = .returned (.bool (covB rs x)) ∧ w' = w := by
  obtain ⟨ao, c, rfl, hrd⟩ := hs.at
  have Hrd := hidd hrd
  have Hf := hidd hf
  clear hrd hf hs
  go_enter Try.func72, Try.ntmps72
  go_wp2
  go_loop [5, 6] (fun lo hi => ∃ (i j : Nat), i ≤ j ∧ j ≤ rs.length ∧ lo = .int .i64 i ∧ hi = .int .i64 j ∧ SpanR rs x i j) (fun lo hi => (intOf hi).toNat - (intOf lo).toNat)
  case atStart => exact ⟨0, rs.length, Nat.zero_le _, Nat.le_refl _, rfl, rfl, fun k y h => absurd h (by omega), fun k y hk hy => by have := (List.getElem?_eq_some_iff.1 hy).1; omega⟩
  case round =>
    obtain ⟨i, j, hij, hj, rfl, rfl, hsp⟩ := hrel
    have Hsp := hidd hsp
    clear hsp
    by_cases hlt : i < j
    · obtain ⟨d, hd⟩ : ∃ d, (j - i) / 2 = d := ⟨_, rfl⟩
      have hd1 : 2 * d ≤ j - i := by omega
      have hd2 : j - i < 2 * d + 2 := by omega
      have hq : ((j : Int) - (i : Int)).tdiv 2 = (d : Int) := by rw [Int.tdiv_eq_ediv_of_nonneg (by omega)]; omega
      have hml : i + d < rs.length := by omega
      obtain ⟨y, hy⟩ : ∃ y, Hid (rs[i + d]? = some y) := ⟨rs[i + d], hidd (List.getElem?_eq_getElem hml)⟩
      obtain ⟨g, off, rfl, c0, c1⟩ := Hrd.out (i + d) y hy.out
      clear hd
      by_cases hyx : y.2 < x
      · have Hn := hidd (spanR_up Hf.out Hsp.out hy.out hyx)
        go_wp2
        go_round
        case rel => exact ⟨i + d + 1, j, by omega, hj, by go_num, rfl, Hn.out⟩
        case measure => simp [intOf]; omega
      · have Hn := hidd (spanR_down Hf.out Hsp.out hy.out hyx)
        go_wp2
        go_round
        case rel => exact ⟨i, i + d, by omega, by omega, rfl, by go_num, Hn.out⟩
        case measure => simp [intOf]; omega
    · obtain rfl : i = j := by omega
      obtain ⟨h1, h2⟩ := spanR_end Hf.out Hsp.out
      have H1 := hidd h1
      have H2 := hidd h2
      clear h1 h2
      by_cases hi : i < rs.length
      · obtain ⟨y, hy⟩ : ∃ y, Hid (rs[i]? = some y) := ⟨rs[i], hidd (List.getElem?_eq_getElem hi)⟩
        obtain ⟨g, off, rfl, c0, c1⟩ := Hrd.out i y hy.out
        have Hb := hidd (covB_eq (rs := rs) (x := x) (b := decide (y.1 ≤ x)) (by rw [decide_eq_true_iff]; exact (H1.out y hy.out).symm))
        go_wp2
        go_ret
        exact ⟨ret_bool Hb.out.symm, rfl⟩
      · have Hb := hidd (covB_eq (rs := rs) (x := x) (b := false) ⟨fun h => (by cases h), fun h => absurd h (H2.out (List.getElem?_eq_none (by omega)))⟩)
        go_wp2
        go_ret
        exact ⟨ret_bool Hb.out.symm, rfl⟩

end Go.Proofs.Qxb6608633a
