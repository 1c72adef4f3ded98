/- A slice of runs that came in, opened. -/
import Derived.Test.Qxb6608633aLaw6
import Derived.ProofKit
import Derived.OpenShut
import Derived.ShutString
import Derived.ChangeOld
import Derived.Deep.SlicePairs
namespace Go.Proofs.Qxb6608633a
open Go.RowKit
open Go.ChangeShapes Go.WideShapes Go.ChangeAt

theorem Try.cells104R : Try.prog.cellsOf 104 = 2 := by kernel_rfl
theorem Try.cells23R : Try.prog.cellsOf 23 = 1 := by kernel_rfl

theorem plain_of_cellR {w : World} {a : Addr} {v : Value} (h : w.cell? a = some v) : a = ⟨a.block, a.off, none⟩ := by
  unfold World.cell? at h
  cases a with
  | mk b o s =>
    cases s with
    | none => rfl
    | some x =>
      split at h
      · simp at h
      · cases h

theorem add_twoR (b off i : Nat) : ((⟨b, off, none⟩ : Addr).add i) = ⟨b, off + i, none⟩ := by
  unfold Addr.add; split <;> simp_all

/-- What the walks are told of a slice of runs that came in. -/
def RunsIn (w : World) (ao : Option Addr) (len cap : Nat) (rs : List Run) : Prop :=
  len = rs.length ∧ SlR w (.slice ao rs.length cap) rs ∧ (ao = none → rs = [] ∧ cap = 0) ∧ rs.length ≤ maxLen ∧ (∀ x ∈ rs, (0 ≤ x.1 ∧ x.1 ≤ 18446744073709551615) ∧ 0 ≤ x.2 ∧ x.2 ≤ 18446744073709551615)

def numOfR : Value → Int | .int _ n => n | _ => 0

theorem open_runs {H : Type} {enc : TypeId × Value → H} {W : World} {base fuel : Nat} {spare : Nat → Bool} {held : Bool} {ao : Option Addr} {len cap : Nat} {x : DataW H × List MemPlace}
    (h : DataW.trod enc Try.prog W base spare held fuel 59 [.slice ao len cap] = some x) : ∃ rs, RunsIn W ao len cap rs := by
  rcases Deep.open_slice_pairs Try.underlying59 Try.underlying104 Try.cells104R rfl rfl Try.cells23R Try.cells23R h with ⟨hcs, _⟩ | ⟨a, l, c, m, n, V0, V1, D0, D1, P0, P1, hcs, _, hl, hm, hmm, _, hc⟩
  · simp at hcs
    obtain ⟨rfl, rfl, rfl⟩ := hcs
    exact ⟨[], rfl, ⟨_, _, rfl, Nat.le_refl _, fun h => absurd rfl h⟩, fun _ => ⟨rfl, rfl⟩, (by simp), fun e he => (by simp at he)⟩
  · simp at hcs
    obtain ⟨rfl, rfl, rfl⟩ := hcs
    have hlm : len ≤ m := by rw [hmm]; split <;> omega
    have each : ∀ i, i < len → ∃ s n, V0 i = .int .u64 s ∧ V1 i = .int .u64 n ∧ (0 ≤ s ∧ s ≤ 18446744073709551615) ∧ (0 ≤ n ∧ n ≤ 18446744073709551615) := by
      intro i hi
      obtain ⟨_, _, t0, t1⟩ := hc i (by omega)
      obtain ⟨s, e0, _, hs⟩ := DataW.trod_int Try.underlying23 t0
      obtain ⟨k, e1, _, hk⟩ := DataW.trod_int Try.underlying23 t1
      simp at e0 e1
      exact ⟨s, k, e0, e1, ⟨(bounds_u64 hs).1, by have := (bounds_u64 hs).2; omega⟩, (bounds_u64 hk).1, by have := (bounds_u64 hk).2; omega⟩
    obtain ⟨es, hes⟩ : ∃ es : List Run, es = (List.range len).map fun i => (numOfR (V0 i), numOfR (V1 i)) := ⟨_, rfl⟩
    have hlen : es.length = len := by rw [hes]; simp
    have hget : ∀ (i : Nat) (x : Run), es[i]? = some x → i < len ∧ V0 i = .int .u64 x.1 ∧ V1 i = .int .u64 x.2 := by
      intro i x he
      have hi : i < len := by have := (List.getElem?_eq_some_iff.1 he).1; omega
      obtain ⟨s', k', h0, h1, _, _⟩ := each i hi
      rw [hes, List.getElem?_map, List.getElem?_range hi] at he
      simp [h0, h1, numOfR] at he
      subst he
      exact ⟨hi, h0, h1⟩
    have hmem : ∀ e ∈ es, (0 ≤ e.1 ∧ e.1 ≤ 18446744073709551615) ∧ 0 ≤ e.2 ∧ e.2 ≤ 18446744073709551615 := by
      intro e he
      rw [hes] at he
      simp at he
      obtain ⟨i, hi, rfl⟩ := he
      obtain ⟨s', k', h0, h1, h2, h3⟩ := each i hi
      simp [h0, h1, numOfR]
      exact ⟨h2, h3⟩
    refine ⟨es, hlen.symm, ⟨_, _, rfl, by omega, fun h0 => ?_⟩, fun h => (by cases h), (by omega), hmem⟩
    have hpos : 0 < len := by rw [← hlen]; exact List.length_pos_iff.2 h0
    have hc0 := (hc 0 (by omega)).1
    have hp := plain_of_cellR hc0
    have ha : a = ⟨a.block, a.off, none⟩ := by simpa [Addr.add] using hp
    refine ⟨a.block, a.off, by rw [← ha], fun i y he => ?_⟩
    obtain ⟨hi, e0, e1⟩ := hget i y he
    obtain ⟨c0, c1, _, _⟩ := hc i (by omega)
    rw [ha, add_twoR] at c0 c1
    rw [e0] at c0
    rw [e1] at c1
    exact ⟨c0, by simpa [Nat.add_assoc] using c1⟩

end Go.Proofs.Qxb6608633a
