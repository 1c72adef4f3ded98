/- A slice of dots that came in, opened. -/
import Derived.Test.Qxb6608633aLaw5
import Derived.ProofKit
import Derived.OpenShut
import Derived.ShutString
import Derived.ChangeOld
import Derived.Deep.SlicePairs
namespace Go.Proofs.Qxb6608633a
open Go.RowKit Go.ChangeShapes Go.WideShapes Go.ChangeAt

theorem Try.cells51D : Try.prog.cellsOf 51 = 2 := by kernel_rfl
theorem Try.cells9D : Try.prog.cellsOf 9 = 1 := by kernel_rfl
theorem Try.cells23D : Try.prog.cellsOf 23 = 1 := by kernel_rfl

theorem plain_of_cellD {w : World} {a : Addr} {v : Value} (h : w.cell? a = some v) : a = ⟨a.block, a.off, none⟩ := by
  unfold World.cell? at h
  cases a with
  | mk b o s =>
    cases s with
    | none => rfl
    | some x =>
      split at h
      · simp at h
      · cases h

theorem add_twoD (b off i : Nat) : ((⟨b, off, none⟩ : Addr).add i) = ⟨b, off + i, none⟩ := by
  unfold Addr.add; split <;> simp_all

/-- What the walks are told of a slice of dots that came in. -/
def DotsIn (w : World) (ao : Option Addr) (len cap : Nat) (es : List Ent) : Prop :=
  len = es.length ∧ EntsAt w ao es ∧ (ao = none → es = [] ∧ cap = 0) ∧ (∀ x, ao = some x → es ≠ [] → x.block < w.heap.size) ∧ es.length ≤ maxLen ∧ (∀ e ∈ es, e.1.size ≤ maxLen) ∧ (∀ e ∈ es, 0 ≤ e.2 ∧ e.2 ≤ 18446744073709551615)

def strOfD : Value → ByteArray | .string s => s | _ => ByteArray.empty
def numOfD : Value → Int | .int _ n => n | _ => 0

theorem open_dots {H : Type} {enc : TypeId × Value → H} {W : World} {base fuel : Nat} {spare : Nat → Bool} {held : Bool} {ao : Option Addr} {len cap : Nat} {x : DataW H × List MemPlace}
    (h : DataW.trod enc Try.prog W base spare held fuel 48 [.slice ao len cap] = some x) : ∃ es, DotsIn W ao len cap es := by
  rcases Deep.open_slice_pairs Try.underlying48 Try.underlying51 Try.cells51D rfl rfl Try.cells9D Try.cells23D h with ⟨hcs, _⟩ | ⟨a, l, c, m, n, V0, V1, D0, D1, P0, P1, hcs, _, hl, hm, hmm, _, hc⟩
  · simp at hcs
    obtain ⟨rfl, rfl, rfl⟩ := hcs
    exact ⟨[], rfl, .inl rfl, fun _ => ⟨rfl, rfl⟩, fun x h => (by cases h), (by simp), fun e he => (by simp at he), fun e he => (by simp at he)⟩
  · simp at hcs
    obtain ⟨rfl, rfl, rfl⟩ := hcs
    have hlm : len ≤ m := by rw [hmm]; split <;> omega
    have each : ∀ i, i < len → ∃ s n, V0 i = .string s ∧ V1 i = .int .u64 n ∧ s.size ≤ maxLen ∧ (0 ≤ n ∧ n ≤ 18446744073709551615) := by
      intro i hi
      obtain ⟨_, _, t0, t1⟩ := hc i (by omega)
      obtain ⟨s, e0, _, hs⟩ := DataW.trod_string Try.underlying9 t0
      obtain ⟨k, e1, _, hk⟩ := DataW.trod_int Try.underlying23 t1
      simp at e0 e1
      exact ⟨s, k, e0, e1, hs, (bounds_u64 hk).1, by have := (bounds_u64 hk).2; omega⟩
    obtain ⟨es, hes⟩ : ∃ es : List Ent, es = (List.range len).map fun i => (strOfD (V0 i), numOfD (V1 i)) := ⟨_, rfl⟩
    have hlen : es.length = len := by rw [hes]; simp
    have hget : ∀ (i : Nat) (s : ByteArray) (k : Int), es[i]? = some (s, k) → i < len ∧ V0 i = .string s ∧ V1 i = .int .u64 k := by
      intro i s k he
      have hi : i < len := by have := (List.getElem?_eq_some_iff.1 he).1; omega
      obtain ⟨s', k', h0, h1, _, _⟩ := each i hi
      rw [hes, List.getElem?_map, List.getElem?_range hi] at he
      simp [h0, h1, strOfD, numOfD] at he
      obtain ⟨rfl, rfl⟩ := he
      exact ⟨hi, h0, h1⟩
    have hmem : ∀ e ∈ es, e.1.size ≤ maxLen ∧ (0 ≤ e.2 ∧ e.2 ≤ 18446744073709551615) := by
      intro e he
      rw [hes] at he
      simp at he
      obtain ⟨i, hi, rfl⟩ := he
      obtain ⟨s', k', h0, h1, h2, h3⟩ := each i hi
      simp [h0, h1, strOfD, numOfD]
      exact ⟨h2, h3⟩
    refine ⟨es, hlen.symm, ?_, fun h => (by cases h), fun x hx hne => ?_, (by omega), fun e he => (hmem e he).1, fun e he => (hmem e he).2⟩
    · by_cases h0 : es = []
      · exact .inl h0
      · have hpos : 0 < len := by rw [← hlen]; exact List.length_pos_iff.2 h0
        have hc0 := (hc 0 (by omega)).1
        have hp := plain_of_cellD hc0
        have ha : a = ⟨a.block, a.off, none⟩ := by simpa [Addr.add] using hp
        refine .inr ⟨a.block, a.off, by rw [← ha], fun i s k he => ?_⟩
        obtain ⟨hi, e0, e1⟩ := hget i s k he
        obtain ⟨c0, c1, _, _⟩ := hc i (by omega)
        rw [ha, add_twoD] at c0 c1
        rw [e0] at c0
        rw [e1] at c1
        exact ⟨c0, by simpa [Nat.add_assoc] using c1⟩
    · cases hx
      have hpos : 0 < len := by rw [← hlen]; exact List.length_pos_iff.2 hne
      have hc0 := (hc 0 (by omega)).1
      have := World.block_lt_of_cell? W _ hc0
      simpa [Addr.add] using this

end Go.Proofs.Qxb6608633a
