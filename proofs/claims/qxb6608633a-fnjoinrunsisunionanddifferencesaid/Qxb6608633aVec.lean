/- Vectors: ZZNewVector, search, Raise. -/
import Derived.Test.Qxb6608633aMake
import Derived.RegionTactic
import Derived.BigRegion
namespace Go.Proofs.Qxb6608633a
open Go.RowKit

/-- Block p holds a Vector whose entries are es; its two blocks lie from B on. -/
def Vec (w : World) (B p : Nat) (es : List Ent) : Prop :=
  ∃ g cap xs, B ≤ p ∧ w.heap[p]? = some (.cells #[.slice (some ⟨g, 0, none⟩) es.length cap] 86 (0, 0)) ∧ w.ownsRow B 84 2 (.slice (some ⟨g, 0, none⟩) es.length cap) es.length xs ∧ FlatTo xs es es.length

def VecRet (w : World) (es : List Ent) (e : Ending) (w' : World) : Prop :=
  ∃ p, e = .returned (.pointer (some ⟨p, 0, none⟩)) ∧ Vec w' w.heap.size p es ∧ Below w.heap.size w w'

theorem Try.info84 : (Try.prog.info? 84).map (fun i => (i.zero, i.size, i.bytes)) = some (some (.agg #[.string ByteArray.empty, .int .u64 0]), 2, 24) := by kernel_rfl

theorem own_alike {w w' : World} {b e size : Nat} {v : Value} {n : Nat} {xs : List Value} (h : w.ownsRow b e size v n xs) (hh : w'.heap = w.heap) : w'.ownsRow b e size v n xs := by
  unfold World.ownsRow; rw [hh]; exact h

set_option maxHeartbeats 1000000 in
set_option maxRecDepth 100000 in
theorem newVector_any (ai an : Addr) (es : List Ent) (w : World) (hs : SplitAt w ai an es) (hl : es.length ≤ 1048576) :
    Calls Try.prog 13 #[.slice (some ai) es.length es.length, .slice (some an) es.length es.length] w (VecRet w es) := by
  obtain ⟨gi, gn, rfl, rfl, hgi, hgn, hcell⟩ := hs
  obtain ⟨i0, hi, hz0, hz1, hz2⟩ := info_parts Try.info84
  go_enter Try.func13, Try.ntmps13
  go_wp2_with (at_make; refine wpList_make_full _ rfl _ _ 82 rfl w.heap.size 84 i0 _ 2 Try.underlying82 hi hz0 hz1 _ _ _ _ es.length rfl rfl rfl rfl ?c1 ?c2 ?c3 ?_)
  case c1 => rw [hz2]; omega
  case c2 => unfold maxLen; omega
  case c3 => exact Nat.le_refl _
  intro w1 hown hgrow
  have hbel : Below w.heap.size w w1 := (Below.refl _ _).grown hgrow (Nat.le_refl _) (fun k h => by cases h)
  obtain ⟨xs0, hown⟩ : ∃ xs, w1.ownsRow w.heap.size 84 2 (.slice (some ⟨w.heap.size, 0, none⟩) es.length es.length) es.length xs := ⟨_, hown⟩
  have hlen := hown.1
  have hf0 : FlatTo xs0 es 0 := ⟨hlen, fun i _ _ h => absurd h (by omega)⟩
  clear hgrow hlen hi hz0 hz1 hz2
  go_wp2
  go_loopw [6] (fun i wr => ∃ (k : Nat) (xs : List Value), k ≤ es.length ∧ i = .int .i64 k ∧ wr.ownsRow w.heap.size 84 2 (.slice (some ⟨w.heap.size, 0, none⟩) es.length es.length) es.length xs ∧ FlatTo xs es k ∧ Below w.heap.size w wr) (fun i _ => es.length - (intOf i).toNat)
  case atStart => exact ⟨0, xs0, Nat.zero_le _, rfl, hown, hf0, hbel⟩
  case round =>
    clear hown hf0 hbel
    obtain ⟨k, xs, hk, rfl, hown, hfl, hbel⟩ := hrel
    have Hfl := hidd hfl
    have Hown := hidd hown
    by_cases hlt : k < es.length
    · obtain ⟨s, n, hkk⟩ : ∃ s n, Hid (es[k]? = some (s, n)) := ⟨es[k].1, es[k].2, hidd (by simp [hlt])⟩
      obtain ⟨hc0, hc1⟩ := hcell k s n hkk.out
      have hc0' := (hbel.cell (p := ⟨gi, k, none⟩) hgi).trans hc0
      have hc1' := (hbel.cell (p := ⟨gn, k, none⟩) hgn).trans hc1
      obtain ⟨v0, hv0⟩ := cell_of_own hown (k * 2) (by omega)
      obtain ⟨v1, hv1⟩ := cell_of_own hown (k * 2 + 1) (by omega)
      have hf0 := hown.frozenAt (k * 2)
      have hf1 := hown.frozenAt (k * 2 + 1)
      have g0 : (0 : Int) ≤ (k : Int) := by omega
      have g1 : (k : Int) < (es.length : Int) := by omega
      clear hcell hc0 hc1 hown hfl
      go_wp2
      go_region
      all_goals go_wp2
      go_roundw
      case rel => exact ⟨k + 1, _, by omega, by go_num, ((Hown.out.stored _ _).1.stored _ _).1.drew, flatTo_succ Hfl.out hkk, ((hbel.setCell (Nat.le_refl _) _).setCell (Nat.le_refl _) _).drew⟩
      case measure => simp [intOf]; omega
    · obtain rfl : k = es.length := by omega
      have hsz : w.heap.size < wr.heap.size := (hown.lt w.heap.size rfl).2
      clear hcell hown hfl
      go_wp2
      go_ret
      exact ⟨wr.heap.size, rfl, ⟨w.heap.size, es.length, xs, by omega, heap_alloc_new _ _, Hown.out.alloc _, Hfl.out⟩, hbel.alloc (by omega) _⟩

end Go.Proofs.Qxb6608633a
