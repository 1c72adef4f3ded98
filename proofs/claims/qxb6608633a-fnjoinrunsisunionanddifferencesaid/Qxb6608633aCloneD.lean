/- zzCloneDots, zzBytes over dots. -/
import Derived.Test.Qxb6608633aPlain2
namespace Go.Proofs.Qxb6608633a
open Go.RowKit

theorem Try.info51 : (Try.prog.info? 51).map (fun i => (i.zero, i.size, i.bytes)) = some (some (.agg #[.string ByteArray.empty, .int .u64 0]), 2, 24) := by kernel_rfl

set_option maxHeartbeats 1000000 in
set_option maxRecDepth 100000 in
theorem cloneD_any (ao : Option Addr) (cap : Nat) (es : List Ent) (w : World) (he : EntsAt w ao es) (hao : ao = none → es = [] ∧ cap = 0) (hlt0 : ∀ a, ao = some a → es ≠ [] → a.block < w.heap.size) (hl : es.length ≤ 1048576) :
    Calls Try.prog 25 #[.slice ao es.length cap] w (CloneRet w es) := by
  have heq := fun wx => Lib.run_eql_slice_nil (P := Try.prog) wx 48 51 ao es.length cap 0 0 Try.underlying48
  cases hao' : ao with
  | none =>
    obtain ⟨rfl, rfl⟩ := hao hao'
    subst hao'
    simp only [Option.isNone_none, List.length_nil] at heq
    simp only [List.length_nil]
    go_enter Try.func25, Try.ntmps25
    go_wp2
    go_ret
    exact ⟨none, 0, rfl, .inl rfl, fun a h => (by cases h), Below.refl _ _⟩
  | some a0 =>
    subst hao'
    have hlt1 : es ≠ [] → a0.block < w.heap.size := hlt0 a0 rfl
    clear hao hlt0
    simp only [Option.isNone_some] at heq
    obtain ⟨i0, hi, hz0, hz1, hz2⟩ := info_parts Try.info51
    go_enter Try.func25, Try.ntmps25
    go_wp2_with (at_make; refine wpList_make_full _ rfl _ _ 48 rfl w.heap.size 51 i0 _ 2 Try.underlying48 hi hz0 hz1 _ _ _ _ es.length rfl rfl rfl rfl ?c1 ?c2 ?c3 ?_)
    case c1 => rw [hz2]; omega
    case c2 => unfold maxLen; omega
    case c3 => exact Nat.le_refl _
    intro w1 hown hgrow
    have hbel : Below w.heap.size w w1 := (Below.refl _ _).grown hgrow (Nat.le_refl _) (fun k h => by cases h)
    obtain ⟨xs0, hown⟩ : ∃ xs, w1.ownsRow w.heap.size 51 2 (.slice (some ⟨w.heap.size, 0, none⟩) es.length es.length) es.length xs := ⟨_, hown⟩
    have hlen := hown.1
    have hf0 : FlatTo xs0 es 0 := ⟨hlen, fun i _ _ h => absurd h (by omega)⟩
    clear hgrow hlen hi hz0 hz1 hz2
    go_wp2
    go_loopw [4] (fun i wr => ∃ (k : Nat) (xs : List Value), k ≤ es.length ∧ i = .int .i64 k ∧ wr.ownsRow w.heap.size 51 2 (.slice (some ⟨w.heap.size, 0, none⟩) es.length es.length) es.length xs ∧ FlatTo xs es k ∧ Below w.heap.size w wr) (fun i _ => es.length - (intOf i).toNat)
    case atStart => exact ⟨0, xs0, Nat.zero_le _, rfl, hown, hf0, hbel⟩
    case round =>
      clear hown hf0 hbel
      obtain ⟨k, xs, hk, rfl, hown, hfl, hbel⟩ := hrel
      have Hfl : Hid (FlatTo xs es k) := hfl
      have Hown : Hid (wr.ownsRow _ _ _ _ _ _) := hown
      by_cases hlt : k < es.length
      · have hne : es ≠ [] := by intro h; subst h; simp at hlt
        have hb0 := hlt1 hne
        obtain ⟨b', off, s, n, e1, hkk, hc0, hc1⟩ := he.at hlt
        cases e1
        have hc0' := (hbel.cell (p := ⟨b', off + k * 2, none⟩) hb0).trans hc0
        have hc1' := (hbel.cell (p := ⟨b', off + k * 2 + 1, none⟩) hb0).trans hc1
        obtain ⟨v0, hv0⟩ := cell_of_own hown (k * 2) (by omega)
        obtain ⟨v1, hv1⟩ := cell_of_own hown (k * 2 + 1) (by omega)
        have hf0 := hown.frozenAt (k * 2)
        have hf1 := hown.frozenAt (k * 2 + 1)
        clear he hc0 hc1 hown hfl hlt1 hne heq
        go_wp2
        go_roundw
        case rel => exact ⟨k + 1, _, by omega, by go_num, ((Hown.out.stored _ _).1.stored _ _).1, flatTo_succ Hfl.out hkk, (hbel.setCell (Nat.le_refl _) _).setCell (Nat.le_refl _) _⟩
        case measure => simp [intOf]; omega
      · obtain rfl : k = es.length := by omega
        have hE : EntsAt wr (some ⟨w.heap.size, 0, none⟩) es := entsAt_of_own rfl hown hfl
        have hsz : w.heap.size < wr.heap.size := (hown.lt w.heap.size rfl).2
        have HE := (show Hid _ from hE)
        clear hE he heq hlt1 hown hfl
        go_wp2
        go_ret
        exact ⟨some ⟨w.heap.size, 0, none⟩, es.length, rfl, HE.out, fun a h => (by cases h; exact hsz), hbel⟩


def Small24 (es : List Ent) : Prop := es.length ≤ 1048576 ∧ Short es

set_option maxHeartbeats 1000000 in
theorem bytes24_any (ao : Option Addr) (cap : Nat) (es : List Ent) (w : World) (he : EntsAt w ao es) (hl : es.length ≤ maxLen) (hsz : ∀ e ∈ es, e.1.size ≤ maxLen) :
    Calls Try.prog 24 #[.slice ao es.length cap] w (RetB w (Small24 es)) := by
  unfold maxLen at hl hsz
  by_cases h1 : 1048576 < es.length
  · go_enter Try.func24, Try.ntmps24
    go_wp2
    go_ret
    exact ⟨false, rfl, rfl, fun h => by cases h⟩
  · go_enter Try.func24, Try.ntmps24
    go_wp2
    go_loop [3, 4] (fun z i => ∃ (k : Nat) (n : Int), k ≤ es.length ∧ i = .int .i64 k ∧ z = .int .i64 n ∧ 0 ≤ n ∧ n ≤ 1048576 ∧ Short (es.take k)) (fun _ i => es.length - (intOf i).toNat)
    case atStart => exact ⟨0, _, Nat.zero_le _, rfl, rfl, by omega, by omega, by intro e he; simp at he⟩
    case round =>
      obtain ⟨k, z, hk, rfl, rfl, hz0, hz1, hsh⟩ := hrel
      by_cases hlt : k < es.length
      · obtain ⟨b', off, s, n, rfl, hkk, hc0, hc1⟩ := he.at hlt
        have hss : s.size ≤ 9223372036854775807 := hsz (s, n) (List.mem_of_getElem? hkk.out)
        clear he hsz
        by_cases h2 : (1048576 : Int) < (s.size : Int)
        · go_wp2
          go_ret
          exact ⟨false, rfl, rfl, fun h => by cases h⟩
        · by_cases h3 : (1048576 : Int) < z + (s.size : Int)
          · go_wp2
            go_ret
            exact ⟨false, rfl, rfl, fun h => by cases h⟩
          · go_wp2
            go_round
            case rel => exact ⟨k + 1, _, by omega, by go_num, rfl, by omega, by omega, short_snoc hsh hkk (by omega)⟩
            case measure => simp [intOf]; omega
      · have hfull : Short es := by rwa [List.take_of_length_le (by omega)] at hsh
        clear he hsz
        go_wp2
        go_ret
        exact ⟨true, rfl, rfl, fun _ => And.intro (by omega) hfull⟩

end Go.Proofs.Qxb6608633a
