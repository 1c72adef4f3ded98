/- ZZContextOf. -/
import Derived.Test.Qxb6608633aCtxFields
namespace Go.Proofs.Qxb6608633a
open Go.RowKit

/-- ContextOf over zs, its fields handed out. -/
def Ret26 (w : World) (zs : List Ent) (e : Ending) (w' : World) : Prop := ∃ ys, ys.Perm zs ∧ SortedD ys ∧ FieldsRet w (groups ys []) e w'

set_option maxHeartbeats 2000000 in
set_option maxRecDepth 100000 in
theorem ctx26_any (ai an : Addr) (es : List Ent) (w : World) (hs : SplitAt w ai an es) (hl : es.length ≤ 4096) (ho : ∀ d ∈ es, OkDot d) (hm : ∀ d ∈ es, d.1.size ≤ maxLen) :
    Calls Try.prog 26 #[.slice (some ai) es.length es.length, .slice (some an) es.length es.length] w (Ret26 w es) := by
  obtain ⟨gi, gn, rfl, rfl, hgi, hgn, hcell⟩ := hs
  have Ho := hidd ho
  have Hm := hidd hm
  obtain ⟨i0, hi, hz0, hz1, hz2⟩ := info_parts Try.info79
  clear ho hm
  go_enter Try.func26, Try.ntmps26
  go_wp2_with (at_make; refine wpList_make_full _ rfl _ _ 74 rfl w.heap.size 79 i0 _ 2 Try.underlying74 hi hz0 hz1 _ _ _ _ es.length rfl rfl rfl rfl ?c1 ?c2 ?c3 ?_)
  case c1 => rw [hz2]; omega
  case c2 => unfold maxLen; omega
  case c3 => exact Nat.le_refl _
  intro w1 hown hgrow
  have hbel : Below w.heap.size w w1 := (Below.refl _ _).grown hgrow (Nat.le_refl _) (fun k h => by cases h)
  obtain ⟨xs0, hown⟩ : ∃ xs, w1.ownsRow w.heap.size 79 2 (.slice (some ⟨w.heap.size, 0, none⟩) es.length es.length) es.length xs := ⟨_, hown⟩
  have hlen := hown.1
  have hf0 : FlatTo xs0 es 0 := ⟨hlen, fun i _ _ h => absurd h (by omega)⟩
  clear hgrow hlen hi hz0 hz1 hz2
  go_wp2
  go_loopw [12] (fun i wr => ∃ (k : Nat) (xs : List Value), k ≤ es.length ∧ i = .int .i64 k ∧ wr.ownsRow w.heap.size 79 2 (.slice (some ⟨w.heap.size, 0, none⟩) es.length es.length) es.length xs ∧ FlatTo xs es k ∧ Below w.heap.size w wr) (fun i _ => es.length - (intOf i).toNat)
  case atStart => exact ⟨0, xs0, Nat.zero_le _, rfl, hown, hf0, hbel⟩
  case round =>
    clear hown hf0 hbel
    obtain ⟨k, xs, hk, rfl, hown, hfl, hbel⟩ := hrel
    have Hfl := hidd hfl
    have Hown := hidd hown
    by_cases hlt : k < es.length
    · obtain ⟨s, n, hkk⟩ : ∃ s n, Hid (es[k]? = some (s, n)) := ⟨es[k].1, es[k].2, hidd (by simp [hlt])⟩
      obtain ⟨hc0, hc1⟩ := hcell k s n hkk.out
      have hc0' := (hbel.cell (p := ⟨gi, k, none⟩) hgi).trans hc0
      have hc1' := (hbel.cell (p := ⟨gn, k, none⟩) hgn).trans hc1
      obtain ⟨v0, hv0⟩ := cell_of_own hown (k * 2) (by omega)
      obtain ⟨v1, hv1⟩ := cell_of_own hown (k * 2 + 1) (by omega)
      have hf0 := hown.frozenAt (k * 2)
      have hf1 := hown.frozenAt (k * 2 + 1)
      have g0 : (0 : Int) ≤ (k : Int) := by omega
      have g1 : (k : Int) < (es.length : Int) := by omega
      clear hcell hc0 hc1 hown hfl
      go_wp2
      go_region
      all_goals go_wp2
      go_roundw
      case rel => exact ⟨k + 1, _, by omega, by go_num, ((Hown.out.stored _ _).1.stored _ _).1.drew, flatTo_succ Hfl.out hkk, ((hbel.setCell (Nat.le_refl _) _).setCell (Nat.le_refl _) _).drew⟩
      case measure => simp [intOf]; omega
    · obtain rfl : k = es.length := by omega
      have hsz : w.heap.size < wr.heap.size := (hown.lt w.heap.size rfl).2
      have kb := below_self wr (.cells #[.slice (some ⟨w.heap.size, 0, none⟩) es.length es.length] 74)
      have hE : EntsAt (wr.alloc (.cells #[.slice (some ⟨w.heap.size, 0, none⟩) es.length es.length] 74)) (some ⟨w.heap.size, 0, none⟩) es := entsAt_of_own rfl (Hown.out.alloc _) hfl
      have hbx : (wr.alloc (.cells #[.slice (some ⟨w.heap.size, 0, none⟩) es.length es.length] 74)).cell? ⟨wr.heap.size, 0, none⟩ = some (.slice (some ⟨w.heap.size, 0, none⟩) es.length es.length) := by simp
      have H := hidd (contextOf_any wr.heap.size (some ⟨w.heap.size, 0, none⟩) es.length es hl Ho.out (wr.alloc (.cells #[.slice (some ⟨w.heap.size, 0, none⟩) es.length es.length] 74)) (by simp) (fun a ha => by cases ha; simp; omega) hbx hE)
      have hb2 := below_to hbel kb hbel.size
      clear hcell hown hfl hE hbx kb hbel Hfl Hown
      go_wp2_with (go_at_call 46; refine (values_any _ _ _ _).mono ?_; rintro e w' ⟨rfl, rfl⟩)
      generalize wr.alloc (.cells #[.slice (some ⟨w.heap.size, 0, none⟩) es.length es.length] 74) = W at *
      refine H.out.mono ?_
      rintro e w3 ⟨ys, p, T, rfl, hp, hsd, hX, hT, hb3⟩
      have H2 := hidd (fields_any p T (groups ys []) (good_of hsd (fun d hd => Ho.out d (hp.mem_iff.1 hd)) (fun d hd => Hm.out d (hp.mem_iff.1 hd)) (by rw [hp.length_eq]; exact hl)) w3 hX hT)
      have hb4 := below_to hb2 hb3 hb2.size
      have Hp := hidd hp
      have Hsd := hidd hsd
      clear hX hT hp hsd hb2 hb3 H
      go_wp2_with fail
      refine H2.out.mono ?_
      rintro e w4 ⟨a, b, l, h, rfl, ha, hb, hll, hh, hb5⟩
      have HA := hidd ha
      have HB := hidd hb
      have HL := hidd hll
      have HH := hidd hh
      have hb6 := below_to hb4 hb5 hb4.size
      clear ha hb hll hh hb4 hb5 H2
      go_wp2
      refine bodyPost_ret (by simp [results, Try.results26, go_sem]; rfl) rfl ?_
      exact ⟨ys, Hp.out, Hsd.out, _, _, _, _, rfl, HA.out, HB.out, HL.out, HH.out, hb6⟩

end Go.Proofs.Qxb6608633a
