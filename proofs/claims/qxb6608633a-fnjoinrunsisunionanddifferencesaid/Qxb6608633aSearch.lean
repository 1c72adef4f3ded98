/- slices.BinarySearchFunc over a vector's entries; search. -/
import Derived.Test.Qxb6608633aOrd
import Derived.Test.Qxb6608633aVec
import Derived.Deep.RegionWith
import Derived.Deep.RegionHeld3
import Derived.Deep.DrawnRows
namespace Go.Proofs.Qxb6608633a
open Go.RowKit

/-- The bool at the place i: does the id there equal id? -/
def foundAt (es : List Ent) (id : ByteArray) (i : Nat) : Bool := match es[i]? with | some (s, _) => cmpB s id == 0 | none => false

def SearchRet (w : World) (es : List Ent) (id : ByteArray) (e : Ending) (w' : World) : Prop :=
  ∃ i : Nat, IsLow es id i ∧ e = .returned (.tuple #[.int .i64 i, .bool (foundAt es id i)]) ∧ Below w.heap.size w w'

theorem search1_cells (s t : ByteArray) (n : Int) (w : World) :
    Calls Try.prog 53 #[.agg #[.string s, .int .u64 n], .agg #[.string t]] w fun e w' => e = .returned (.int .i64 (cmpB s t)) ∧ Below w.heap.size w w' ∧ (∀ a v, w.cell? a = some v → w'.cell? a = some v) :=
  (search1_any s t n w).mono fun _ _ ⟨h1, h2⟩ => ⟨h1, h2, fun a _ h => (h2.cell (World.block_lt_of_cell? w a h)).trans h⟩

theorem bs_frame {w wr wr' w' : World} {id : ByteArray} (hbel : Below w.heap.size w wr) (hsz : w.heap.size < wr.heap.size) (hbox : wr.cell? ⟨w.heap.size, 0, none⟩ = some (.string id)) (hb1 : Below wr'.heap.size wr' w') (hd : wr' = wr.drew) :
    w'.cell? ⟨w.heap.size, 0, none⟩ = some (.string id) ∧ Below w.heap.size w w' ∧ w.heap.size < w'.heap.size := by
  subst hd
  have hb2 : Below wr.heap.size wr.drew w' := hb1
  refine ⟨(hb2.cell (p := ⟨w.heap.size, 0, none⟩) hsz).trans hbox, hbel.drew.trans (hb2.mono (by omega)), ?_⟩
  have := hb2.size; simp at this; omega

set_option maxHeartbeats 1000000 in
set_option maxRecDepth 100000 in
theorem bsearch_any (ao : Option Addr) (cap : Nat) (es : List Ent) (id : ByteArray) (w : World) (he : EntsAt w ao es) (hlt0 : ∀ a, ao = some a → a.block < w.heap.size) (hl : es.length ≤ 1048576) (ha : Asc es) :
    Calls Try.prog 52 #[.slice ao es.length cap, .agg #[.string id], .func (.func 53) #[] #[]] w (SearchRet w es id) := by
  have Ha := hidd ha
  clear ha
  go_enter Try.func52, Try.ntmps52
  go_wp2
  go_loopw [9, 10] (fun a b wr => ∃ (i j : Nat), i ≤ j ∧ j ≤ es.length ∧ a = .int .i64 i ∧ b = .int .i64 j ∧ Span es id i j ∧ wr.cell? ⟨w.heap.size, 0, none⟩ = some (.string id) ∧ Below w.heap.size w wr ∧ w.heap.size < wr.heap.size) (fun a b _ => (intOf b - intOf a).toNat)
  case atStart => exact ⟨0, es.length, Nat.zero_le _, Nat.le_refl _, rfl, rfl, span_start es id, by simp, (Below.refl _ _).alloc (Nat.le_refl _) _, by simp⟩
  case round =>
    obtain ⟨i, j, hij, hj, rfl, rfl, hsp, hbox, hbel, hszz⟩ := hrel
    have Hsp := hidd hsp
    clear hsp
    by_cases hlt : i < j
    · obtain ⟨m, hm⟩ : ∃ m, m = (i + j) / 2 := ⟨_, rfl⟩
      have hmi : ((i : Int) + (j : Int)) / 2 = (m : Int) := by omega
      have hm1 : i ≤ m := by omega
      have hm2 : m < j := by omega
      obtain ⟨b', off, s, n, e1, hkk, hc0, hc1⟩ := he.at (k := m) (by omega)
      cases e1
      have hb0 := hlt0 _ rfl
      have hc0' := (hbel.cell (p := ⟨b', off + m * 2, none⟩) hb0).trans hc0
      have hc1' := (hbel.cell (p := ⟨b', off + m * 2 + 1, none⟩) hb0).trans hc1
      have g0 : (0 : Int) ≤ (m : Int) := by omega
      have g1 : (m : Int) < (es.length : Int) := by omega
      clear he hc0 hc1 hlt0 hm
      by_cases h3 : cmpB s id < 0
      · go_wp2
        clear hmi
        go_region_with (go_at_call 53; refine (search1_any _ _ _ _).mono ?_; rintro e w' ⟨rfl, hb1⟩)
        all_goals
          go_wp2
          have R := bs_frame hbel hszz hbox hb1 rfl
          go_roundw
          case rel => exact ⟨m + 1, j, by omega, hj, by go_num, rfl, span_up Ha.out Hsp.out hkk h3, R⟩
          case measure => simp [intOf]; omega
      · have h3' : 0 ≤ cmpB s id := by omega
        go_wp2
        clear hmi
        go_region_with (go_at_call 53; refine (search1_any _ _ _ _).mono ?_; rintro e w' ⟨rfl, hb1⟩)
        all_goals
          go_wp2
          have R := bs_frame hbel hszz hbox hb1 rfl
          go_roundw
          case rel => exact ⟨i, m, by omega, by omega, rfl, rfl, span_down Ha.out Hsp.out hkk h3', R⟩
          case measure => simp [intOf]; omega
    · obtain rfl : i = j := by omega
      have hlow : IsLow es id i := span_end hj Hsp.out
      have Hlow := hidd hlow
      clear hlow
      by_cases hlen : i < es.length
      · obtain ⟨b', off, s, n, e1, hkk, hc0, hc1⟩ := he.at (k := i) (by omega)
        cases e1
        have hb0 := hlt0 _ rfl
        have hc0' := (hbel.cell (p := ⟨b', off + i * 2, none⟩) hb0).trans hc0
        have hc1' := (hbel.cell (p := ⟨b', off + i * 2 + 1, none⟩) hb0).trans hc1
        have g0 : (0 : Int) ≤ (i : Int) := by omega
        have g1 : (i : Int) < (es.length : Int) := by omega
        have g2 : decide ((i : Int) < (es.length : Int)) = true := by simpa using g1
        clear he hc0 hc1 hlt0 
        go_wp2
        go_region_held3 (fun w' => w'.cell? ⟨b', off + i * 2, none⟩ = some (.string s) ∧ w'.cell? ⟨b', off + i * 2 + 1, none⟩ = some (.int .u64 n) ∧ w'.cell? ⟨w.heap.size, 0, none⟩ = some (.string id)) (go_keep)
          (first | (go_at_call 53; refine (search1_cells _ _ _ _).mono ?_; rintro e w' ⟨rfl, hb1, hcc⟩))
        all_goals
          go_wp2
          have R := bs_frame hbel hszz hbox hb1 rfl
          go_ret2
          exact ⟨i, Hlow.out, by simp [foundAt, hkk.out], R.2.1⟩
      · have g2 : decide ((i : Int) < (es.length : Int)) = false := by simp; omega
        clear he hlt0
        go_wp2
        go_quiet (fail)
        go_wp2
        go_ret2
        exact ⟨i, Hlow.out, by simp [foundAt, hlen], below_drewN hbel _⟩

theorem Vec.cell {w : World} {B p : Nat} {es : List Ent} (h : Vec w B p es) : ∃ g cap, w.cell? ⟨p, 0, none⟩ = some (.slice (some ⟨g, 0, none⟩) es.length cap) ∧ g < w.heap.size ∧ p < w.heap.size ∧ EntsAt w (some ⟨g, 0, none⟩) es := by
  obtain ⟨g, cap, xs, h1, h2, h3, h4⟩ := h
  exact ⟨g, cap, cell_of_row w p 0 _ 86 (0, 0) h2, (h3.lt g rfl).2, (Array.getElem?_eq_some_iff.1 h2).1, entsAt_of_own rfl h3 h4⟩

set_option maxHeartbeats 1000000 in
set_option maxRecDepth 100000 in
theorem search_any (B p : Nat) (es : List Ent) (id : ByteArray) (w : World) (hv : Vec w B p es) (hl : es.length ≤ 1048576) (ha : Asc es) :
    Calls Try.prog 42 #[.pointer (some ⟨p, 0, none⟩), .agg #[.string id]] w (SearchRet w es id) := by
  obtain ⟨g, cap, hc, hg, hp, hE⟩ := hv.cell
  have Ha := hidd ha
  have HE : Hid (EntsAt (w.alloc (.cells #[.string id] 30)).drew (some ⟨g, 0, none⟩) es) := hE.below (((Below.refl w.heap.size w).alloc (Nat.le_refl _) _).drew) (fun a h => by cases h; exact hg)
  have hc' : (w.alloc (.cells #[.string id] 30)).cell? ⟨p, 0, none⟩ = some (.slice (some ⟨g, 0, none⟩) es.length cap) := by rw [World.cell?_alloc_past _ _ _ hp]; exact hc
  clear hE hv ha
  go_enter Try.func42, Try.ntmps42
  go_wp2
  go_region_with (go_at_call 52; refine (bsearch_any _ _ es id _ HE.out (fun a h => by cases h; simp; omega) hl Ha.out).mono ?_; rintro e w' ⟨i, hlow, rfl, hb1⟩)
  all_goals
    go_wp2
    go_ret2
    exact ⟨i, hlow, rfl, ((Below.refl w.heap.size w).alloc (Nat.le_refl _) _).drew.trans (hb1.mono (by simp))⟩

end Go.Proofs.Qxb6608633a
