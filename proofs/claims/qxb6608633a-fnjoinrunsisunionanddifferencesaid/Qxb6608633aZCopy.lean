/- zzCloneRuns, zzSplitRuns. -/
import Derived.Test.Qxb6608633aZForm
import Derived.Test.Qxb6608633aCtxFields
namespace Go.Proofs.Qxb6608633a
open Go.RowKit

/-- The cells xs hold the first k runs of rs, two cells each; there is room for all. -/
def RunsTo (xs : List Value) (rs : List Run) (k : Nat) : Prop :=
  xs.length = rs.length * 2 ∧ ∀ (i : Nat) (x : Run), i < k → rs[i]? = some x → xs[i * 2]? = some (.int .u64 x.1) ∧ xs[i * 2 + 1]? = some (.int .u64 x.2)
theorem runsTo_succ {xs : List Value} {rs : List Run} {k : Nat} {x : Run} (h : RunsTo xs rs k) (hk : rs[k]? = some x) : RunsTo ((xs.set (k * 2) (.int .u64 x.1)).set (k * 2 + 1) (.int .u64 x.2)) rs (k + 1) := by
  obtain ⟨hlt, _⟩ := List.getElem?_eq_some_iff.1 hk
  refine ⟨by simpa using h.1, fun i y hi he => ?_⟩
  have hl := h.1
  by_cases hik : i = k
  · subst hik; rw [hk] at he; cases he
    rw [List.getElem?_set_ne (by omega), List.getElem?_set_self (by omega), List.getElem?_set_self (by simp; omega)]
    exact ⟨rfl, rfl⟩
  · rw [List.getElem?_set_ne (by omega), List.getElem?_set_ne (by omega), List.getElem?_set_ne (by omega), List.getElem?_set_ne (by omega)]
    exact h.2 i y (by omega) he
theorem slR_to {w : World} {B e g cap : Nat} {xs : List Value} {rs : List Run} (h : w.ownsRow B e 2 (.slice (some ⟨g, 0, none⟩) rs.length cap) rs.length xs) (hf : RunsTo xs rs rs.length) : SlR w (.slice (some ⟨g, 0, none⟩) rs.length cap) rs := by
  refine ⟨_, cap, rfl, own_cap h, fun _ => ⟨g, 0, rfl, fun i x hi => ?_⟩⟩
  obtain ⟨hlt, _⟩ := List.getElem?_eq_some_iff.1 hi
  have := hf.2 i x hlt hi
  simp only [Nat.zero_add]
  rw [h.cellAt (i * 2) (by omega), h.cellAt (i * 2 + 1) (by omega)]
  exact this

theorem Try.info104 : (Try.prog.info? 104).map (fun i => (i.zero, i.size, i.bytes)) = some (some (.agg #[.int .u64 0, .int .u64 0]), 2, 16) := by kernel_rfl

def SlRet (w : World) (rs : List Run) (e : Ending) (w' : World) : Prop := ∃ v, e = .returned v ∧ SlR w' v rs ∧ Below w.heap.size w w'

set_option maxHeartbeats 1000000 in
set_option maxRecDepth 100000 in
theorem clone30 (ao : Option Addr) (cap : Nat) (rs : List Run) (w : World) (hs : SlR w (.slice ao rs.length cap) rs) (hao : ao = none → rs = [] ∧ cap = 0) (hl : rs.length ≤ 1048576) :
    Calls Try.prog 30 #[.slice ao rs.length cap] w (SlRet w rs) := by
  have heq := fun wx => Lib.run_eql_slice_nil (P := Try.prog) wx 59 104 ao rs.length cap 0 0 Try.underlying59
  cases hao' : ao with
  | none =>
    obtain ⟨rfl, rfl⟩ := hao hao'
    subst hao'
    simp only [Option.isNone_none, List.length_nil] at heq
    simp only [List.length_nil]
    go_enter Try.func30, Try.ntmps30
    go_wp2
    go_ret
    exact ⟨_, rfl, ⟨none, 0, rfl, Nat.le_refl _, fun h => absurd rfl h⟩, Below.refl _ _⟩
  | some a0 =>
    subst hao'
    obtain ⟨ao', c', hv, hrd⟩ := hs.at
    cases hv
    have Hrd := hidd hrd
    clear hao hs hrd
    simp only [Option.isNone_some] at heq
    obtain ⟨i0, hi, hz0, hz1, hz2⟩ := info_parts Try.info104
    go_enter Try.func30, Try.ntmps30
    go_wp2_with (at_make; refine wpList_make_full _ rfl _ _ 59 rfl w.heap.size 104 i0 _ 2 Try.underlying59 hi hz0 hz1 _ _ _ _ rs.length rfl rfl rfl rfl ?c1 ?c2 ?c3 ?_)
    case c1 => rw [hz2]; omega
    case c2 => unfold maxLen; omega
    case c3 => exact Nat.le_refl _
    intro w1 hown hgrow
    have hbel : Below w.heap.size w w1 := (Below.refl _ _).grown hgrow (Nat.le_refl _) (fun k h => by cases h)
    obtain ⟨xs0, hown⟩ : ∃ xs, w1.ownsRow w.heap.size 104 2 (.slice (some ⟨w.heap.size, 0, none⟩) rs.length rs.length) rs.length xs := ⟨_, hown⟩
    have hf0 : RunsTo xs0 rs 0 := ⟨hown.1, fun i _ h => absurd h (by omega)⟩
    have Hown0 := hidd hown
    have Hf0 := hidd hf0
    clear hgrow hi hz0 hz1 hz2 hown hf0
    go_wp2
    go_loopw [4] (fun i wr => ∃ (k : Nat) (xs : List Value), k ≤ rs.length ∧ i = .int .i64 k ∧ wr.ownsRow w.heap.size 104 2 (.slice (some ⟨w.heap.size, 0, none⟩) rs.length rs.length) rs.length xs ∧ RunsTo xs rs k ∧ Below w.heap.size w wr) (fun i _ => rs.length - (intOf i).toNat)
    case atStart => exact ⟨0, xs0, Nat.zero_le _, rfl, Hown0.out, Hf0.out, hbel⟩
    case round =>
      clear Hown0 Hf0 hbel
      obtain ⟨k, xs, hk, rfl, hown, hfl, hbel⟩ := hrel
      have Hfl := hidd hfl
      have Hown := hidd hown
      by_cases hlt : k < rs.length
      · obtain ⟨x, hx⟩ : ∃ x, Hid (rs[k]? = some x) := ⟨rs[k], hidd (List.getElem?_eq_getElem hlt)⟩
        obtain ⟨g, off, e1, c0', c1'⟩ := Hrd.out k x hx.out
        cases e1
        have c0 := cell_to hbel c0'
        have c1 := cell_to hbel c1'
        obtain ⟨v0, hv0⟩ := cell_of_own hown (k * 2) (by omega)
        obtain ⟨v1, hv1⟩ := cell_of_own hown (k * 2 + 1) (by omega)
        have hf0 := hown.frozenAt (k * 2)
        have hf1 := hown.frozenAt (k * 2 + 1)
        clear c0' c1' hown hfl heq
        go_wp2
        go_roundw
        case rel => exact ⟨k + 1, _, by omega, by go_num, ((Hown.out.stored _ _).1.stored _ _).1, runsTo_succ Hfl.out hx.out, (hbel.setCell (Nat.le_refl _) _).setCell (Nat.le_refl _) _⟩
        case measure => simp [intOf]; omega
      · obtain rfl : k = rs.length := by omega
        have HE := hidd (slR_to hown hfl)
        clear hown hfl heq
        go_wp2
        go_ret
        exact ⟨_, rfl, HE.out, hbel⟩

/-- Two slices hold the runs' two ends. -/
def EndsAt (w : World) (a b : Value) (rs : List Run) : Prop := SlS w a (loR rs) ∧ SlS w b (hiR rs)
def EndsRet (w : World) (rs : List Run) (e : Ending) (w' : World) : Prop := ∃ a b, e = .returned (.tuple #[a, b]) ∧ EndsAt w' a b rs ∧ Below w.heap.size w w'

def TwoTo (xs ns : List Value) (rs : List Run) (k : Nat) : Prop :=
  xs.length = rs.length ∧ ns.length = rs.length ∧ ∀ (i : Nat) (x : Run), i < k → rs[i]? = some x → xs[i]? = some (.int .u64 x.1) ∧ ns[i]? = some (.int .u64 x.2)
theorem twoTo_succ {xs ns : List Value} {rs : List Run} {k : Nat} {x : Run} (h : TwoTo xs ns rs k) (hk : rs[k]? = some x) : TwoTo (xs.set k (.int .u64 x.1)) (ns.set k (.int .u64 x.2)) rs (k + 1) := by
  obtain ⟨hlt, _⟩ := List.getElem?_eq_some_iff.1 hk
  refine ⟨by simpa using h.1, by simpa using h.2.1, fun i y hi he => ?_⟩
  have hl := h.1
  have hl2 := h.2.1
  by_cases hik : i = k
  · subst hik; rw [hk] at he; cases he
    rw [List.getElem?_set_self (by omega), List.getElem?_set_self (by omega)]
    exact ⟨rfl, rfl⟩
  · rw [List.getElem?_set_ne (by omega), List.getElem?_set_ne (by omega)]
    exact h.2.2 i y (by omega) he
theorem twoTo_all {xs ns : List Value} {rs : List Run} (h : TwoTo xs ns rs rs.length) : xs = loR rs ∧ ns = hiR rs := by
  constructor
  · refine List.ext_getElem? fun i => ?_
    by_cases hi : i < rs.length
    · obtain ⟨x, hx⟩ : ∃ x, rs[i]? = some x := ⟨_, List.getElem?_eq_getElem hi⟩
      rw [(h.2.2 i x hi hx).1]; simp [loR, hx]
    · rw [List.getElem?_eq_none (by rw [h.1]; omega), List.getElem?_eq_none (by simp [loR]; omega)]
  · refine List.ext_getElem? fun i => ?_
    by_cases hi : i < rs.length
    · obtain ⟨x, hx⟩ : ∃ x, rs[i]? = some x := ⟨_, List.getElem?_eq_getElem hi⟩
      rw [(h.2.2 i x hi hx).2]; simp [hiR, hx]
    · rw [List.getElem?_eq_none (by rw [h.2.1]; omega), List.getElem?_eq_none (by simp [hiR]; omega)]

set_option maxHeartbeats 1000000 in
set_option maxRecDepth 100000 in
theorem split31 (v : Value) (rs : List Run) (w : World) (hs : SlR w v rs) (hl : rs.length ≤ 1048576) :
    Calls Try.prog 31 #[v] w (EndsRet w rs) := by
  obtain ⟨ao, c, rfl, hrd⟩ := hs.at
  have Hrd := hidd hrd
  clear hrd hs
  obtain ⟨i23, gi, gz0, gz1, gz2⟩ := info_parts Try.info23
  go_enter Try.func31, Try.ntmps31
  go_wp2_with (at_make; refine wpList_make_full _ rfl _ _ 33 rfl w.heap.size 23 i23 _ 1 Try.underlying33 gi gz0 gz1 _ _ _ _ rs.length rfl rfl rfl rfl ?c1 ?c2 ?c3 ?_)
  case c1 => rw [gz2]; omega
  case c2 => unfold maxLen; omega
  case c3 => exact Nat.le_refl _
  intro w1 hown hgrow
  have hbel : Below w.heap.size w w1 := (Below.refl _ _).grown hgrow (Nat.le_refl _) (fun k h => by cases h)
  obtain ⟨xs0, hown⟩ : ∃ xs, w1.ownsRow w.heap.size 23 1 (.slice (some ⟨w.heap.size, 0, none⟩) rs.length rs.length) rs.length xs := ⟨_, hown⟩
  have hB1 : w.heap.size < w1.heap.size := (hown.lt w.heap.size rfl).2
  have Hown := hidd hown
  clear hown hgrow
  go_wp2_with (at_make; refine wpList_make_full _ rfl _ _ 33 rfl w1.heap.size 23 i23 _ 1 Try.underlying33 gi gz0 gz1 _ _ _ _ rs.length rfl rfl rfl rfl ?c4 ?c5 ?c6 ?_)
  case c4 => rw [gz2]; omega
  case c5 => unfold maxLen; omega
  case c6 => exact Nat.le_refl _
  intro w2 hown2 hgrow2
  have hown := Hown.out.kept hgrow2 (.inr (by simp [Value.ownBlock]))
  have hbel2 : Below w.heap.size w w2 := hbel.grown hgrow2 (by omega) (fun k h => by cases h)
  obtain ⟨ns0, hown2⟩ : ∃ xs, w2.ownsRow w1.heap.size 23 1 (.slice (some ⟨w1.heap.size, 0, none⟩) rs.length rs.length) rs.length xs := ⟨_, hown2⟩
  have h0 : TwoTo xs0 ns0 rs 0 := ⟨by simpa using hown.1, by simpa using hown2.1, fun i _ h => absurd h (by omega)⟩
  clear hgrow2 Hown gi gz0 gz1 gz2
  go_wp2
  go_loopw [6] (fun i wr => ∃ (k : Nat) (xs ns : List Value), k ≤ rs.length ∧ i = .int .i64 k ∧ wr.ownsRow w.heap.size 23 1 (.slice (some ⟨w.heap.size, 0, none⟩) rs.length rs.length) rs.length xs ∧ wr.ownsRow w1.heap.size 23 1 (.slice (some ⟨w1.heap.size, 0, none⟩) rs.length rs.length) rs.length ns ∧ TwoTo xs ns rs k ∧ Below w.heap.size w wr) (fun i _ => rs.length - (intOf i).toNat)
  case atStart => exact ⟨0, xs0, ns0, Nat.zero_le _, rfl, hown, hown2, h0, hbel2⟩
  case round =>
    clear hown hown2 hbel hbel2 h0
    obtain ⟨k, xs, ns, hk, rfl, hown, hown2, hone, hbel⟩ := hrel
    have Hone := hidd hone
    have Hown := hidd hown
    have Hown2 := hidd hown2
    by_cases hlt : k < rs.length
    · obtain ⟨x, hx⟩ : ∃ x, Hid (rs[k]? = some x) := ⟨rs[k], hidd (List.getElem?_eq_getElem hlt)⟩
      obtain ⟨g, off, rfl, c0', c1'⟩ := Hrd.out k x hx.out
      have c0 := cell_to hbel c0'
      have c1 := cell_to hbel c1'
      have hgl : g < w.heap.size := World.block_lt_of_cell? w _ c0'
      obtain ⟨v0, hv0⟩ := cell_of_own hown k (by omega)
      obtain ⟨v1, hv1⟩ := cell_of_own hown2 k (by omega)
      have hf0 := hown.frozenAt k
      have hf1 := hown2.frozenAt k
      clear c0' c1' hown hown2 hone
      go_wp2
      have R := two_stored Hown.out Hown2.out (by omega) k (.int .u64 x.1) (.int .u64 x.2)
      go_roundw
      case rel => exact ⟨k + 1, _, _, by omega, by go_num, R.1, R.2, twoTo_succ Hone.out hx.out, (hbel.setCell (Nat.le_refl _) _).setCell (by show w.heap.size ≤ w1.heap.size; omega) _⟩
      case measure => simp [intOf]; omega
    · obtain rfl : k = rs.length := by omega
      obtain ⟨e1, e2⟩ := twoTo_all hone
      have S1 := hidd (sls_own hown)
      have S2 := hidd (sls_own hown2)
      rw [e1] at S1
      rw [e2] at S2
      clear hown hown2 hone
      go_wp2
      go_ret2
      exact ⟨_, _, rfl, ⟨S1.out, S2.out⟩, hbel⟩

end Go.Proofs.Qxb6608633a
