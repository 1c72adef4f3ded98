/- zzCountOf, zzCloneEntries, zzSplitEntries. -/
import Derived.Test.Qxb6608633aEnts
namespace Go.Proofs.Qxb6608633a
open Go.RowKit

theorem hidd {p : Prop} (h : p) : Hid p := h

def countL : List Ent → ByteArray → Int
  | [], _ => 0
  | (s, n) :: t, id => if s = id then n else countL t id

theorem countL_drop {es : List Ent} {k : Nat} {s : ByteArray} {n : Int} (h : Hid (es[k]? = some (s, n))) (id : ByteArray) : countL (es.drop k) id = if s = id then n else countL (es.drop (k + 1)) id := by
  have h := h.out
  obtain ⟨hk, he⟩ := List.getElem?_eq_some_iff.1 h
  rw [List.drop_eq_getElem_cons hk, he]; rfl

theorem beqB {a b : ByteArray} : (a.toList == b.toList) = decide (a = b) := by
  rw [ByteArray.toList_eq, ByteArray.toList_eq, Bool.eq_iff_iff]
  simp only [beq_iff_eq, decide_eq_true_eq]
  constructor
  · intro h
    cases a with
    | mk a =>
      cases b with
      | mk b => exact congrArg ByteArray.mk (Array.toList_inj.1 h)
  · intro h; rw [h]

set_option maxHeartbeats 1000000 in
theorem countOf_any (ao : Option Addr) (cap : Nat) (es : List Ent) (id : ByteArray) (w : World) (he : EntsAt w ao es) (hl : es.length ≤ 1048576) :
    Calls Try.prog 16 #[.slice ao es.length cap, .string id] w fun e w' => e = .returned (.int .u64 (countL es id)) ∧ w' = w := by
  go_enter Try.func16, Try.ntmps16
  go_wp2
  go_loop [5] (fun i => ∃ (k : Nat), k ≤ es.length ∧ i = .int .i64 k ∧ countL (es.drop k) id = countL es id) (fun i => es.length - (intOf i).toNat)
  case atStart => exact ⟨0, Nat.zero_le _, rfl, rfl⟩
  case round =>
    obtain ⟨k, hk, rfl, hc⟩ := hrel
    by_cases hlt : k < es.length
    · obtain ⟨b', off, s, n, rfl, hkk, hc0, hc1⟩ := he.at hlt
      have Hd : Hid (_ = _) := countL_drop hkk id
      rw [hc] at Hd
      clear he hc
      by_cases h1 : s = id
      · have h1' : (s.toList == id.toList) = true := by rw [beqB]; simpa using h1
        have H1 : Hid (s = id) := h1
        clear h1
        go_wp2
        go_ret
        exact ⟨ret_int (by rw [Hd.out, if_pos H1.out]), rfl⟩
      · have h1' : (s.toList == id.toList) = false := by rw [beqB]; simpa using h1
        go_wp2
        go_round
        case rel => exact ⟨k + 1, by omega, by go_num, by rw [Hd.out, if_neg h1]⟩
        case measure => simp [intOf]; omega
    · obtain rfl : k = es.length := by omega
      have H : Hid (_ = countL es id) := hc
      clear he hc
      go_wp2
      go_ret
      exact ⟨ret_int (by rw [← H.out]; simp [countL]), rfl⟩

/-- The cells xs hold the first k entries of es, two cells each; there is room for all. -/
def FlatTo (xs : List Value) (es : List Ent) (k : Nat) : Prop :=
  xs.length = es.length * 2 ∧ ∀ (i : Nat) (s : ByteArray) (n : Int), i < k → es[i]? = some (s, n) → xs[i * 2]? = some (.string s) ∧ xs[i * 2 + 1]? = some (.int .u64 n)

theorem flatTo_succ {xs : List Value} {es : List Ent} {k : Nat} {s : ByteArray} {n : Int} (h : FlatTo xs es k) (hk : Hid (es[k]? = some (s, n))) :
    FlatTo ((xs.set (k * 2) (.string s)).set (k * 2 + 1) (.int .u64 n)) es (k + 1) := by
  have hk := hk.out
  obtain ⟨hlt, _⟩ := List.getElem?_eq_some_iff.1 hk
  refine ⟨by simpa using h.1, fun i t m hi he => ?_⟩
  have hl := h.1
  by_cases hik : i = k
  · subst hik; rw [hk] at he; cases he
    rw [List.getElem?_set_ne (by omega), List.getElem?_set_self (by omega), List.getElem?_set_self (by simp; omega)]
    exact ⟨rfl, rfl⟩
  · rw [List.getElem?_set_ne (by omega), List.getElem?_set_ne (by omega), List.getElem?_set_ne (by omega), List.getElem?_set_ne (by omega)]
    exact h.2 i t m (by omega) he

theorem entsAt_of_own {w : World} {base e g cap : Nat} {n : Nat} {xs : List Value} {es : List Ent} (hn : n = es.length) (h : w.ownsRow base e 2 (.slice (some ⟨g, 0, none⟩) n cap) n xs) (hf : FlatTo xs es es.length) : EntsAt w (some ⟨g, 0, none⟩) es := by
  subst hn
  refine .inr ⟨g, 0, rfl, fun i s m hi => ?_⟩
  obtain ⟨hlt, _⟩ := List.getElem?_eq_some_iff.1 hi
  have := hf.2 i s m hlt hi
  simp only [Nat.zero_add]
  rw [h.cellAt (i * 2) (by omega), h.cellAt (i * 2 + 1) (by omega)]
  exact this

theorem Try.info26 : (Try.prog.info? 26).map (fun i => (i.zero, i.size, i.bytes)) = some (some (.agg #[.string ByteArray.empty, .int .u64 0]), 2, 24) := by kernel_rfl

theorem cell_of_own {w : World} {base e g cap n size : Nat} {xs : List Value} (h : w.ownsRow base e size (.slice (some ⟨g, 0, none⟩) n cap) n xs) (j : Nat) (hj : j < n * size) : ∃ v, w.cell? ⟨g, j, none⟩ = some v := by
  rw [h.cellAt j hj]
  have := h.1
  exact ⟨xs[j]'(by omega), List.getElem?_eq_getElem _⟩

/-- What a call that copies a slice of entries leaves. -/
def CloneRet (w : World) (es : List Ent) (e : Ending) (w' : World) : Prop :=
  ∃ ao cap, e = .returned (.slice ao es.length cap) ∧ EntsAt w' ao es ∧ (∀ a, ao = some a → a.block < w'.heap.size) ∧ Below w.heap.size w w'

set_option maxHeartbeats 1000000 in
set_option maxRecDepth 100000 in
theorem clone_any (ao : Option Addr) (cap : Nat) (es : List Ent) (w : World) (he : EntsAt w ao es) (hao : ao = none → es = [] ∧ cap = 0) (hlt0 : ∀ a, ao = some a → es ≠ [] → a.block < w.heap.size) (hl : es.length ≤ 1048576) :
    Calls Try.prog 10 #[.slice ao es.length cap] w (CloneRet w es) := by
  have heq := fun wx => Lib.run_eql_slice_nil (P := Try.prog) wx 22 26 ao es.length cap 0 0 Try.underlying22
  cases hao' : ao with
  | none =>
    obtain ⟨rfl, rfl⟩ := hao hao'
    subst hao'
    simp only [Option.isNone_none, List.length_nil] at heq
    simp only [List.length_nil]
    go_enter Try.func10, Try.ntmps10
    go_wp2
    go_ret
    exact ⟨none, 0, rfl, .inl rfl, fun a h => (by cases h), Below.refl _ _⟩
  | some a0 =>
    subst hao'
    have hlt1 : es ≠ [] → a0.block < w.heap.size := hlt0 a0 rfl
    clear hao hlt0
    simp only [Option.isNone_some] at heq
    obtain ⟨i0, hi, hz0, hz1, hz2⟩ := info_parts Try.info26
    go_enter Try.func10, Try.ntmps10
    go_wp2_with (at_make; refine wpList_make_full _ rfl _ _ 22 rfl w.heap.size 26 i0 _ 2 Try.underlying22 hi hz0 hz1 _ _ _ _ es.length rfl rfl rfl rfl ?c1 ?c2 ?c3 ?_)
    case c1 => rw [hz2]; omega
    case c2 => unfold maxLen; omega
    case c3 => exact Nat.le_refl _
    intro w1 hown hgrow
    have hbel : Below w.heap.size w w1 := (Below.refl _ _).grown hgrow (Nat.le_refl _) (fun k h => by cases h)
    obtain ⟨xs0, hown⟩ : ∃ xs, w1.ownsRow w.heap.size 26 2 (.slice (some ⟨w.heap.size, 0, none⟩) es.length es.length) es.length xs := ⟨_, hown⟩
    have hlen := hown.1
    have hf0 : FlatTo xs0 es 0 := ⟨hlen, fun i _ _ h => absurd h (by omega)⟩
    clear hgrow hlen hi hz0 hz1 hz2
    go_wp2
    go_loopw [4] (fun i wr => ∃ (k : Nat) (xs : List Value), k ≤ es.length ∧ i = .int .i64 k ∧ wr.ownsRow w.heap.size 26 2 (.slice (some ⟨w.heap.size, 0, none⟩) es.length es.length) es.length xs ∧ FlatTo xs es k ∧ Below w.heap.size w wr) (fun i _ => es.length - (intOf i).toNat)
    case atStart => exact ⟨0, xs0, Nat.zero_le _, rfl, hown, hf0, hbel⟩
    case round =>
      clear hown hf0 hbel
      obtain ⟨k, xs, hk, rfl, hown, hfl, hbel⟩ := hrel
      have Hfl : Hid (FlatTo xs es k) := hfl
      have Hown : Hid (wr.ownsRow _ _ _ _ _ _) := hown
      by_cases hlt : k < es.length
      · have hne : es ≠ [] := by intro h; subst h; simp at hlt
        have hb0 := hlt1 hne
        obtain ⟨b', off, s, n, e1, hkk, hc0, hc1⟩ := he.at hlt
        cases e1
        have hc0' := (hbel.cell (p := ⟨b', off + k * 2, none⟩) hb0).trans hc0
        have hc1' := (hbel.cell (p := ⟨b', off + k * 2 + 1, none⟩) hb0).trans hc1
        obtain ⟨v0, hv0⟩ := cell_of_own hown (k * 2) (by omega)
        obtain ⟨v1, hv1⟩ := cell_of_own hown (k * 2 + 1) (by omega)
        have hf0 := hown.frozenAt (k * 2)
        have hf1 := hown.frozenAt (k * 2 + 1)
        clear he hc0 hc1 hown hfl hlt1 hne heq
        go_wp2
        go_roundw
        case rel => exact ⟨k + 1, _, by omega, by go_num, ((Hown.out.stored _ _).1.stored _ _).1, flatTo_succ Hfl.out hkk, (hbel.setCell (Nat.le_refl _) _).setCell (Nat.le_refl _) _⟩
        case measure => simp [intOf]; omega
      · obtain rfl : k = es.length := by omega
        have hE : EntsAt wr (some ⟨w.heap.size, 0, none⟩) es := entsAt_of_own rfl hown hfl
        have hsz : w.heap.size < wr.heap.size := (hown.lt w.heap.size rfl).2
        have HE := (show Hid _ from hE)
        clear hE he heq hlt1 hown hfl
        go_wp2
        go_ret
        exact ⟨some ⟨w.heap.size, 0, none⟩, es.length, rfl, HE.out, fun a h => (by cases h; exact hsz), hbel⟩

/-- The slices hold the entries' ids and counts, each in a row of its own. -/
def SplitAt (w : World) (ai an : Addr) (es : List Ent) : Prop :=
  ∃ gi gn, ai = ⟨gi, 0, none⟩ ∧ an = ⟨gn, 0, none⟩ ∧ gi < w.heap.size ∧ gn < w.heap.size ∧ ∀ i s n, es[i]? = some (s, n) → w.cell? ⟨gi, i, none⟩ = some (.string s) ∧ w.cell? ⟨gn, i, none⟩ = some (.int .u64 n)

def SplitRet (w : World) (es : List Ent) (e : Ending) (w' : World) : Prop :=
  ∃ ai an, e = .returned (.tuple #[.slice (some ai) es.length es.length, .slice (some an) es.length es.length]) ∧ SplitAt w' ai an es ∧ Below w.heap.size w w'

def OneTo (xs ns : List Value) (es : List Ent) (k : Nat) : Prop :=
  xs.length = es.length ∧ ns.length = es.length ∧ ∀ (i : Nat) (s : ByteArray) (n : Int), i < k → es[i]? = some (s, n) → xs[i]? = some (.string s) ∧ ns[i]? = some (.int .u64 n)

theorem oneTo_succ {xs ns : List Value} {es : List Ent} {k : Nat} {s : ByteArray} {n : Int} (h : OneTo xs ns es k) (hk : Hid (es[k]? = some (s, n))) :
    OneTo (xs.set k (.string s)) (ns.set k (.int .u64 n)) es (k + 1) := by
  have hk := hk.out
  obtain ⟨hlt, _⟩ := List.getElem?_eq_some_iff.1 hk
  refine ⟨by simpa using h.1, by simpa using h.2.1, fun i t m hi he => ?_⟩
  have hl := h.1
  have hl2 := h.2.1
  by_cases hik : i = k
  · subst hik; rw [hk] at he; cases he
    rw [List.getElem?_set_self (by omega), List.getElem?_set_self (by omega)]
    exact ⟨rfl, rfl⟩
  · rw [List.getElem?_set_ne (by omega), List.getElem?_set_ne (by omega)]
    exact h.2.2 i t m (by omega) he

theorem Try.info9 : (Try.prog.info? 9).map (fun i => (i.zero, i.size, i.bytes)) = some (some (.string ByteArray.empty), 1, 16) := by kernel_rfl
theorem Try.info23 : (Try.prog.info? 23).map (fun i => (i.zero, i.size, i.bytes)) = some (some (.int .u64 0), 1, 8) := by kernel_rfl

theorem two_stored {w : World} {b1 b2 e1 e2 g1 g2 n c1 c2 : Nat} {xs ns : List Value} (h1 : w.ownsRow b1 e1 1 (.slice (some ⟨g1, 0, none⟩) n c1) n xs) (h2 : w.ownsRow b2 e2 1 (.slice (some ⟨g2, 0, none⟩) n c2) n ns) (hne : g1 ≠ g2) (k : Nat) (u v : Value) :
    ((w.setCell ⟨g1, k, none⟩ u).setCell ⟨g2, k, none⟩ v).ownsRow b1 e1 1 (.slice (some ⟨g1, 0, none⟩) n c1) n (xs.set k u) ∧ ((w.setCell ⟨g1, k, none⟩ u).setCell ⟨g2, k, none⟩ v).ownsRow b2 e2 1 (.slice (some ⟨g2, 0, none⟩) n c2) n (ns.set k v) := by
  obtain ⟨a1, a2⟩ := h1.stored k u
  have h2' := h2.kept a2 (.inr (by simp [Value.ownBlock]; omega))
  obtain ⟨c1, c2⟩ := h2'.stored k v
  exact ⟨a1.kept c2 (.inr (by simp [Value.ownBlock]; omega)), c1⟩

theorem splitAt_of {w : World} {b1 b2 e1 e2 g1 g2 : Nat} {xs ns : List Value} {es : List Ent} {c1 c2 : Nat} (h1 : w.ownsRow b1 e1 1 (.slice (some ⟨g1, 0, none⟩) es.length c1) es.length xs) (h2 : w.ownsRow b2 e2 1 (.slice (some ⟨g2, 0, none⟩) es.length c2) es.length ns) (hf : OneTo xs ns es es.length) :
    SplitAt w ⟨g1, 0, none⟩ ⟨g2, 0, none⟩ es := by
  refine ⟨g1, g2, rfl, rfl, (h1.lt g1 rfl).2, (h2.lt g2 rfl).2, fun i s m hi => ?_⟩
  obtain ⟨hlt, _⟩ := List.getElem?_eq_some_iff.1 hi
  rw [h1.cellAt i (by omega), h2.cellAt i (by omega)]
  exact hf.2.2 i s m hlt hi

set_option maxHeartbeats 1000000 in
set_option maxRecDepth 100000 in
theorem split_any (ao : Option Addr) (cap : Nat) (es : List Ent) (w : World) (he : EntsAt w ao es) (hlt0 : ∀ a, ao = some a → a.block < w.heap.size) (hl : es.length ≤ 1048576) :
    Calls Try.prog 12 #[.slice ao es.length cap] w (SplitRet w es) := by
  obtain ⟨i9, hi, hz0, hz1, hz2⟩ := info_parts Try.info9
  obtain ⟨i23, gi, gz0, gz1, gz2⟩ := info_parts Try.info23
  go_enter Try.func12, Try.ntmps12
  go_wp2_with (at_make; refine wpList_make_full _ rfl _ _ 32 rfl w.heap.size 9 i9 _ 1 Try.underlying32 hi hz0 hz1 _ _ _ _ es.length rfl rfl rfl rfl ?c1 ?c2 ?c3 ?_)
  case c1 => rw [hz2]; omega
  case c2 => unfold maxLen; omega
  case c3 => exact Nat.le_refl _
  intro w1 hown hgrow
  have hbel : Below w.heap.size w w1 := (Below.refl _ _).grown hgrow (Nat.le_refl _) (fun k h => by cases h)
  obtain ⟨xs0, hown⟩ : ∃ xs, w1.ownsRow w.heap.size 9 1 (.slice (some ⟨w.heap.size, 0, none⟩) es.length es.length) es.length xs := ⟨_, hown⟩
  have hB1 : w.heap.size < w1.heap.size := (hown.lt w.heap.size rfl).2
  have Hown := hidd hown
  clear hown hgrow hi hz0 hz1 hz2
  go_wp2_with (at_make; refine wpList_make_full _ rfl _ _ 33 rfl w1.heap.size 23 i23 _ 1 Try.underlying33 gi gz0 gz1 _ _ _ _ es.length rfl rfl rfl rfl ?c4 ?c5 ?c6 ?_)
  case c4 => rw [gz2]; omega
  case c5 => unfold maxLen; omega
  case c6 => exact Nat.le_refl _
  intro w2 hown2 hgrow2
  have hown := Hown.out.kept hgrow2 (.inr (by simp [Value.ownBlock]))
  have hbel2 : Below w.heap.size w w2 := hbel.grown hgrow2 (by omega) (fun k h => by cases h)
  obtain ⟨ns0, hown2⟩ : ∃ xs, w2.ownsRow w1.heap.size 23 1 (.slice (some ⟨w1.heap.size, 0, none⟩) es.length es.length) es.length xs := ⟨_, hown2⟩
  have h0 : OneTo xs0 ns0 es 0 := ⟨by simpa using hown.1, by simpa using hown2.1, fun i _ _ h => absurd h (by omega)⟩
  clear hgrow2 Hown gi gz0 gz1 gz2
  go_wp2
  go_loopw [6] (fun i wr => ∃ (k : Nat) (xs ns : List Value), k ≤ es.length ∧ i = .int .i64 k ∧ wr.ownsRow w.heap.size 9 1 (.slice (some ⟨w.heap.size, 0, none⟩) es.length es.length) es.length xs ∧ wr.ownsRow w1.heap.size 23 1 (.slice (some ⟨w1.heap.size, 0, none⟩) es.length es.length) es.length ns ∧ OneTo xs ns es k ∧ Below w.heap.size w wr) (fun i _ => es.length - (intOf i).toNat)
  case atStart => exact ⟨0, xs0, ns0, Nat.zero_le _, rfl, hown, hown2, h0, hbel2⟩
  case round =>
    clear hown hown2 hbel hbel2 h0
    obtain ⟨k, xs, ns, hk, rfl, hown, hown2, hone, hbel⟩ := hrel
    have Hone : Hid (OneTo xs ns es k) := hone
    have Hown : Hid (wr.ownsRow _ _ _ _ _ _) := hown
    have Hown2 : Hid (wr.ownsRow w1.heap.size _ _ _ _ _) := hown2
    by_cases hlt : k < es.length
    · obtain ⟨b', off, s, n, e1, hkk, hc0, hc1⟩ := he.at hlt
      cases e1
      have hb0 := hlt0 _ rfl
      have hc0' := (hbel.cell (p := ⟨b', off + k * 2, none⟩) hb0).trans hc0
      have hc1' := (hbel.cell (p := ⟨b', off + k * 2 + 1, none⟩) hb0).trans hc1
      obtain ⟨v0, hv0⟩ := cell_of_own hown k (by omega)
      obtain ⟨v1, hv1⟩ := cell_of_own hown2 k (by omega)
      have hf0 := hown.frozenAt k
      have hf1 := hown2.frozenAt k
      clear he hc0 hc1 hown hown2 hone hlt0
      go_wp2
      have R := two_stored Hown.out Hown2.out (by omega) k (.string s) (.int .u64 n)
      go_roundw
      case rel => exact ⟨k + 1, _, _, by omega, by go_num, R.1, R.2, oneTo_succ Hone.out hkk, (hbel.setCell (Nat.le_refl _) _).setCell (by show w.heap.size ≤ w1.heap.size; omega) _⟩
      case measure => simp [intOf]; omega
    · obtain rfl : k = es.length := by omega
      have hE : SplitAt wr ⟨w.heap.size, 0, none⟩ ⟨w1.heap.size, 0, none⟩ es := splitAt_of hown hown2 hone
      have HE := hidd hE
      clear hE he hlt0 hown hown2 hone
      go_wp2
      go_ret2
      exact ⟨_, _, rfl, HE.out, hbel⟩

end Go.Proofs.Qxb6608633a
