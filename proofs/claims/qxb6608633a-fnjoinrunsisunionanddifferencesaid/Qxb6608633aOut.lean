/- ZZVectorEntries, zzEntriesEq. -/
import Derived.Test.Qxb6608633aRaise
namespace Go.Proofs.Qxb6608633a
open Go.RowKit

def strs (es : List Ent) : List Value := es.map fun e => .string e.1
def nums (es : List Ent) : List Value := es.map fun e => .int .u64 e.2

theorem strs_snoc {es : List Ent} {k : Nat} {s : ByteArray} {n : Int} (h : Hid (es[k]? = some (s, n))) : strs (es.take (k + 1)) = strs (es.take k) ++ [.string s] ∧ nums (es.take (k + 1)) = nums (es.take k) ++ [.int .u64 n] := by
  rw [List.take_add_one, h.out]; simp [strs, nums]

/-- Two slices hold the ids and the counts of es. -/
def PairAt (w : World) (ai an : Option Addr) (es : List Ent) : Prop :=
  es = [] ∨ ∃ bi bn, ai = some ⟨bi, 0, none⟩ ∧ an = some ⟨bn, 0, none⟩ ∧ bi < w.heap.size ∧ bn < w.heap.size ∧ ∀ i s n, es[i]? = some (s, n) → w.cell? ⟨bi, i, none⟩ = some (.string s) ∧ w.cell? ⟨bn, i, none⟩ = some (.int .u64 n)

theorem PairAt.below {w w' : World} {ai an : Option Addr} {es : List Ent} (h : PairAt w ai an es) (hb : Below w.heap.size w w') : PairAt w' ai an es := by
  rcases h with h | ⟨bi, bn, h1, h2, h3, h4, hc⟩
  · exact .inl h
  · have := hb.size
    exact .inr ⟨bi, bn, h1, h2, by omega, by omega, fun i s n hi => ⟨(hb.cell (p := ⟨bi, i, none⟩) h3).trans (hc i s n hi).1, (hb.cell (p := ⟨bn, i, none⟩) h4).trans (hc i s n hi).2⟩⟩

def OutRet (w : World) (es : List Ent) (e : Ending) (w' : World) : Prop :=
  ∃ ai ci an cn, e = .returned (.tuple #[.slice ai es.length ci, .slice an es.length cn]) ∧ PairAt w' ai an es ∧ Below w.heap.size w w'

theorem out_of_own {w : World} {B : Nat} {v u : Value} {es : List Ent} (h1 : w.ownsRow B 9 1 v es.length (strs es)) (h2 : w.ownsRow B 23 1 u es.length (nums es)) :
    ∃ ai ci an cn, v = .slice ai es.length ci ∧ u = .slice an es.length cn ∧ PairAt w ai an es := by
  by_cases he : es = []
  · subst he
    have hv : ∃ ai ci, v = .slice ai 0 ci := by rcases h1.2 with ⟨h, _⟩ | ⟨g, c, _, h, _⟩ <;> exact ⟨_, _, h⟩
    have hu : ∃ ai ci, u = .slice ai 0 ci := by rcases h2.2 with ⟨h, _⟩ | ⟨g, c, _, h, _⟩ <;> exact ⟨_, _, h⟩
    obtain ⟨ai, ci, hv⟩ := hv
    obtain ⟨an, cn, hu⟩ := hu
    exact ⟨ai, ci, an, cn, hv, hu, .inl rfl⟩
  · have hl : es.length ≠ 0 := by simpa using he
    rcases h1.2 with ⟨_, h⟩ | ⟨g, c, _, rfl, _⟩
    · exact absurd h hl
    · rcases h2.2 with ⟨_, h⟩ | ⟨g', c', _, rfl, _⟩
      · exact absurd h hl
      · refine ⟨_, _, _, _, rfl, rfl, .inr ⟨g, g', rfl, rfl, (h1.lt g rfl).2, (h2.lt g' rfl).2, fun i s n hi => ?_⟩⟩
        have hlt := (List.getElem?_eq_some_iff.1 hi).1
        rw [h1.cellAt i (by omega), h2.cellAt i (by omega)]
        simp [strs, nums, hi]

theorem own_ne {w : World} {B B' : Nat} {v u : Value} {n m : Nat} {xs ys : List Value} {e e' size : Nat} (h1 : w.ownsRow B e size v n xs) (h2 : w.ownsRow B' e' size u m ys) (hne : e ≠ e') : v.ownBlock = none ∨ v.ownBlock ≠ u.ownBlock := by
  rcases h1.2 with ⟨rfl, _⟩ | ⟨g, c, cur, rfl, _, hg, _⟩
  · exact .inl rfl
  · rcases h2.2 with ⟨rfl, _⟩ | ⟨g', c', cur', rfl, _, hg', _⟩
    · exact .inr (by simp [Value.ownBlock])
    · refine .inr fun h => ?_
      simp [Value.ownBlock] at h
      subst h; rw [hg] at hg'; cases hg'; exact hne rfl

theorem one_str {s : ByteArray} : ∀ u ∈ [Value.string s], u.oneCell' = true := by intro u hu; simp at hu; subst hu; rfl
theorem one_num {n : Int} : ∀ u ∈ [Value.int .u64 n], u.oneCell' = true := by intro u hu; simp at hu; subst hu; rfl

set_option maxHeartbeats 1000000 in
set_option maxRecDepth 100000 in
theorem vecEntries_any (B p : Nat) (es : List Ent) (w : World) (hv : Vec w B p es) (hl : es.length ≤ 1048577) :
    Calls Try.prog 18 #[.pointer (some ⟨p, 0, none⟩)] w (OutRet w es) := by
  obtain ⟨g, cap, xs, hBp, hp, hown, hfl⟩ := hv
  obtain rfl := flat_of hfl
  have hplt : p < w.heap.size := (Array.getElem?_eq_some_iff.1 hp).1
  have hglt : g < w.heap.size := (hown.lt g rfl).2
  have hpc : w.cell? ⟨p, 0, none⟩ = some (.slice (some ⟨g, 0, none⟩) es.length cap) := cell_of_row w p 0 _ 86 (0, 0) hp
  obtain ⟨i9, hi, hz0, hz1, hz2⟩ := info_parts Try.info9
  obtain ⟨i23, gi, gz0, gz1, gz2⟩ := info_parts Try.info23
  have Hown := hidd hown
  clear hp hown hfl
  go_enter Try.func18, Try.ntmps18
  go_wp2
  go_loopw [2, 3, 4] (fun v u i wr => ∃ k : Nat, k ≤ es.length ∧ i = .int .i64 k ∧ wr.ownsRow w.heap.size 9 1 v k (strs (es.take k)) ∧ wr.ownsRow w.heap.size 23 1 u k (nums (es.take k)) ∧ Below w.heap.size w wr) (fun _ _ i _ => es.length - (intOf i).toNat)
  case atStart => exact ⟨0, Nat.zero_le _, rfl, World.ownsRow_nil _ _ _ _, World.ownsRow_nil _ _ _ _, Below.refl _ _⟩
  case round =>
    obtain ⟨k, hk, rfl, hoi, hon, hbel⟩ := hrel
    have hpc' := (hbel.cell (p := ⟨p, 0, none⟩) hplt).trans hpc
    have Hoi := hidd hoi
    have Hon := hidd hon
    by_cases hlt : k < es.length
    · obtain ⟨s, n, hkk⟩ : ∃ s n, Hid (es[k]? = some (s, n)) := ⟨es[k].1, es[k].2, hidd (by simp [hlt])⟩
      have hc0 : wr.cell? ⟨g, k * 2, none⟩ = some (.string s) := (hbel.cell (p := ⟨g, k * 2, none⟩) hglt).trans (by rw [Hown.out.cellAt (k * 2) (by omega)]; exact (flat_at es k s n hkk.out).1)
      have hc1 : wr.cell? ⟨g, k * 2 + 1, none⟩ = some (.int .u64 n) := (hbel.cell (p := ⟨g, k * 2 + 1, none⟩) hglt).trans (by rw [Hown.out.cellAt (k * 2 + 1) (by omega)]; exact (flat_at es k s n hkk.out).2)
      have hbs := hbel.size
      clear hoi hon
      have c1 : k + 1 ≤ maxLen := by unfold maxLen; omega
      have c2 : (k + 1) * 16 ≤ 140737488355328 := by omega
      have c3 : w.heap.size ≤ (wr.alloc (.cells #[.string s] 9)).heap.size := by simp; omega
      go_wp2_with (at_builtin; refine wpList_append_own _ rfl (.tmp 14) (.tmp 24) 32 rfl w.heap.size 9 i9 _ 1 16 Try.underlying32 hi hz0 hz1 hz2 rfl (by decide) _ k (strs (es.take k)) rfl (Hoi.out.alloc _) ⟨wr.heap.size, 0, none⟩ 1 1 [.string s] rfl rfl (cell_one_new _ _ _) one_str c1 c2 c3 ?_)
      intro v' w1 hoi1 hgrow1 _
      have hon1 : w1.ownsRow w.heap.size 23 1 u3 k (nums (es.take k)) := (Hon.out.alloc _).kept hgrow1 (own_ne Hon.out Hoi.out (by decide))
      have hbel1 : Below w.heap.size w w1 := (hbel.alloc (by omega) _).grown hgrow1 (by simp; omega) (fun j h => (Hoi.out.lt j h).1)
      have hpc1 := (hbel1.cell (p := ⟨p, 0, none⟩) hplt).trans hpc
      have hd1 : w1.cell? ⟨g, k * 2 + 1, none⟩ = some (.int .u64 n) := (hbel1.cell (p := ⟨g, k * 2 + 1, none⟩) hglt).trans (by rw [Hown.out.cellAt (k * 2 + 1) (by omega)]; exact (flat_at es k s n hkk.out).2)
      have hbs1 := hbel1.size
      have Hoi1 := hidd hoi1
      have Hon1 := hidd hon1
      clear hoi1 hon1 hgrow1 Hoi Hon hc0 hc1 hpc'
      have c2' : (k + 1) * 8 ≤ 140737488355328 := by omega
      have c3' : w.heap.size ≤ (w1.alloc (.cells #[.int .u64 n] 23)).heap.size := by simp; omega
      go_wp2_with (at_builtin; refine wpList_append_own _ rfl (.tmp 26) (.tmp 35) 33 rfl w.heap.size 23 i23 _ 1 8 Try.underlying33 gi gz0 gz1 gz2 rfl (by decide) _ k (nums (es.take k)) rfl (Hon1.out.alloc _) ⟨w1.heap.size, 0, none⟩ 1 1 [.int .u64 n] rfl rfl (cell_one_new _ _ _) one_num c1 c2' c3' ?_)
      intro u' w2 hon2 hgrow2 _
      have hoi2 : w2.ownsRow w.heap.size 9 1 v' (k + 1) (strs (es.take k) ++ [.string s]) := (Hoi1.out.alloc _).kept hgrow2 (own_ne Hoi1.out Hon1.out (by decide))
      have hbel2 : Below w.heap.size w w2 := (hbel1.alloc (by omega) _).grown hgrow2 (by simp; omega) (fun j h => (Hon1.out.lt j h).1)
      rw [← (strs_snoc hkk).1] at hoi2
      rw [← (strs_snoc hkk).2] at hon2
      have Hoi2 := hidd hoi2
      have Hon2 := hidd hon2
      clear hoi2 hon2 hgrow2 Hoi1 Hon1 hd1 hpc1 hi hz0 hz1 hz2 gi gz0 gz1 gz2
      go_wp2
      go_roundw
      case rel => exact ⟨k + 1, by omega, by go_num, Hoi2.out, Hon2.out, hbel2⟩
      case measure => simp [intOf]; omega
    · obtain rfl : k = es.length := by omega
      rw [List.take_length] at hoi hon
      obtain ⟨ai, ci, an, cn, rfl, rfl, hP⟩ := out_of_own hoi hon
      have HP := hidd hP
      clear hoi hon Hoi Hon hP hi hz0 hz1 hz2 gi gz0 gz1 gz2
      go_wp2
      go_ret2
      exact ⟨ai, ci, an, cn, rfl, HP.out, hbel⟩

end Go.Proofs.Qxb6608633a
