/- slices.SortFunc over dots by compareDots; slices.SortedFunc. -/
import Derived.Test.Qxb6608633aCmp2
import Derived.Shelf.SlSortCmp.WholeK
import Derived.Shelf.SlSortCmp.NoneTotal
import Derived.Shelf.Lay
import Derived.Ground.SlsfProg
namespace Go.Proofs.Qxb6608633a
open Go.RowKit Go.Shelf Go.Lib
shelf_lay_g SlLaysF0.n6 Slsf 6 at Try 76 as Try.sortD

/-- Which dot comes first. -/
def ltD (x y : Ent) : Prop := cmpB x.1 y.1 < 0 ∨ (x.1 = y.1 ∧ x.2 < y.2)

theorem cmpD_lt (x y : Ent) : cmpD x y < 0 ↔ ltD x y := by
  unfold cmpD orI cmpI ltD
  have h := cmpB_cases x.1 y.1
  have hz := cmpB_zero x.1 y.1
  by_cases h0 : cmpB x.1 y.1 = 0
  · rw [if_pos h0]
    have := hz.1 h0
    by_cases h1 : x.2 < y.2
    · simp [h1, this]
    · by_cases h2 : y.2 < x.2 <;> simp [h1, h2, h0]
  · rw [if_neg h0]
    have : x.1 ≠ y.1 := fun e => h0 (hz.2 e)
    simp [this]

theorem ltD_irrefl (x : Ent) : ¬ ltD x x := by
  rintro (h | ⟨_, h⟩)
  · rw [(cmpB_zero x.1 x.1).2 rfl] at h; omega
  · omega

theorem ltD_trans {x y z : Ent} (h1 : ltD x y) (h2 : ltD y z) : ltD x z := by
  rcases h1 with h1 | ⟨e1, h1⟩
  · rcases h2 with h2 | ⟨e2, h2⟩
    · exact .inl (cmpB_trans h1 h2)
    · rw [e2] at h1; exact .inl h1
  · rcases h2 with h2 | ⟨e2, h2⟩
    · rw [← e1] at h2; exact .inl h2
    · exact .inr ⟨e1.trans e2, by omega⟩

theorem ltD_total (x y : Ent) : ltD x y ∨ x = y ∨ ltD y x := by
  have h := cmpB_cases x.1 y.1
  have hs := cmpB_swap x.1 y.1
  rcases (show cmpB x.1 y.1 < 0 ∨ cmpB x.1 y.1 = 0 ∨ 0 < cmpB x.1 y.1 by omega) with h | h | h
  · exact .inl (.inl h)
  · have e := (cmpB_zero _ _).1 h
    rcases (show x.2 < y.2 ∨ x.2 = y.2 ∨ y.2 < x.2 by omega) with g | g | g
    · exact .inl (.inr ⟨e, g⟩)
    · exact .inr (.inl (Prod.ext e g))
    · exact .inr (.inr (.inr ⟨e.symm, g⟩))
  · exact .inr (.inr (.inl (by omega)))

theorem swoD : Sort.SWO (ltOf cmpD) where
  irrefl x := by simp only [ltOf, decide_eq_false_iff_not, cmpD_lt]; exact ltD_irrefl x
  trans x y z h1 h2 := by simp only [ltOf, cmpD_lt, decide_eq_true_eq] at *; exact ltD_trans h1 h2
  ntrans x y z h1 h2 := by
    simp only [ltOf, cmpD_lt, decide_eq_false_iff_not] at *
    intro h3
    rcases ltD_total x y with h | h | h
    · exact h1 h
    · subst h; exact h2 h3
    · exact h2 (ltD_trans h h3)

def encE (x : Ent) : List Value := [.string x.1, .int .u64 x.2]

theorem cmpLaysD (blk off size : Nat) (w : World) : CmpLays Try.prog 60 #[] encE 2 cmpD blk off size w :=
  fun _ _ _ _ x y => compareDots_any x y _

theorem flat_flatK (zs : List Ent) (t : Nat) (h : t < zs.length * 2) : (flat zs)[t]? = some (Sort.flatK encE 2 zs.toArray)[t]! := by
  rw [Sort.get_flatK _ _ _ t (by simpa using h)]
  have hi : t / 2 < zs.length := by omega
  have he : zs[t / 2]? = some (zs[t / 2].1, zs[t / 2].2) := by simp [hi]
  have hf := flat_at zs (t / 2) _ _ he
  have hg : zs.toArray[t / 2]! = zs[t / 2] := by simp [hi]
  rw [hg]
  rcases (show t % 2 = 0 ∨ t % 2 = 1 by omega) with h0 | h0
  · have e : (flat zs)[t]? = (flat zs)[t / 2 * 2]? := congrArg (fun i => (flat zs)[i]?) (by omega)
    rw [e, hf.1, h0]; simp [encE]
  · have e : (flat zs)[t]? = (flat zs)[t / 2 * 2 + 1]? := congrArg (fun i => (flat zs)[i]?) (by omega)
    rw [e, hf.2, h0]; simp [encE]

/-- The dots ys are in order. -/
def SortedD (ys : List Ent) : Prop := ∀ (i j : Nat) (x y : Ent), i < j → ys[i]? = some x → ys[j]? = some y → ¬ ltD y x

/-- The slice v, in a block at or beyond B, holds the dots ys, which are zs in order. -/
def SortedAt (w : World) (B : Nat) (v : Value) (zs : List Ent) : Prop :=
  ∃ ys ao cap, v = .slice ao ys.length cap ∧ ys.Perm zs ∧ SortedD ys ∧ EntsAt w ao ys ∧ (∀ a, ao = some a → B ≤ a.block ∧ a.block < w.heap.size)

def SortRet (w : World) (B : Nat) (v : Value) (zs : List Ent) (e : Ending) (w' : World) : Prop := e = .returned (.tuple #[]) ∧ SortedAt w' B v zs ∧ Below B w w'

theorem sortWorld_below (w : World) (g n : Nat) (d : Array Ent) (os : Array Obj) (B : Nat) (hB : B ≤ g) (hg : g < w.heap.size) : Below B w (sortWorldK encE 2 w g 0 n d os) := by
  refine ⟨rfl, rfl, rfl, ?_, fun k hk => ?_⟩
  · simp [sortWorldK, Sort.grow, Sort.putRowK, Sort.putRow, Sort.mapBlock, Sort.ahead]
  · simp only [sortWorldK, Sort.grow, Sort.putRowK, Sort.putRow, Sort.mapBlock, Sort.ahead]
    rw [Array.getElem?_append_left (by simp; omega), Array.getElem?_modify, if_neg (by omega)]

theorem sortFunc_some (g cap : Nat) (zs : List Ent) (B : Nat) (w : World) (hlen : zs.length ≤ 1048577) (hown : w.ownsRow B 79 2 (.slice (some ⟨g, 0, none⟩) zs.length cap) zs.length (flat zs)) (hBg : B ≤ g) (hg : g < w.heap.size) (hfr : ∀ o, w.frozen? ⟨g, o, none⟩ = false) :
    Calls Try.prog 76 #[.slice (some ⟨g, 0, none⟩) zs.length cap, .func (.func 60) #[] #[]] w (SortRet w B (.slice (some ⟨g, 0, none⟩) zs.length cap) zs) := by
  have hH : Sort.HoldsK encE 2 w g 0 zs.toArray := by
    intro j hj
    have hj' : j < zs.length * 2 := by simpa using hj
    refine ⟨?_, hfr _⟩
    rw [Nat.zero_add, hown.cellAt j (by omega), flat_flatK zs j hj']; rfl
  have h := AnyQ.slices_SortFunc Try.sortD 2 Try.isAgg79 Try.sizeOf79 encE (fun _ => rfl) (fun x v hv => by simp [encE] at hv; rcases hv with rfl | rfl <;> rfl) cmpD swoD 60 #[] g 0 cap zs.toArray w (enters_of Try.func60 (by kernel_rfl) rfl) (cmpLaysD g 0 _ w) hH hg (by simp; omega)
  change Calls Try.prog 76 _ _ _ at h
  rw [List.size_toArray] at h
  refine h.mono ?_
  rintro e w' ⟨rfl, d', n, os, ⟨hs, _, hp⟩, hsd, rfl⟩
  obtain ⟨ys, rfl⟩ : ∃ ys : List Ent, d' = ys.toArray := ⟨d'.toList, by simp⟩
  have hs' : ys.length = zs.length := by simpa using hs
  have hp' : ys.Perm zs := by
    have e1 : (ys.toArray.extract 0 zs.length).toList = ys := by rw [← hs']; simp
    have e2 : (zs.toArray.extract 0 zs.length).toList = zs := by simp
    rw [e1, e2] at hp; exact hp
  have hbel := sortWorld_below w g n ys.toArray os B hBg hg
  have hcell : ∀ j, j < ys.length * 2 → (sortWorldK encE 2 w g 0 n ys.toArray os).cell? ⟨g, j, none⟩ = (flat ys)[j]? := fun j hj => by
    rw [sortWorldK, Sort.cell?_grow _ _ _ (by simp [Sort.putRowK, Sort.putRow, Sort.mapBlock, Sort.ahead]; exact hg), flat_flatK ys j hj]
    have h1 := Sort.cell?_putRow id (Sort.ahead w n) g 0 (Sort.flatK encE 2 zs.toArray) (Sort.flatK encE 2 ys.toArray) hH (by simp [hs']) j (by simpa using hj)
    rw [Nat.zero_add] at h1
    exact h1
  refine ⟨rfl, ⟨ys, some ⟨g, 0, none⟩, cap, by rw [hs'], hp', ?_, ?_, ?_⟩, hbel⟩
  · intro i j x y hij hi hj hl
    have hjl := (List.getElem?_eq_some_iff.1 hj).1
    have h1 := hsd i j (Nat.zero_le _) hij (by omega)
    simp only [ltOf, cmpD_lt, decide_eq_false_iff_not] at h1
    have e1 : ys.toArray[i]! = x := by simp [hi]
    have e2 : ys.toArray[j]! = y := by simp [hj]
    rw [e1, e2] at h1
    exact h1 hl
  · refine .inr ⟨g, 0, rfl, fun i s m hi => ?_⟩
    have hil := (List.getElem?_eq_some_iff.1 hi).1
    have hf := flat_at ys i s m hi
    rw [Nat.zero_add, hcell _ (by omega), hcell _ (by omega)]
    exact hf
  · intro a ha; cases ha
    exact ⟨hBg, Nat.lt_of_lt_of_le hg hbel.size⟩

theorem sortFunc_any (v : Value) (zs : List Ent) (B : Nat) (w : World) (hlen : zs.length ≤ 1048577) (hown : w.ownsRow B 79 2 v zs.length (flat zs)) :
    Calls Try.prog 76 #[v, .func (.func 60) #[] #[]] w (SortRet w B v zs) := by
  have hown' := hown
  rcases hown.2 with ⟨rfl, hl⟩ | ⟨g, cap, cur, rfl, hBg, hg, _⟩
  · obtain rfl : zs = [] := List.eq_nil_of_length_eq_zero hl
    have h := AnyF.slices_SortFunc_none { Try.sortD with } none 0 (.func (.func 60) #[] #[]) w
    change Calls Try.prog 76 _ _ _ at h
    refine h.mono ?_
    rintro e w' ⟨rfl, rfl⟩
    exact ⟨rfl, ⟨[], none, 0, rfl, List.Perm.refl _, (fun i j x y _ h => by simp at h), .inl rfl, fun a ha => by cases ha⟩, Below.refl _ _⟩
  · exact sortFunc_some g cap zs B w hlen hown' hBg (Array.getElem?_eq_some_iff.1 hg).1 (fun o => by simp [World.frozen?, hg])

def SortedRet (w : World) (zs : List Ent) (e : Ending) (w' : World) : Prop := ∃ v, e = .returned v ∧ SortedAt w' w.heap.size v zs ∧ Below w.heap.size w w'

set_option maxHeartbeats 1000000 in
theorem sortedFunc_any (Bs : Nat) (ao : Option Addr) (cap : Nat) (zs : List Ent) (hlen : zs.length ≤ 1048577) (w : World) (hBs : Bs < w.heap.size)
    (hb : ∀ a, ao = some a → a.block < w.heap.size) (hc : w.cell? ⟨Bs, 0, none⟩ = some (.slice ao zs.length cap)) (hE : EntsAt w ao zs) :
    Calls Try.prog 59 #[.func (.func 62) #[] #[.pointer (some ⟨Bs, 0, none⟩)], .func (.func 60) #[] #[]] w (SortedRet w zs) := by
  have H := hidd (collect_any Bs ao cap zs hlen w hBs hb hc hE)
  clear hBs hb hc hE
  go_enter Try.func59, Try.ntmps59
  go_wp2_with fail
  refine H.out.mono ?_
  rintro e w1 ⟨v, rfl, hown, hbel⟩
  have H2 := hidd (sortFunc_any v zs w.heap.size w1 hlen hown)
  clear hown H
  go_wp2_with fail
  refine H2.out.mono ?_
  rintro e w2 ⟨rfl, hst, hbel2⟩
  have Hst := hidd hst
  have hb3 := hbel.trans hbel2
  clear hst H2 hbel hbel2
  go_wp2
  go_ret
  exact ⟨v, rfl, Hst.out, hb3⟩

end Go.Proofs.Qxb6608633a
