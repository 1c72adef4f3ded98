/- build over runs, in general. -/
import Derived.Test.Qxb6608633aTree
namespace Go.Proofs.Qxb6608633a
open Go.RowKit

def RunsAt (w : World) (E eo : Nat) (xs : List Run) : Prop := ∀ i x, xs[i]? = some x → w.cell? ⟨E, eo + i * 2, none⟩ = some (.int .u64 x.1) ∧ w.cell? ⟨E, eo + i * 2 + 1, none⟩ = some (.int .u64 x.2)

def BuildRet (w : World) (N lo m : Nat) (xs : List Run) (e : Ending) (w' : World) : Prop :=
  ∃ p T, e = .returned (.pointer p) ∧ RTreeIn w' N lo (lo + m * 5) p T ∧ T.list = xs ∧ Upd w w' N lo (lo + m * 5)

theorem cell_set_ne {w : World} {N i j : Nat} {u : Value} {v : Value} (h : w.cell? ⟨N, j, none⟩ = some u) (hne : i ≠ j) : (w.setCell ⟨N, i, none⟩ v).cell? ⟨N, j, none⟩ = some u :=
  (World.cell?_setCell_other _ _ _ _ (by intro e; injection e with _ e2 _; exact hne e2)).trans h
theorem cell_set_eq {w : World} {N i : Nat} {u : Value} {v : Value} (h : w.cell? ⟨N, i, none⟩ = some u) : (w.setCell ⟨N, i, none⟩ v).cell? ⟨N, i, none⟩ = some v :=
  World.cell?_setCell_same' _ _ _ (by rw [h]; rfl)

def BuildAt (m : Nat) : Prop := ∀ (an ae : Option Addr) (N lo nc E eo ec : Nat) (xs : List Run) (w : World), xs.length = m → (m ≠ 0 → an = some ⟨N, lo, none⟩ ∧ ae = some ⟨E, eo, none⟩ ∧ m ≤ nc ∧ m ≤ ec ∧ E ≠ N) → Room w N lo m → RunsAt w E eo xs →
  Calls Try.prog 63 #[.slice an m nc, .slice ae m ec] w (BuildRet w N lo m xs)

theorem buildAt_zero : BuildAt 0 := fun an ae N lo nc E eo ec xs w hx _ _ _ => by
  obtain rfl : xs = [] := List.eq_nil_of_length_eq_zero hx
  refine (buildR_none _ _ _ _).mono ?_
  rintro e w' ⟨rfl, rfl⟩
  exact ⟨none, .nil, rfl, rfl, rfl, Upd.refl _ _ _ _⟩

theorem build_close {w W1 W2 w3 : World} {N lo t m mid : Nat} {a b : Int} {c3 : Value} {xs : List Run} {pl pr : Option Addr} {Tl Tr : BT Run} (hx : xs.length = m) (hml : mid < m) (ht : lo + mid * 5 = t) (hxm : xs[mid]? = some (a, b))
    (hu1 : Upd w W1 N t (t + 5)) (hu3 : Upd W1 W2 N lo (t + 5)) (e0 : W2.cell? ⟨N, t, none⟩ = some (.int .u64 a)) (e1 : W2.cell? ⟨N, t + 1, none⟩ = some (.int .u64 b)) (e2 : W2.cell? ⟨N, t + 2, none⟩ = some (.pointer pl))
    (e3 : w3.cell? ⟨N, t + 3, none⟩ = some c3) (e4 : W2.cell? ⟨N, t + 4, none⟩ = some (.int .i64 m)) (htl : RTreeIn W2 N lo t pl Tl) (hll : Tl.list = xs.take mid)
    (hu4 : Upd W2.drew w3 N (lo + (mid + 1) * 5) (lo + (mid + 1) * 5 + (m - (mid + 1)) * 5)) (htr : RTreeIn w3 N (lo + (mid + 1) * 5) (lo + (mid + 1) * 5 + (m - (mid + 1)) * 5) pr Tr) (hlr : Tr.list = xs.drop (mid + 1)) :
    BuildRet w N lo m xs (.returned (.pointer (some ⟨N, t, none⟩))) (w3.setCell ⟨N, t + 3, none⟩ (.pointer pr)) := by
  have hs : lo + (mid + 1) * 5 = t + 5 := by omega
  have hend : lo + (mid + 1) * 5 + (m - (mid + 1)) * 5 = lo + m * 5 := by omega
  rw [hend, hs] at hu4 htr
  have hu4' : Upd W2 w3 N (t + 5) (lo + m * 5) := ⟨hu4.os, hu4.tape, hu4.output, hu4.size, hu4.block, hu4.cell, hu4.there, hu4.frozen⟩
  have hlist : Tl.list ++ (a, b) :: Tr.list = xs := by
    rw [hll, hlr]
    have h1 := List.take_append_drop mid xs
    have h2 : xs.drop mid = (a, b) :: xs.drop (mid + 1) := by
      obtain ⟨hk, he⟩ := List.getElem?_eq_some_iff.1 hxm
      rw [List.drop_eq_getElem_cons hk, he]
    rw [h2] at h1; exact h1
  have old : ∀ j u, j < t + 5 → j ≠ t + 3 → W2.cell? ⟨N, j, none⟩ = some u → (w3.setCell ⟨N, t + 3, none⟩ (.pointer pr)).cell? ⟨N, j, none⟩ = some u := fun j u hj hne h =>
    cell_set_ne ((hu4'.cell j (.inl hj)).trans h) (fun e => hne e.symm)
  refine ⟨some ⟨N, t, none⟩, .node Tl (a, b) Tr, rfl, ⟨t, pl, pr, rfl, by omega, by omega, old _ _ (by omega) (by omega) e0, old _ _ (by omega) (by omega) e1, old _ _ (by omega) (by omega) e2, cell_set_eq e3, ?_, ?_, ?_⟩, hlist, ?_⟩
  · rw [hlist, hx]; exact old _ _ (by omega) (by omega) e4
  · refine (htl.same (w' := w3.setCell ⟨N, t + 3, none⟩ (.pointer pr)) (fun j _ hj => ?_)).wide (Nat.le_refl _) (by omega)
    rw [World.cell?_setCell_other _ _ _ _ (by intro e; injection e with _ e2 _; omega)]
    exact hu4'.cell j (.inl (by omega))
  · refine (htr.same (w' := w3.setCell ⟨N, t + 3, none⟩ (.pointer pr)) (fun j hj _ => ?_)).wide (by omega) (Nat.le_refl _)
    exact World.cell?_setCell_other _ _ _ _ (by intro e; injection e with _ e2 _; omega)
  · exact (((hu1.mono (by omega) (by omega)).trans (hu3.mono (Nat.le_refl _) (by omega))).trans (hu4'.mono (by omega) (Nat.le_refl _))).set _ (by omega) (by omega)

/-- What build says at k elements, the number written otherwise. -/
theorem tailAt {m k : Nat} (ih : ∀ k, k < m → BuildAt k) (r : Nat) (hr : r = k) (hk : k < m) (an ae : Option Addr) (N lo nc E eo ec : Nat) (xs : List Run) (w : World) (hx : xs.length = k) (ha : k ≠ 0 → an = some ⟨N, lo, none⟩ ∧ ae = some ⟨E, eo, none⟩ ∧ k ≤ nc ∧ k ≤ ec ∧ E ≠ N) (hroom : Room w N lo k) (hruns : RunsAt w E eo xs) :
    Calls Try.prog 63 #[.slice an r nc, .slice ae r ec] w (BuildRet w N lo k xs) := by
  subst hr
  exact ih r hk an ae N lo nc E eo ec xs w hx ha hroom hruns

end Go.Proofs.Qxb6608633a
