/- Trees of a context's entries in memory, and build over them: made of the texts over runs. -/
import Derived.Test.Qxb6608633aAtR
import Derived.Test.Qxb6608633aTreeOne3
namespace Go.Proofs.Qxb6608633a
open Go.RowKit

abbrev Etr := ByteArray × Option Addr

/-- The tree at p: its nodes lie in block N between lo and hi. -/
def XTreeIn (w : World) (N lo hi : Nat) : Option Addr → BT Etr → Prop
  | p, .nil => p = none
  | p, .node l x r => ∃ off pl pr, p = some ⟨N, off, none⟩ ∧ lo ≤ off ∧ off + 5 ≤ hi ∧ w.cell? ⟨N, off, none⟩ = some (.string x.1) ∧ w.cell? ⟨N, off + 1, none⟩ = some (.pointer x.2) ∧
      w.cell? ⟨N, off + 2, none⟩ = some (.pointer pl) ∧ w.cell? ⟨N, off + 3, none⟩ = some (.pointer pr) ∧ w.cell? ⟨N, off + 4, none⟩ = some (.int .i64 ((l.list ++ x :: r.list).length : Nat)) ∧ XTreeIn w N lo hi pl l ∧ XTreeIn w N lo hi pr r

/-- The tree at p, wherever its nodes lie. -/
def XTree (w : World) : Option Addr → BT Etr → Prop
  | p, .nil => p = none
  | p, .node l x r => ∃ N off pl pr, p = some ⟨N, off, none⟩ ∧ w.cell? ⟨N, off, none⟩ = some (.string x.1) ∧ w.cell? ⟨N, off + 1, none⟩ = some (.pointer x.2) ∧
      w.cell? ⟨N, off + 2, none⟩ = some (.pointer pl) ∧ w.cell? ⟨N, off + 3, none⟩ = some (.pointer pr) ∧ w.cell? ⟨N, off + 4, none⟩ = some (.int .i64 ((l.list ++ x :: r.list).length : Nat)) ∧ XTree w pl l ∧ XTree w pr r

theorem XTreeIn.tree {w : World} {N lo hi : Nat} : ∀ {T : BT Etr} {p : Option Addr}, XTreeIn w N lo hi p T → XTree w p T
  | .nil, _, h => h
  | .node _ _ _, _, ⟨off, pl, pr, h1, _, _, h2, h3, h4, h5, h6, hl, hr⟩ => ⟨N, off, pl, pr, h1, h2, h3, h4, h5, h6, hl.tree, hr.tree⟩

theorem XTreeIn.same {w w' : World} {N lo hi : Nat} (hc : ∀ j, lo ≤ j → j < hi → w'.cell? ⟨N, j, none⟩ = w.cell? ⟨N, j, none⟩) : ∀ {T : BT Etr} {p : Option Addr}, XTreeIn w N lo hi p T → XTreeIn w' N lo hi p T
  | .nil, _, h => h
  | .node _ _ _, _, ⟨off, pl, pr, h1, a, b, h2, h3, h4, h5, h6, hl, hr⟩ =>
    ⟨off, pl, pr, h1, a, b, (hc _ (by omega) (by omega)).trans h2, (hc _ (by omega) (by omega)).trans h3, (hc _ (by omega) (by omega)).trans h4, (hc _ (by omega) (by omega)).trans h5, (hc _ (by omega) (by omega)).trans h6, hl.same hc, hr.same hc⟩

theorem XTreeIn.wide {w : World} {N lo hi lo' hi' : Nat} (h1 : lo' ≤ lo) (h2 : hi ≤ hi') : ∀ {T : BT Etr} {p : Option Addr}, XTreeIn w N lo hi p T → XTreeIn w N lo' hi' p T
  | .nil, _, h => h
  | .node _ _ _, _, ⟨off, pl, pr, e, a, b, c1, c2, c3, c4, c5, hl, hr⟩ => ⟨off, pl, pr, e, by omega, by omega, c1, c2, c3, c4, c5, hl.wide h1 h2, hr.wide h1 h2⟩

theorem XTree.to {a b : World} (k : Below a.heap.size a b) : ∀ {T : BT Etr} {p : Option Addr}, XTree a p T → XTree b p T
  | .nil, _, h => h
  | .node _ _ _, _, ⟨N, off, pl, pr, e, c1, c2, c3, c4, c5, hl, hr⟩ => ⟨N, off, pl, pr, e, cell_to k c1, cell_to k c2, cell_to k c3, cell_to k c4, cell_to k c5, hl.to k, hr.to k⟩

def EntrsAt (w : World) (E eo : Nat) (xs : List Etr) : Prop := ∀ i x, xs[i]? = some x → w.cell? ⟨E, eo + i * 2, none⟩ = some (.string x.1) ∧ w.cell? ⟨E, eo + i * 2 + 1, none⟩ = some (.pointer x.2)

def BuildXRet (w : World) (N lo m : Nat) (xs : List Etr) (e : Ending) (w' : World) : Prop :=
  ∃ p T, e = .returned (.pointer p) ∧ XTreeIn w' N lo (lo + m * 5) p T ∧ T.list = xs ∧ Upd w w' N lo (lo + m * 5)

def BuildXAt (m : Nat) : Prop := ∀ (an ae : Option Addr) (N lo nc E eo ec : Nat) (xs : List Etr) (w : World), xs.length = m → (m ≠ 0 → an = some ⟨N, lo, none⟩ ∧ ae = some ⟨E, eo, none⟩ ∧ m ≤ nc ∧ m ≤ ec ∧ E ≠ N) → Room w N lo m → EntrsAt w E eo xs →
  Calls Try.prog 79 #[.slice an m nc, .slice ae m ec] w (BuildXRet w N lo m xs)

theorem buildXAt_zero : BuildXAt 0 := fun an ae N lo nc E eo ec xs w hx _ _ _ => by
  obtain rfl : xs = [] := List.eq_nil_of_length_eq_zero hx
  refine (buildX_none _ _ _ _).mono ?_
  rintro e w' ⟨rfl, rfl⟩
  exact ⟨none, .nil, rfl, rfl, rfl, Upd.refl _ _ _ _⟩

theorem buildX_close {w W1 W2 w3 : World} {N lo t m mid : Nat} {a : ByteArray} {b : Option Addr} {c3 : Value} {xs : List Etr} {pl pr : Option Addr} {Tl Tr : BT Etr} (hx : xs.length = m) (hml : mid < m) (ht : lo + mid * 5 = t) (hxm : xs[mid]? = some (a, b))
    (hu1 : Upd w W1 N t (t + 5)) (hu3 : Upd W1 W2 N lo (t + 5)) (e0 : W2.cell? ⟨N, t, none⟩ = some (.string a)) (e1 : W2.cell? ⟨N, t + 1, none⟩ = some (.pointer b)) (e2 : W2.cell? ⟨N, t + 2, none⟩ = some (.pointer pl))
    (e3 : w3.cell? ⟨N, t + 3, none⟩ = some c3) (e4 : W2.cell? ⟨N, t + 4, none⟩ = some (.int .i64 m)) (htl : XTreeIn W2 N lo t pl Tl) (hll : Tl.list = xs.take mid)
    (hu4 : Upd W2.drew w3 N (lo + (mid + 1) * 5) (lo + (mid + 1) * 5 + (m - (mid + 1)) * 5)) (htr : XTreeIn w3 N (lo + (mid + 1) * 5) (lo + (mid + 1) * 5 + (m - (mid + 1)) * 5) pr Tr) (hlr : Tr.list = xs.drop (mid + 1)) :
    BuildXRet w N lo m xs (.returned (.pointer (some ⟨N, t, none⟩))) (w3.setCell ⟨N, t + 3, none⟩ (.pointer pr)) := by
  have hs : lo + (mid + 1) * 5 = t + 5 := by omega
  have hend : lo + (mid + 1) * 5 + (m - (mid + 1)) * 5 = lo + m * 5 := by omega
  rw [hend, hs] at hu4 htr
  have hu4' : Upd W2 w3 N (t + 5) (lo + m * 5) := ⟨hu4.os, hu4.tape, hu4.output, hu4.size, hu4.block, hu4.cell, hu4.there, hu4.frozen⟩
  have hlist : Tl.list ++ (a, b) :: Tr.list = xs := by
    rw [hll, hlr]
    have h1 := List.take_append_drop mid xs
    have h2 : xs.drop mid = (a, b) :: xs.drop (mid + 1) := by
      obtain ⟨hk, he⟩ := List.getElem?_eq_some_iff.1 hxm
      rw [List.drop_eq_getElem_cons hk, he]
    rw [h2] at h1; exact h1
  have old : ∀ j u, j < t + 5 → j ≠ t + 3 → W2.cell? ⟨N, j, none⟩ = some u → (w3.setCell ⟨N, t + 3, none⟩ (.pointer pr)).cell? ⟨N, j, none⟩ = some u := fun j u hj hne h =>
    cell_set_ne ((hu4'.cell j (.inl hj)).trans h) (fun e => hne e.symm)
  refine ⟨some ⟨N, t, none⟩, .node Tl (a, b) Tr, rfl, ⟨t, pl, pr, rfl, by omega, by omega, old _ _ (by omega) (by omega) e0, old _ _ (by omega) (by omega) e1, old _ _ (by omega) (by omega) e2, cell_set_eq e3, ?_, ?_, ?_⟩, hlist, ?_⟩
  · rw [hlist, hx]; exact old _ _ (by omega) (by omega) e4
  · refine (htl.same (w' := w3.setCell ⟨N, t + 3, none⟩ (.pointer pr)) (fun j _ hj => ?_)).wide (Nat.le_refl _) (by omega)
    rw [World.cell?_setCell_other _ _ _ _ (by intro e; injection e with _ e2 _; omega)]
    exact hu4'.cell j (.inl (by omega))
  · refine (htr.same (w' := w3.setCell ⟨N, t + 3, none⟩ (.pointer pr)) (fun j hj _ => ?_)).wide (by omega) (Nat.le_refl _)
    exact World.cell?_setCell_other _ _ _ _ (by intro e; injection e with _ e2 _; omega)
  · exact (((hu1.mono (by omega) (by omega)).trans (hu3.mono (Nat.le_refl _) (by omega))).trans (hu4'.mono (by omega) (Nat.le_refl _))).set _ (by omega) (by omega)

/-- What build says at k elements, the number written otherwise. -/
theorem tailXAt {m k : Nat} (ih : ∀ k, k < m → BuildXAt k) (r : Nat) (hr : r = k) (hk : k < m) (an ae : Option Addr) (N lo nc E eo ec : Nat) (xs : List Etr) (w : World) (hx : xs.length = k) (ha : k ≠ 0 → an = some ⟨N, lo, none⟩ ∧ ae = some ⟨E, eo, none⟩ ∧ k ≤ nc ∧ k ≤ ec ∧ E ≠ N) (hroom : Room w N lo k) (hruns : EntrsAt w E eo xs) :
    Calls Try.prog 79 #[.slice an r nc, .slice ae r ec] w (BuildXRet w N lo k xs) := by
  subst hr
  exact ih r hk an ae N lo nc E eo ec xs w hx ha hroom hruns

end Go.Proofs.Qxb6608633a
