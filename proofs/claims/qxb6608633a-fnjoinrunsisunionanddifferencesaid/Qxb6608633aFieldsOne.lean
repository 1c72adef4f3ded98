/- ZZContextFields of a context of one entry with one run. -/
import Derived.Test.Qxb6608633aCtxOne
namespace Go.Proofs.Qxb6608633a
open Go.RowKit

theorem below_to {B : Nat} {a b c : World} (h : Below B a b) (k : Below b.heap.size b c) (hB : B ≤ b.heap.size) : Below B a c := h.trans (k.mono hB)
theorem cell_to {a b : World} {p : Addr} {v : Value} (k : Below a.heap.size a b) (h : a.cell? p = some v) : b.cell? p = some v := (k.cell (World.block_lt_of_cell? a p h)).trans h
theorem below_self (w : World) (o : Obj) : Below w.heap.size w (w.alloc o) := (Below.refl _ _).alloc (Nat.le_refl _) _

theorem news1 {A : World} {b t : Nat} {x : Value} (hb : b = A.heap.size) : ∀ j u, [x][j]? = some u → (A.alloc (.cells #[x] t)).cell? ((⟨b, 0, none⟩ : Addr).add j) = some u := by
  subst hb
  intro j u hj
  match j, hj with
  | 0, hj => simp at hj; subst hj; simp [Addr.add]

theorem oneV {x : Value} (h : x.oneCell' = true) : ∀ u ∈ [x], u.oneCell' = true := by intro u hu; simp at hu; subst hu; exact h

end Go.Proofs.Qxb6608633a
