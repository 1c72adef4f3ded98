/- Trees of runs in memory: the ghost, its laws. -/
import Derived.Test.Qxb6608633aFieldsOne
namespace Go.Proofs.Qxb6608633a
open Go.RowKit

inductive BT (α : Type) where
  | nil : BT α
  | node : BT α → α → BT α → BT α

def BT.list {α : Type} : BT α → List α
  | .nil => []
  | .node l x r => l.list ++ x :: r.list

abbrev Run := Int × Int

/-- The tree at p: its nodes lie in block N between lo and hi. -/
def RTreeIn (w : World) (N lo hi : Nat) : Option Addr → BT Run → Prop
  | p, .nil => p = none
  | p, .node l x r => ∃ off pl pr, p = some ⟨N, off, none⟩ ∧ lo ≤ off ∧ off + 5 ≤ hi ∧ w.cell? ⟨N, off, none⟩ = some (.int .u64 x.1) ∧ w.cell? ⟨N, off + 1, none⟩ = some (.int .u64 x.2) ∧
      w.cell? ⟨N, off + 2, none⟩ = some (.pointer pl) ∧ w.cell? ⟨N, off + 3, none⟩ = some (.pointer pr) ∧ w.cell? ⟨N, off + 4, none⟩ = some (.int .i64 ((l.list ++ x :: r.list).length : Nat)) ∧ RTreeIn w N lo hi pl l ∧ RTreeIn w N lo hi pr r

/-- The tree at p, wherever its nodes lie. -/
def RTree (w : World) : Option Addr → BT Run → Prop
  | p, .nil => p = none
  | p, .node l x r => ∃ N off pl pr, p = some ⟨N, off, none⟩ ∧ w.cell? ⟨N, off, none⟩ = some (.int .u64 x.1) ∧ w.cell? ⟨N, off + 1, none⟩ = some (.int .u64 x.2) ∧
      w.cell? ⟨N, off + 2, none⟩ = some (.pointer pl) ∧ w.cell? ⟨N, off + 3, none⟩ = some (.pointer pr) ∧ w.cell? ⟨N, off + 4, none⟩ = some (.int .i64 ((l.list ++ x :: r.list).length : Nat)) ∧ RTree w pl l ∧ RTree w pr r

theorem RTreeIn.tree {w : World} {N lo hi : Nat} : ∀ {T : BT Run} {p : Option Addr}, RTreeIn w N lo hi p T → RTree w p T
  | .nil, _, h => h
  | .node _ _ _, _, ⟨off, pl, pr, h1, _, _, h2, h3, h4, h5, h6, hl, hr⟩ => ⟨N, off, pl, pr, h1, h2, h3, h4, h5, h6, hl.tree, hr.tree⟩

theorem RTreeIn.same {w w' : World} {N lo hi : Nat} (hc : ∀ j, lo ≤ j → j < hi → w'.cell? ⟨N, j, none⟩ = w.cell? ⟨N, j, none⟩) : ∀ {T : BT Run} {p : Option Addr}, RTreeIn w N lo hi p T → RTreeIn w' N lo hi p T
  | .nil, _, h => h
  | .node _ _ _, _, ⟨off, pl, pr, h1, a, b, h2, h3, h4, h5, h6, hl, hr⟩ =>
    ⟨off, pl, pr, h1, a, b, (hc _ (by omega) (by omega)).trans h2, (hc _ (by omega) (by omega)).trans h3, (hc _ (by omega) (by omega)).trans h4, (hc _ (by omega) (by omega)).trans h5, (hc _ (by omega) (by omega)).trans h6, hl.same hc, hr.same hc⟩

theorem RTreeIn.wide {w : World} {N lo hi lo' hi' : Nat} (h1 : lo' ≤ lo) (h2 : hi ≤ hi') : ∀ {T : BT Run} {p : Option Addr}, RTreeIn w N lo hi p T → RTreeIn w N lo' hi' p T
  | .nil, _, h => h
  | .node _ _ _, _, ⟨off, pl, pr, e, a, b, c1, c2, c3, c4, c5, hl, hr⟩ => ⟨off, pl, pr, e, by omega, by omega, c1, c2, c3, c4, c5, hl.wide h1 h2, hr.wide h1 h2⟩

theorem RTree.to {a b : World} (k : Below a.heap.size a b) : ∀ {T : BT Run} {p : Option Addr}, RTree a p T → RTree b p T
  | .nil, _, h => h
  | .node _ _ _, _, ⟨N, off, pl, pr, e, c1, c2, c3, c4, c5, hl, hr⟩ => ⟨N, off, pl, pr, e, cell_to k c1, cell_to k c2, cell_to k c3, cell_to k c4, cell_to k c5, hl.to k, hr.to k⟩

/-- Nothing has turned but cells of block N between lo and hi. -/
structure Upd (w w' : World) (N lo hi : Nat) : Prop where
  os : w'.os = w.os
  tape : w'.tape = w.tape
  output : w'.output = w.output
  size : w'.heap.size = w.heap.size
  block : ∀ k, k ≠ N → w'.heap[k]? = w.heap[k]?
  cell : ∀ j, j < lo ∨ hi ≤ j → w'.cell? ⟨N, j, none⟩ = w.cell? ⟨N, j, none⟩
  there : ∀ j, (w.cell? ⟨N, j, none⟩).isSome = true → (w'.cell? ⟨N, j, none⟩).isSome = true
  frozen : ∀ j, w'.frozen? ⟨N, j, none⟩ = w.frozen? ⟨N, j, none⟩

theorem Upd.refl (w : World) (N lo hi : Nat) : Upd w w N lo hi := ⟨rfl, rfl, rfl, rfl, fun _ _ => rfl, fun _ _ => rfl, fun _ h => h, fun _ => rfl⟩
theorem Upd.trans {a b c : World} {N lo hi : Nat} (h : Upd a b N lo hi) (k : Upd b c N lo hi) : Upd a c N lo hi :=
  ⟨k.os.trans h.os, k.tape.trans h.tape, k.output.trans h.output, k.size.trans h.size, fun i hi => (k.block i hi).trans (h.block i hi), fun j hj => (k.cell j hj).trans (h.cell j hj), fun j hj => k.there j (h.there j hj), fun j => (k.frozen j).trans (h.frozen j)⟩
theorem Upd.mono {a b : World} {N lo hi lo' hi' : Nat} (h : Upd a b N lo hi) (h1 : lo' ≤ lo) (h2 : hi ≤ hi') : Upd a b N lo' hi' :=
  ⟨h.os, h.tape, h.output, h.size, h.block, fun j hj => h.cell j (by omega), h.there, h.frozen⟩
theorem Upd.set {a b : World} {N lo hi i : Nat} (h : Upd a b N lo hi) (v : Value) (h1 : lo ≤ i) (h2 : i < hi) : Upd a (b.setCell ⟨N, i, none⟩ v) N lo hi :=
  ⟨h.os, h.tape, h.output, by simpa [World.setCell] using h.size, fun k hk => (Below.heap_setCell _ _ _ _ hk).trans (h.block k hk),
    fun j hj => (World.cell?_setCell_other _ _ _ _ (by intro e; injection e with _ e2 _; omega)).trans (h.cell j hj),
    fun j hj => by
      have := h.there j hj
      by_cases e : j = i
      · subst e
        cases hc : b.cell? ⟨N, j, none⟩ with
        | none => rw [hc] at this; cases this
        | some u => rw [World.cell?_setCell_same' _ _ _ (by rw [hc]; rfl)]; rfl
      · rw [World.cell?_setCell_other _ _ _ _ (by intro e'; injection e' with _ e2 _; omega)]; exact this,
    fun j => by rw [World.frozen?_setCell]; exact h.frozen j⟩
theorem Upd.below {a b : World} {N lo hi B : Nat} (h : Upd a b N lo hi) (hB : B ≤ N) : Below B a b := ⟨h.os, h.tape, h.output, by rw [h.size]; exact Nat.le_refl _, fun k hk => h.block k (by omega)⟩
theorem Upd.other {a b : World} {N lo hi : Nat} (h : Upd a b N lo hi) {p : Addr} (hp : p.block ≠ N) : b.cell? p = a.cell? p := World.cell?_of_block (w := a) (h.block p.block hp)

/-- m nodes have room from lo on. -/
def Room (w : World) (N lo m : Nat) : Prop := ∀ j, j < m * 5 → (w.cell? ⟨N, lo + j, none⟩).isSome = true ∧ w.frozen? ⟨N, lo + j, none⟩ = false
theorem Room.upd {a b : World} {N lo m l h : Nat} (r : Room a N lo m) (u : Upd a b N l h) : Room b N lo m := fun j hj => ⟨u.there _ (r j hj).1, (u.frozen _).trans (r j hj).2⟩
end Go.Proofs.Qxb6608633a
