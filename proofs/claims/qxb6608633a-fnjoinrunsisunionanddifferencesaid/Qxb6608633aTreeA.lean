/- Trees of runs that avoid a block. -/
import Derived.Test.Qxb6608633aJoinQ
namespace Go.Proofs.Qxb6608633a
open Go.RowKit

/-- The tree at p, none of its nodes in block g. -/
def RTreeA (g : Nat) (w : World) : Option Addr → BT Run → Prop
  | p, .nil => p = none
  | p, .node l x r => ∃ N off pl pr, p = some ⟨N, off, none⟩ ∧ N ≠ g ∧ w.cell? ⟨N, off, none⟩ = some (.int .u64 x.1) ∧ w.cell? ⟨N, off + 1, none⟩ = some (.int .u64 x.2) ∧
      w.cell? ⟨N, off + 2, none⟩ = some (.pointer pl) ∧ w.cell? ⟨N, off + 3, none⟩ = some (.pointer pr) ∧ w.cell? ⟨N, off + 4, none⟩ = some (.int .i64 ((l.list ++ x :: r.list).length : Nat)) ∧ RTreeA g w pl l ∧ RTreeA g w pr r
theorem RTreeA.tree {g : Nat} {w : World} : ∀ {T : BT Run} {p : Option Addr}, RTreeA g w p T → RTree w p T
  | .nil, _, h => h
  | .node _ _ _, _, ⟨N, off, pl, pr, e, _, c1, c2, c3, c4, c5, hl, hr⟩ => ⟨N, off, pl, pr, e, c1, c2, c3, c4, c5, hl.tree, hr.tree⟩
theorem RTree.toA {g : Nat} {w : World} (hg : w.heap.size ≤ g) : ∀ {T : BT Run} {p : Option Addr}, RTree w p T → RTreeA g w p T
  | .nil, _, h => h
  | .node _ _ _, _, ⟨N, off, pl, pr, e, c1, c2, c3, c4, c5, hl, hr⟩ => ⟨N, off, pl, pr, e, by have := World.block_lt_of_cell? w _ c1; have h : N < w.heap.size := this; omega, c1, c2, c3, c4, c5, hl.toA hg, hr.toA hg⟩
theorem RTreeA.to {g : Nat} {a b : World} (k : Below a.heap.size a b) : ∀ {T : BT Run} {p : Option Addr}, RTreeA g a p T → RTreeA g b p T
  | .nil, _, h => h
  | .node _ _ _, _, ⟨N, off, pl, pr, e, hN, c1, c2, c3, c4, c5, hl, hr⟩ => ⟨N, off, pl, pr, e, hN, cell_to k c1, cell_to k c2, cell_to k c3, cell_to k c4, cell_to k c5, hl.to k, hr.to k⟩
/-- A change of block g alone leaves the tree. -/
theorem RTreeA.off {g : Nat} {a b : World} (k : ∀ N, N ≠ g → N < a.heap.size → b.heap[N]? = a.heap[N]?) : ∀ {T : BT Run} {p : Option Addr}, RTreeA g a p T → RTreeA g b p T
  | .nil, _, h => h
  | .node _ _ _, _, ⟨N, off, pl, pr, e, hN, c1, c2, c3, c4, c5, hl, hr⟩ => by
    have hlt : N < a.heap.size := World.block_lt_of_cell? a _ c1
    have hc : ∀ j, b.cell? ⟨N, j, none⟩ = a.cell? ⟨N, j, none⟩ := fun j => World.cell?_of_block (k N hN hlt)
    exact ⟨N, off, pl, pr, e, hN, (hc _).trans c1, (hc _).trans c2, (hc _).trans c3, (hc _).trans c4, (hc _).trans c5, hl.off k, hr.off k⟩
theorem RTreeA.open {g : Nat} {w : World} {p : Option Addr} {l r : BT Run} {x : Run} (h : RTreeA g w p (.node l x r)) : ∃ N off pl pr, p = some ⟨N, off, none⟩ ∧ w.cell? ⟨N, off, none⟩ = some (.int .u64 x.1) ∧ w.cell? ⟨N, off + 1, none⟩ = some (.int .u64 x.2) ∧
      w.cell? ⟨N, off + 2, none⟩ = some (.pointer pl) ∧ w.cell? ⟨N, off + 3, none⟩ = some (.pointer pr) ∧ RTreeA g w pl l ∧ RTreeA g w pr r := by
  obtain ⟨N, off, pl, pr, h1, _, h2, h3, h4, h5, _, h6, h7⟩ := h
  exact ⟨N, off, pl, pr, h1, h2, h3, h4, h5, h6, h7⟩
theorem RTreeA.drew {g : Nat} {w : World} {p : Option Addr} {T : BT Run} (h : RTreeA g w p T) : RTreeA g w.drew p T := h.to (show Below w.heap.size w w.drew from ⟨rfl, rfl, rfl, Nat.le_refl _, fun _ _ => rfl⟩)
theorem RTreeA.none_iff {g : Nat} {w : World} {p : Option Addr} {T : BT Run} (h : RTreeA g w p T) : (p = none ∧ T = .nil) ∨ ∃ a l x r, p = some a ∧ T = .node l x r := h.tree.none_iff
theorem lt_to {g : Nat} {a b : World} (h : g < a.heap.size) (k : Below a.heap.size a b) : g < b.heap.size := Nat.lt_of_lt_of_le h k.size

def TreeRetA (g : Nat) (w : World) (xs : List Run) (e : Ending) (w' : World) : Prop := ∃ p T, e = .returned (.pointer p) ∧ RTreeA g w' p T ∧ T.list = xs ∧ Below w.heap.size w w'

set_option maxHeartbeats 1000000 in
set_option maxRecDepth 100000 in
theorem node_a (g : Nat) (pl pr : Option Addr) (L R : BT Run) (x : Run) (w : World) (hg : g < w.heap.size) (hL : RTreeA g w pl L) (hR : RTreeA g w pr R) (hl : L.list.length ≤ 1000000000) (hr : R.list.length ≤ 1000000000) :
    Calls Try.prog 100 #[.pointer pl, .agg #[.int .u64 x.1, .int .u64 x.2], .pointer pr] w (TreeRetA g w (L.list ++ x :: R.list)) := by
  have kb := below_self w (.cells #[.int .u64 x.1, .int .u64 x.2] 94)
  have e0 : (w.alloc (.cells #[.int .u64 x.1, .int .u64 x.2] 94)).cell? ⟨w.heap.size, 0, none⟩ = some (.int .u64 x.1) := by simp
  have e1 : (w.alloc (.cells #[.int .u64 x.1, .int .u64 x.2] 94)).cell? ⟨w.heap.size, 1, none⟩ = some (.int .u64 x.2) := by simp
  have HL := hidd (hL.to kb)
  have HR := hidd (hR.to kb)
  have CL := hidd (lenR_any pl L _ (hL.to kb).drew.tree)
  have CR := hidd (lenR_any pr R _ (hR.to kb).drew.tree)
  have k1 : IntKind.i64.wrap ((L.list.length : Int) + (R.list.length : Int)) = (L.list.length : Int) + (R.list.length : Int) := IntWalk.i64_in _ (by omega)
  have k2 : IntKind.i64.wrap ((L.list.length : Int) + (R.list.length : Int) + 1) = (L.list.length : Int) + (R.list.length : Int) + 1 := IntWalk.i64_in _ (by omega)
  have hg0 := lt_to hg kb
  clear hL hR
  go_enter Try.func100, Try.ntmps100
  go_wp2_with fail
  generalize hw0 : w.alloc (.cells #[.int .u64 x.1, .int .u64 x.2] 94) = w0 at *
  have hfin : ∀ wr, Below w0.heap.size w0 wr → Below w.heap.size w wr := fun wr h => kb.trans (h.mono kb.size)
  clear hw0
  go_region_held3 (fun w' => w'.cell? ⟨w.heap.size, 0, none⟩ = some (.int .u64 x.1) ∧ w'.cell? ⟨w.heap.size, 1, none⟩ = some (.int .u64 x.2)) (first | assumption | exact ⟨keepA _ (by assumption), keepA _ (by assumption)⟩ | exact ⟨e0, e1⟩ | go_keep) (first | (go_at_call 49; (with_reducible refine CL.out.mono ?_); rintro e wq ⟨rfl, hwq⟩; rw [hwq]; clear hwq wq) | (go_at_call 49; (with_reducible refine CR.out.mono ?_); rintro e wq ⟨rfl, hwq⟩; rw [hwq]; clear hwq wq))
  go_wp2
  go_ret
  have hb : Below w0.heap.size w0 (w0.alloc (.cells #[.int .u64 x.1, .int .u64 x.2, .pointer pl, .pointer pr, .int .i64 ((L.list.length : Int) + (R.list.length : Int) + 1)] 136)).drew := (below_self w0 _).drew
  have hlen : (((L.list ++ x :: R.list).length : Nat) : Int) = (L.list.length : Int) + (R.list.length : Int) + 1 := by simp; omega
  refine ⟨some ⟨w0.heap.size, 0, none⟩, .node L x R, rfl, ⟨w0.heap.size, 0, pl, pr, rfl, by omega, ?_, ?_, ?_, ?_, ?_, HL.out.to hb, HR.out.to hb⟩, rfl, hfin _ hb⟩
  · exact cell_new2 rfl rfl
  · exact cell_new2 rfl rfl
  · exact cell_new2 rfl rfl
  · exact cell_new2 rfl rfl
  · rw [hlen]; exact cell_new2 rfl rfl

end Go.Proofs.Qxb6608633a
