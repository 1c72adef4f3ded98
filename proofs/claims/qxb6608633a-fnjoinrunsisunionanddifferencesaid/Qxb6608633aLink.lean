/- Trees of runs: weight, outweighs, node. -/
import Derived.Test.Qxb6608633aAtR
import Derived.Deep.DeepCutAuto
namespace Go.Proofs.Qxb6608633a
open Go.RowKit

theorem weight_any (p : Option Addr) (T : BT Run) (w : World) (h : RTree w p T) (hl : T.list.length ≤ 1000000000) : Calls Try.prog 110 #[.pointer p] w fun e w' => e = .returned (.int .i64 (T.list.length + 1 : Nat)) ∧ w' = w := by
  have H := hidd (lenR_any p T w h)
  clear h
  go_enter Try.func110, Try.ntmps110
  go_wp2_with fail
  refine H.out.mono ?_
  rintro e wq ⟨rfl, hwq⟩
  rw [hwq]
  clear hwq wq
  go_wp2
  go_ret
  exact ⟨rfl, rfl⟩

theorem ret_bool {a b : Bool} (h : a = b) : Ending.returned (.bool a) = .returned (.bool b) := by rw [h]
theorem cell_new2 {w : World} {b t i : Nat} {cs : Array Value} {v : Value} (hb : b = w.heap.size) (hv : cs[i]? = some v) : (w.alloc (.cells cs t)).cell? ⟨b, i, none⟩ = some v := by
  subst hb
  have h := World.alloc_heap_new w (.cells cs t)
  unfold World.cell?
  simp only [h]
  exact hv
def heavier (a b : Nat) : Bool := decide (3 * (b + 1) < a + 1)

theorem outweighs_any (p q : Option Addr) (T U : BT Run) (w : World) (h : RTree w p T) (g : RTree w q U) (hl : T.list.length ≤ 1000000000) (gl : U.list.length ≤ 1000000000) :
    Calls Try.prog 98 #[.pointer p, .pointer q] w fun e w' => e = .returned (.bool (heavier T.list.length U.list.length)) ∧ w' = w := by
  have H := hidd (weight_any p T w h hl)
  have G := hidd (weight_any q U w g gl)
  clear h g
  go_enter Try.func98, Try.ntmps98
  go_wp2_with fail
  refine H.out.mono ?_
  rintro e wq ⟨rfl, hwq⟩
  rw [hwq]
  clear hwq wq
  go_wp2_with fail
  refine G.out.mono ?_
  rintro e wq ⟨rfl, hwq⟩
  rw [hwq]
  clear hwq wq
  have k1 : IntKind.i64.wrap (3 * ((U.list.length : Int) + 1)) = 3 * ((U.list.length : Int) + 1) := IntWalk.i64_in _ (by omega)
  go_wp2
  go_ret
  exact ⟨ret_bool (by unfold heavier; rw [decide_eq_decide]; omega), rfl⟩

theorem RTree.drew {w : World} {p : Option Addr} {T : BT Run} (h : RTree w p T) : RTree w.drew p T := h.to (show Below w.heap.size w w.drew from ⟨rfl, rfl, rfl, Nat.le_refl _, fun _ _ => rfl⟩)

set_option maxHeartbeats 1000000 in
set_option maxRecDepth 100000 in
theorem node_any (pl pr : Option Addr) (L R : BT Run) (x : Run) (w : World) (hL : RTree w pl L) (hR : RTree w pr R) (hl : L.list.length ≤ 1000000000) (hr : R.list.length ≤ 1000000000) :
    Calls Try.prog 100 #[.pointer pl, .agg #[.int .u64 x.1, .int .u64 x.2], .pointer pr] w (TreeRet w (L.list ++ x :: R.list)) := by
  have kb := below_self w (.cells #[.int .u64 x.1, .int .u64 x.2] 94)
  have e0 : (w.alloc (.cells #[.int .u64 x.1, .int .u64 x.2] 94)).cell? ⟨w.heap.size, 0, none⟩ = some (.int .u64 x.1) := by simp
  have e1 : (w.alloc (.cells #[.int .u64 x.1, .int .u64 x.2] 94)).cell? ⟨w.heap.size, 1, none⟩ = some (.int .u64 x.2) := by simp
  have HL := hidd (hL.to kb)
  have HR := hidd (hR.to kb)
  have CL := hidd (lenR_any pl L _ (hL.to kb).drew)
  have CR := hidd (lenR_any pr R _ (hR.to kb).drew)
  have k1 : IntKind.i64.wrap ((L.list.length : Int) + (R.list.length : Int)) = (L.list.length : Int) + (R.list.length : Int) := IntWalk.i64_in _ (by omega)
  have k2 : IntKind.i64.wrap ((L.list.length : Int) + (R.list.length : Int) + 1) = (L.list.length : Int) + (R.list.length : Int) + 1 := IntWalk.i64_in _ (by omega)
  clear hL hR
  go_enter Try.func100, Try.ntmps100
  go_wp2_with fail
  generalize hw0 : w.alloc (.cells #[.int .u64 x.1, .int .u64 x.2] 94) = w0 at *
  have hfin : ∀ wr, Below w0.heap.size w0 wr → Below w.heap.size w wr := fun wr h => kb.trans (h.mono kb.size)
  clear hw0
  go_region_held3 (fun w' => w'.cell? ⟨w.heap.size, 0, none⟩ = some (.int .u64 x.1) ∧ w'.cell? ⟨w.heap.size, 1, none⟩ = some (.int .u64 x.2)) (first | assumption | exact ⟨keepA _ (by assumption), keepA _ (by assumption)⟩ | exact ⟨e0, e1⟩ | go_keep) (first | (go_at_call 49; refine CL.out.mono ?_; rintro e wq ⟨rfl, hwq⟩; rw [hwq]; clear hwq wq) | (go_at_call 49; refine CR.out.mono ?_; rintro e wq ⟨rfl, hwq⟩; rw [hwq]; clear hwq wq))
  go_wp2
  go_ret
  have hb : Below w0.heap.size w0 (w0.alloc (.cells #[.int .u64 x.1, .int .u64 x.2, .pointer pl, .pointer pr, .int .i64 ((L.list.length : Int) + (R.list.length : Int) + 1)] 136)).drew := (below_self w0 _).drew
  have hlen : (((L.list ++ x :: R.list).length : Nat) : Int) = (L.list.length : Int) + (R.list.length : Int) + 1 := by simp; omega
  refine ⟨some ⟨w0.heap.size, 0, none⟩, .node L x R, rfl, ⟨w0.heap.size, 0, pl, pr, rfl, ?_, ?_, ?_, ?_, ?_, HL.out.to hb, HR.out.to hb⟩, rfl, hfin _ hb⟩
  · exact cell_new2 rfl rfl
  · exact cell_new2 rfl rfl
  · exact cell_new2 rfl rfl
  · exact cell_new2 rfl rfl
  · rw [hlen]; exact cell_new2 rfl rfl

end Go.Proofs.Qxb6608633a
