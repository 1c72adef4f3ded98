/- Trees of runs: weight, outweighs, node. -/
import Derived.Test.Qxb6608633aAtR
import Derived.Deep.DeepCutAuto
namespace Go.Proofs.Qxb6608633a
open Go.RowKit

theorem weight_any (p : Option Addr) (T : BT Run) (w : World) (h : RTree w p T) (hl : T.list.length ≤ 1000000000) : Calls Try.prog 110 #[.pointer p] w fun e w' => e = .returned (.int .i64 (T.list.length + 1 : Nat)) ∧ w' = w := by
  have H := hidd (lenR_any p T w h)
  clear h
  go_enter Try.func110, Try.ntmps110
  go_wp2_with fail
  refine H.out.mono ?_
  rintro e wq ⟨rfl, hwq⟩
  rw [hwq]
  clear hwq wq
  go_wp2
  go_ret
  exact ⟨rfl, rfl⟩

theorem ret_bool {a b : Bool} (h : a = b) : Ending.returned (.bool a) = .returned (.bool b) := by rw [h]
theorem cell_new2 {w : World} {b t i : Nat} {cs : Array Value} {v : Value} (hb : b = w.heap.size) (hv : cs[i]? = some v) : (w.alloc (.cells cs t)).cell? ⟨b, i, none⟩ = some v := by
  subst hb
  have h := World.alloc_heap_new w (.cells cs t)
  unfold World.cell?
  simp only [h]
  exact hv
def heavier (a b : Nat) : Bool := decide (3 * (b + 1) < a + 1)

theorem outweighs_any (p q : Option Addr) (T U : BT Run) (w : World) (h : RTree w p T) (g : RTree w q U) (hl : T.list.length ≤ 1000000000) (gl : U.list.length ≤ 1000000000) :
    Calls Try.prog 98 #[.pointer p, .pointer q] w fun e w' => e = .returned (.bool (heavier T.list.length U.list.length)) ∧ w' = w := by
  have H := hidd (weight_any p T w h hl)
  have G := hidd (weight_any q U w g gl)
  clear h g
  go_enter Try.func98, Try.ntmps98
  go_wp2_with fail
  refine H.out.mono ?_
  rintro e wq ⟨rfl, hwq⟩
  rw [hwq]
  clear hwq wq
  go_wp2_with fail
  refine G.out.mono ?_
  rintro e wq ⟨rfl, hwq⟩
  rw [hwq]
  clear hwq wq
  have k1 : IntKind.i64.wrap (3 * ((U.list.length : Int) + 1)) = 3 * ((U.list.length : Int) + 1) := IntWalk.i64_in _ (by omega)
  go_wp2
  go_ret
  exact ⟨ret_bool (by unfold heavier; rw [decide_eq_decide]; omega), rfl⟩

end Go.Proofs.Qxb6608633a
