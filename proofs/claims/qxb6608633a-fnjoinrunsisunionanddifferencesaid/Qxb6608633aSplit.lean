/- putRun$1, partition$1, partition$2; parting a tree. -/
import Derived.Test.Qxb6608633aSeqR
namespace Go.Proofs.Qxb6608633a
open Go.RowKit

/-- How the run t lies to the run r: before it, touching it, behind it. -/
def cmpR (r t : Run) : Int := if t.2 < r.1 - 1 then -1 else if r.2 < t.1 - 1 then 1 else 0

/-- A run within the counters' range. -/
def InU (t : Run) : Prop := 1 ≤ t.1 ∧ t.1 ≤ 18446744073709551615 ∧ 0 ≤ t.2 ∧ t.2 ≤ 18446744073709551615

set_option maxHeartbeats 1000000 in
theorem cmp87 (t r : Run) (Br : Nat) (w : World) (ht : InU t) (hr : InU r) (h0 : w.cell? ⟨Br, 0, none⟩ = some (.int .u64 r.1)) (h1 : w.cell? ⟨Br, 1, none⟩ = some (.int .u64 r.2)) :
    Calls Try.prog 87 #[.agg #[.int .u64 t.1, .int .u64 t.2], .pointer (some ⟨Br, 0, none⟩)] w (RetV w (.int .i64 (cmpR r t))) := by
  have kb := below_self w (.cells #[.int .u64 t.1, .int .u64 t.2] 94)
  have e0 : (w.alloc (.cells #[.int .u64 t.1, .int .u64 t.2] 94)).cell? ⟨w.heap.size, 0, none⟩ = some (.int .u64 t.1) := by simp
  have e1 : (w.alloc (.cells #[.int .u64 t.1, .int .u64 t.2] 94)).cell? ⟨w.heap.size, 1, none⟩ = some (.int .u64 t.2) := by simp
  have f0 := cell_to kb h0
  have f1 := cell_to kb h1
  obtain ⟨a1, a2, a3, a4⟩ := ht
  obtain ⟨b1, b2, b3, b4⟩ := hr
  have k1 : IntKind.u64.wrap (r.1 - 1) = r.1 - 1 := IntWalk.u64_in _ (by omega)
  have k2 : IntKind.u64.wrap (t.1 - 1) = t.1 - 1 := IntWalk.u64_in _ (by omega)
  clear h0 h1
  by_cases c1 : t.2 < r.1 - 1
  · have hv := hidd (show cmpR r t = -1 by unfold cmpR; rw [if_pos c1])
    go_enter Try.func87, Try.ntmps87
    go_wp2
    go_ret
    exact ⟨ret_int hv.out.symm, kb⟩
  · by_cases c2 : r.2 < t.1 - 1
    · have hv := hidd (show cmpR r t = 1 by unfold cmpR; rw [if_neg c1, if_pos c2])
      go_enter Try.func87, Try.ntmps87
      go_wp2
      go_ret
      exact ⟨ret_int hv.out.symm, kb⟩
    · have hv := hidd (show cmpR r t = 0 by unfold cmpR; rw [if_neg c1, if_neg c2])
      go_enter Try.func87, Try.ntmps87
      go_wp2
      go_ret
      exact ⟨ret_int hv.out.symm, kb⟩

/-- The closures' boxes: the comparison, and the run that it captures. -/
def Clo (w : World) (Bc Br : Nat) (r : Run) : Prop :=
  w.cell? ⟨Bc, 0, none⟩ = some (.func (.func 87) #[] #[.pointer (some ⟨Br, 0, none⟩)]) ∧ w.cell? ⟨Br, 0, none⟩ = some (.int .u64 r.1) ∧ w.cell? ⟨Br, 1, none⟩ = some (.int .u64 r.2)
theorem Clo.to {a b : World} {Bc Br : Nat} {r : Run} (k : Below a.heap.size a b) (h : Clo a Bc Br r) : Clo b Bc Br r := ⟨cell_to k h.1, cell_to k h.2.1, cell_to k h.2.2⟩

def P96 (r t : Run) : Bool := decide (cmpR r t < 0)
def P97 (r t : Run) : Bool := cmpR r t == 0

set_option maxHeartbeats 1000000 in
theorem part96 (t r : Run) (Bc Br : Nat) (w : World) (ht : InU t) (hr : InU r) (hc : Clo w Bc Br r) :
    Calls Try.prog 96 #[.agg #[.int .u64 t.1, .int .u64 t.2], .pointer (some ⟨Bc, 0, none⟩)] w (RetV w (.bool (P96 r t))) := by
  have kb := below_self w (.cells #[.int .u64 t.1, .int .u64 t.2] 94)
  have e0 : (w.alloc (.cells #[.int .u64 t.1, .int .u64 t.2] 94)).cell? ⟨w.heap.size, 0, none⟩ = some (.int .u64 t.1) := by simp
  have e1 : (w.alloc (.cells #[.int .u64 t.1, .int .u64 t.2] 94)).cell? ⟨w.heap.size, 1, none⟩ = some (.int .u64 t.2) := by simp
  obtain ⟨d0, d1, d2⟩ := hc.to kb
  have C := hidd (cmp87 t r Br _ ht hr d1 d2)
  clear ht hr hc d1 d2
  go_enter Try.func96, Try.ntmps96
  go_wp2_with (go_at_call 87; refine C.out.mono ?_; rintro e w' ⟨rfl, hb⟩)
  go_ret
  exact ⟨ret_bool rfl, kb.trans (hb.mono kb.size)⟩

set_option maxHeartbeats 1000000 in
theorem part97 (t r : Run) (Bc Br : Nat) (w : World) (ht : InU t) (hr : InU r) (hc : Clo w Bc Br r) :
    Calls Try.prog 97 #[.agg #[.int .u64 t.1, .int .u64 t.2], .pointer (some ⟨Bc, 0, none⟩)] w (RetV w (.bool (P97 r t))) := by
  have kb := below_self w (.cells #[.int .u64 t.1, .int .u64 t.2] 94)
  have e0 : (w.alloc (.cells #[.int .u64 t.1, .int .u64 t.2] 94)).cell? ⟨w.heap.size, 0, none⟩ = some (.int .u64 t.1) := by simp
  have e1 : (w.alloc (.cells #[.int .u64 t.1, .int .u64 t.2] 94)).cell? ⟨w.heap.size, 1, none⟩ = some (.int .u64 t.2) := by simp
  obtain ⟨d0, d1, d2⟩ := hc.to kb
  have C := hidd (cmp87 t r Br _ ht hr d1 d2)
  clear ht hr hc d1 d2
  go_enter Try.func97, Try.ntmps97
  go_wp2_with (go_at_call 87; refine C.out.mono ?_; rintro e w' ⟨rfl, hb⟩)
  go_ret
  exact ⟨ret_bool rfl, kb.trans (hb.mono kb.size)⟩

theorem RTree.none_iff {w : World} {p : Option Addr} {T : BT Run} (h : RTree w p T) : (p = none ∧ T = .nil) ∨ ∃ a l x r, p = some a ∧ T = .node l x r := by
  cases T with
  | nil => exact .inl ⟨h, rfl⟩
  | node l x r =>
    obtain ⟨N, off, _, _, hp, _⟩ := h
    exact .inr ⟨_, l, x, r, hp, rfl⟩

/-- The first elements are those for which P holds. -/
def Mono (P : Run → Bool) (xs : List Run) : Prop := xs.Pairwise (fun x y => P y = true → P x = true)
theorem mono_parts {P : Run → Bool} {l r : BT Run} {x : Run} (h : Mono P (BT.node l x r).list) : Mono P l.list ∧ Mono P r.list ∧ (P x = true → ∀ y ∈ l.list, P y = true) ∧ (P x = false → ∀ y ∈ r.list, P y = false) := by
  unfold Mono at *
  simp only [BT.list] at h
  rw [List.pairwise_append] at h
  obtain ⟨h1, h2, h3⟩ := h
  rw [List.pairwise_cons] at h2
  refine ⟨h1, h2.2, fun hx y hy => h3 y hy x (by simp) hx, fun hx y hy => ?_⟩
  cases hp : P y with
  | false => rfl
  | true => have := h2.1 y hy hp; rw [hx] at this; cases this

end Go.Proofs.Qxb6608633a
