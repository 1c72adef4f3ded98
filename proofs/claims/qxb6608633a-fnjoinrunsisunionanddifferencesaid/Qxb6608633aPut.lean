/- partition, last. -/
import Derived.Test.Qxb6608633aSplit
namespace Go.Proofs.Qxb6608633a
open Go.RowKit

/-- Runs in their one form, as the program has them. -/
theorem mono96 {r : Run} {xs : List Run} (h : Form xs) : Mono (P96 r) xs := by
  unfold Mono
  refine h.2.imp_of_mem (fun {x y} hx hy hxy hp => ?_)
  have h1 := h.1 x hx
  have h2 := h.1 y hy
  have hc : ∀ t : Run, P96 r t = true ↔ t.2 < r.1 - 1 := fun t => by
    unfold P96 cmpR
    by_cases c : t.2 < r.1 - 1
    · simp [c]
    · rw [if_neg c]
      by_cases d : r.2 < t.1 - 1 <;> simp [c, d]
  rw [hc] at hp ⊢
  omega
theorem p97_iff {r t : Run} (h : P96 r t = false) : P97 r t = true ↔ ¬ (r.2 < t.1 - 1) := by
  unfold P96 cmpR at h
  unfold P97 cmpR
  by_cases c : t.2 < r.1 - 1
  · simp [c] at h
  · rw [if_neg c]
    by_cases d : r.2 < t.1 - 1 <;> simp [d]
theorem mono97 {r : Run} {xs : List Run} (h : Form xs) (hf : ∀ x ∈ xs, P96 r x = false) : Mono (P97 r) xs := by
  unfold Mono
  refine h.2.imp_of_mem (fun {x y} hx hy hxy hp => ?_)
  have h1 := h.1 x hx
  have h2 := h.1 y hy
  rw [p97_iff (hf x hx)]
  rw [p97_iff (hf y hy)] at hp
  omega
theorem form_right {a b : List Run} (h : Form (a ++ b)) : Form b := ⟨fun x hx => h.1 x (List.mem_append_right _ hx), (List.pairwise_append.1 h.2).2.1⟩
theorem form_left {a b : List Run} (h : Form (a ++ b)) : Form a := ⟨fun x hx => h.1 x (List.mem_append_left _ hx), (List.pairwise_append.1 h.2).1⟩

set_option maxHeartbeats 1000000 in
theorem last_any (p : Option Addr) (T : BT Run) (x : Run) (w : World) (hT : RTree w p T) (hx : T.list.getLast? = some x) :
    Calls Try.prog 88 #[.pointer p] w (RetV w (.agg #[.int .u64 x.1, .int .u64 x.2])) := by
  have hb := below_self w (.cells #[.int .u64 0, .int .u64 0] 94)
  have Ht := hidd (hT.to hb)
  have Hx := hidd hx
  have e0 : (w.alloc (.cells #[.int .u64 0, .int .u64 0] 94)).cell? ⟨w.heap.size, 0, none⟩ = some (.int .u64 0) := by simp
  have e1 : (w.alloc (.cells #[.int .u64 0, .int .u64 0] 94)).cell? ⟨w.heap.size, 1, none⟩ = some (.int .u64 0) := by simp
  have s0 : (w.alloc (.cells #[.int .u64 0, .int .u64 0] 94)).frozen? ⟨w.heap.size, 0, none⟩ = false := by have h := World.alloc_heap_new w (.cells #[.int .u64 0, .int .u64 0] 94); simp only [World.frozen?, h]; rfl
  have s1 : (w.alloc (.cells #[.int .u64 0, .int .u64 0] 94)).frozen? ⟨w.heap.size, 1, none⟩ = false := by have h := World.alloc_heap_new w (.cells #[.int .u64 0, .int .u64 0] 94); simp only [World.frozen?, h]; rfl
  clear hT hx
  go_enter Try.func88, Try.ntmps88
  go_wp2
  generalize w.alloc (.cells #[.int .u64 0, .int .u64 0] 94) = w0 at *
  go_loop [0] (fun t => ∃ (q : Option Addr) (U : BT Run), t = .pointer q ∧ RTree w0 q U ∧ U.list.getLast? = some x) (fun t => leftR w0 t)
  case atStart => exact ⟨p, T, rfl, Ht.out, Hx.out⟩
  case round =>
    obtain ⟨q, U, rfl, hU, hux⟩ := hrel
    cases U with
    | nil => simp [BT.list] at hux
    | node l y r =>
      have HU := hidd hU
      obtain ⟨N, off, p1, p2, rfl, c0, c1, c2, c3, hl, hr⟩ := hU.open
      rcases hr.none_iff with ⟨rfl, rfl⟩ | ⟨a, rl, ry, rr, rfl, rfl⟩
      · have hy : y = x := by simpa [BT.list] using hux
        subst hy
        clear hux hl hr hU
        go_wp2
        refine bodyPost_ret (v := .agg #[.int .u64 y.1, .int .u64 y.2]) (by simp [results, Try.results88, go_sem, e0, e1]) rfl ?_
        exact ⟨rfl, (hb.setCell (p := ⟨w.heap.size, 0, none⟩) (Nat.le_refl _) _).setCell (p := ⟨w.heap.size, 1, none⟩) (Nat.le_refl _) _⟩
      · have hux2 : (BT.node rl ry rr).list.getLast? = some x := by
          rw [← hux]
          show _ = (l.list ++ y :: (BT.node rl ry rr).list).getLast?
          obtain ⟨z, hz⟩ : ∃ z, (BT.node rl ry rr).list.getLast? = some z := by
            cases h : (BT.node rl ry rr).list.getLast? with
            | none => simp [BT.list] at h
            | some z => exact ⟨z, rfl⟩
          rw [show l.list ++ y :: (BT.node rl ry rr).list = (l.list ++ [y]) ++ (BT.node rl ry rr).list by simp, List.getLast?_append, hz]; rfl
        have Hr := hidd hr
        have Hux := hidd hux2
        clear hux hux2 hl hr hU
        go_wp2
        go_round
        case rel => exact ⟨_, _, rfl, Hr.out, Hux.out⟩
        case measure => rw [leftR_eq Hr.out, leftR_eq HU.out]; simp [BT.list]; omega

end Go.Proofs.Qxb6608633a
