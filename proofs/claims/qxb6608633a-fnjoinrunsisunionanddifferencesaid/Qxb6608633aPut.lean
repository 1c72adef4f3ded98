/- partition, last. -/
import Derived.Test.Qxb6608633aSplit96
import Derived.Test.Qxb6608633aSplit97
namespace Go.Proofs.Qxb6608633a
open Go.RowKit

/-- The tree parted in three. -/
def PartRet (w : World) (xs : List Run) (r : Run) (e : Ending) (w' : World) : Prop :=
  ∃ pa pb pc A B C, e = .returned (.tuple #[.pointer pa, .pointer pb, .pointer pc]) ∧ RTree w' pa A ∧ RTree w' pb B ∧ RTree w' pc C ∧ A.list ++ (B.list ++ C.list) = xs ∧
    (∀ x ∈ A.list, P96 r x = true) ∧ (∀ x ∈ B.list, P96 r x = false ∧ P97 r x = true) ∧ (∀ x ∈ C.list, P96 r x = false ∧ P97 r x = false) ∧ Below w.heap.size w w'

/-- Runs in their one form, as the program has them. -/
theorem mono96 {r : Run} {xs : List Run} (h : Form xs) : Mono (P96 r) xs := by
  unfold Mono
  refine h.2.imp_of_mem (fun {x y} hx hy hxy hp => ?_)
  have h1 := h.1 x hx
  have h2 := h.1 y hy
  have hc : ∀ t : Run, P96 r t = true ↔ t.2 < r.1 - 1 := fun t => by
    unfold P96 cmpR
    by_cases c : t.2 < r.1 - 1
    · simp [c]
    · rw [if_neg c]
      by_cases d : r.2 < t.1 - 1 <;> simp [c, d]
  rw [hc] at hp ⊢
  omega
theorem p97_iff {r t : Run} (h : P96 r t = false) : P97 r t = true ↔ ¬ (r.2 < t.1 - 1) := by
  unfold P96 cmpR at h
  unfold P97 cmpR
  by_cases c : t.2 < r.1 - 1
  · simp [c] at h
  · rw [if_neg c]
    by_cases d : r.2 < t.1 - 1 <;> simp [d]
theorem mono97 {r : Run} {xs : List Run} (h : Form xs) (hf : ∀ x ∈ xs, P96 r x = false) : Mono (P97 r) xs := by
  unfold Mono
  refine h.2.imp_of_mem (fun {x y} hx hy hxy hp => ?_)
  have h1 := h.1 x hx
  have h2 := h.1 y hy
  rw [p97_iff (hf x hx)]
  rw [p97_iff (hf y hy)] at hp
  omega
theorem form_right {a b : List Run} (h : Form (a ++ b)) : Form b := ⟨fun x hx => h.1 x (List.mem_append_right _ hx), (List.pairwise_append.1 h.2).2.1⟩
theorem form_left {a b : List Run} (h : Form (a ++ b)) : Form a := ⟨fun x hx => h.1 x (List.mem_append_left _ hx), (List.pairwise_append.1 h.2).1⟩

set_option maxHeartbeats 2000000 in
set_option maxRecDepth 100000 in
theorem partition_any (p : Option Addr) (T : BT Run) (r : Run) (Br : Nat) (w : World) (hr : InU r) (hT : RTree w p T) (hf : Form T.list) (hin : ∀ x ∈ T.list, InU x) (hlen : T.list.length ≤ 900000000)
    (h0 : w.cell? ⟨Br, 0, none⟩ = some (.int .u64 r.1)) (h1 : w.cell? ⟨Br, 1, none⟩ = some (.int .u64 r.2)) :
    Calls Try.prog 86 #[.pointer p, .func (.func 87) #[] #[.pointer (some ⟨Br, 0, none⟩)]] w (PartRet w T.list r) := by
  have kb := below_self w (.cells #[.func (.func 87) #[] #[.pointer (some ⟨Br, 0, none⟩)]] 155)
  have e0 : (w.alloc (.cells #[.func (.func 87) #[] #[.pointer (some ⟨Br, 0, none⟩)]] 155)).cell? ⟨w.heap.size, 0, none⟩ = some (.func (.func 87) #[] #[.pointer (some ⟨Br, 0, none⟩)]) := by simp
  have hclo : Clo (w.alloc (.cells #[.func (.func 87) #[] #[.pointer (some ⟨Br, 0, none⟩)]] 155)) w.heap.size Br r := ⟨e0, cell_to kb h0, cell_to kb h1⟩
  have C1 := hidd (split96 r w.heap.size Br hr T p _ (hT.to kb) hclo hin hlen (mono96 hf))
  have Hclo := hidd hclo
  have Hf := hidd hf
  have Hin := hidd hin
  clear hT h0 h1 hclo e0 hf hin
  go_enter Try.func86, Try.ntmps86
  go_wp2_with fail
  generalize w.alloc (.cells #[.func (.func 87) #[] #[.pointer (some ⟨Br, 0, none⟩)]] 155) = w0 at *
  refine C1.out.mono ?_
  rintro e w1 ⟨pa, pb, A, B, rfl, hA, hB, hAB, hAt, hBf, hb1⟩
  have hlA : A.list.length + B.list.length = T.list.length := by rw [← hAB]; simp
  have C2 := hidd (split97 r w.heap.size Br hr B pb w1 hB (Hclo.out.to hb1) (fun x hx => Hin.out x (by rw [← hAB]; simp [hx])) (by omega) (mono97 (form_right (a := A.list) (by rw [hAB]; exact Hf.out)) hBf))
  have HA := hidd hA
  have HAB := hidd hAB
  have HAt := hidd hAt
  have HBf := hidd hBf
  clear hA hB hAB hAt hBf C1
  go_wp2_with fail
  refine C2.out.mono ?_
  rintro e w2 ⟨pc, pd, C, D, rfl, hC, hD, hCD, hCt, hDf, hb2⟩
  have hfin : PartRet w T.list r (.returned (.tuple #[.pointer pa, .pointer pc, .pointer pd])) w2 :=
    ⟨pa, pc, pd, A, C, D, rfl, HA.out.to hb2, hC, hD, by rw [hCD, HAB.out], HAt.out, fun x hx => ⟨HBf.out x (by rw [← hCD]; simp [hx]), hCt x hx⟩, fun x hx => ⟨HBf.out x (by rw [← hCD]; simp [hx]), hDf x hx⟩, kb.trans ((below_to hb1 hb2 hb1.size).mono kb.size)⟩
  have Hfin := hidd hfin
  clear hC hD hCD hCt hDf hfin C2
  go_wp2
  refine bodyPost_ret (by simp [results, Try.results86, go_sem]; rfl) rfl ?_
  exact Hfin.out

set_option maxHeartbeats 1000000 in
theorem last_any (p : Option Addr) (T : BT Run) (x : Run) (w : World) (hT : RTree w p T) (hx : T.list.getLast? = some x) :
    Calls Try.prog 88 #[.pointer p] w (RetV w (.agg #[.int .u64 x.1, .int .u64 x.2])) := by
  have hb := below_self w (.cells #[.int .u64 0, .int .u64 0] 94)
  have Ht := hidd (hT.to hb)
  have Hx := hidd hx
  have e0 : (w.alloc (.cells #[.int .u64 0, .int .u64 0] 94)).cell? ⟨w.heap.size, 0, none⟩ = some (.int .u64 0) := by simp
  have e1 : (w.alloc (.cells #[.int .u64 0, .int .u64 0] 94)).cell? ⟨w.heap.size, 1, none⟩ = some (.int .u64 0) := by simp
  have s0 : (w.alloc (.cells #[.int .u64 0, .int .u64 0] 94)).frozen? ⟨w.heap.size, 0, none⟩ = false := by have h := World.alloc_heap_new w (.cells #[.int .u64 0, .int .u64 0] 94); simp only [World.frozen?, h]; rfl
  have s1 : (w.alloc (.cells #[.int .u64 0, .int .u64 0] 94)).frozen? ⟨w.heap.size, 1, none⟩ = false := by have h := World.alloc_heap_new w (.cells #[.int .u64 0, .int .u64 0] 94); simp only [World.frozen?, h]; rfl
  clear hT hx
  go_enter Try.func88, Try.ntmps88
  go_wp2
  generalize w.alloc (.cells #[.int .u64 0, .int .u64 0] 94) = w0 at *
  go_loop [0] (fun t => ∃ (q : Option Addr) (U : BT Run), t = .pointer q ∧ RTree w0 q U ∧ U.list.getLast? = some x) (fun t => leftR w0 t)
  case atStart => exact ⟨p, T, rfl, Ht.out, Hx.out⟩
  case round =>
    obtain ⟨q, U, rfl, hU, hux⟩ := hrel
    cases U with
    | nil => simp [BT.list] at hux
    | node l y r =>
      have HU := hidd hU
      obtain ⟨N, off, p1, p2, rfl, c0, c1, c2, c3, hl, hr⟩ := hU.open
      rcases hr.none_iff with ⟨rfl, rfl⟩ | ⟨a, rl, ry, rr, rfl, rfl⟩
      · have hy : y = x := by simpa [BT.list] using hux
        subst hy
        clear hux hl hr hU
        go_wp2
        refine bodyPost_ret (v := .agg #[.int .u64 y.1, .int .u64 y.2]) (by simp [results, Try.results88, go_sem, e0, e1]) rfl ?_
        exact ⟨rfl, (hb.setCell (p := ⟨w.heap.size, 0, none⟩) (Nat.le_refl _) _).setCell (p := ⟨w.heap.size, 1, none⟩) (Nat.le_refl _) _⟩
      · have hux2 : (BT.node rl ry rr).list.getLast? = some x := by
          rw [← hux]
          show _ = (l.list ++ y :: (BT.node rl ry rr).list).getLast?
          obtain ⟨z, hz⟩ : ∃ z, (BT.node rl ry rr).list.getLast? = some z := by
            cases h : (BT.node rl ry rr).list.getLast? with
            | none => simp [BT.list] at h
            | some z => exact ⟨z, rfl⟩
          rw [show l.list ++ y :: (BT.node rl ry rr).list = (l.list ++ [y]) ++ (BT.node rl ry rr).list by simp, List.getLast?_append, hz]; rfl
        have Hr := hidd hr
        have Hux := hidd hux2
        clear hux hux2 hl hr hU
        go_wp2
        go_round
        case rel => exact ⟨_, _, rfl, Hr.out, Hux.out⟩
        case measure => rw [leftR_eq Hr.out, leftR_eq HU.out]; simp [BT.list]; omega

end Go.Proofs.Qxb6608633a
