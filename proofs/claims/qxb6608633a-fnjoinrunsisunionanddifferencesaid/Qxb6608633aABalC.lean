/- balance, avoiding a block: double rotation on the left. -/
import Derived.Test.Qxb6608633aTreeA
namespace Go.Proofs.Qxb6608633a
open Go.RowKit

set_option maxHeartbeats 4000000 in
set_option maxRecDepth 100000 in
theorem balA_ld (g : Nat) (pl pr : Option Addr) (LL A B R : BT Run) (x y z : Run) (w : World) (hg : g < w.heap.size) (hL : RTreeA g w pl (.node LL y (.node A z B))) (hR : RTreeA g w pr R) (hl : R.list.length + (LL.list.length + ((A.list.length + (B.list.length + 1)) + 1)) ≤ 1000000000)
    (hn : heavier R.list.length (LL.list.length + ((A.list.length + (B.list.length + 1)) + 1)) = false) (hh : heavier (LL.list.length + ((A.list.length + (B.list.length + 1)) + 1)) R.list.length = true) (hi : 2 * (LL.list.length + 1) ≤ (A.list.length + (B.list.length + 1)) + 1) :
    Calls Try.prog 99 #[.pointer pl, .agg #[.int .u64 x.1, .int .u64 x.2], .pointer pr] w (TreeRetA g w ((LL.list ++ y :: (A.list ++ z :: B.list)) ++ x :: R.list)) := by
  have kb := below_self w (.cells #[.int .u64 x.1, .int .u64 x.2] 94)
  have e0 : (w.alloc (.cells #[.int .u64 x.1, .int .u64 x.2] 94)).cell? ⟨w.heap.size, 0, none⟩ = some (.int .u64 x.1) := by simp
  have e1 : (w.alloc (.cells #[.int .u64 x.1, .int .u64 x.2] 94)).cell? ⟨w.heap.size, 1, none⟩ = some (.int .u64 x.2) := by simp
  have HR := hidd (hR.to kb)
  obtain ⟨N, off, p1, p2, hpp, c0, c1, c2, c3, hI1, hI2⟩ := (hL.to kb).open
  subst hpp
  have HO := hidd hI1
  have HI := hidd hI2
  have hlenI : (BT.node A z B).list.length = (A.list.length + (B.list.length + 1)) := by simp [BT.list]
  have hlenH : (BT.node LL y (.node A z B)).list.length = (LL.list.length + ((A.list.length + (B.list.length + 1)) + 1)) := by simp [BT.list]
  have CO := hidd (outweighs_any _ _ _ _ _ (hR.to kb).tree (hL.to kb).tree (by first | omega | (rw [hlenH]; omega)) (by first | omega | (rw [hlenH]; omega)))
  rw [hlenH, hn] at CO
  have CP := hidd (outweighs_any _ _ _ _ _ (hL.to kb).tree (hR.to kb).tree (by first | omega | (rw [hlenH]; omega)) (by first | omega | (rw [hlenH]; omega)))
  rw [hlenH, hh] at CP
  have hg0 := lt_to hg kb
  clear hL hR hI1 hI2
  go_enter Try.func99, Try.ntmps99
  go_wp2_with fail
  generalize w.alloc (.cells #[.int .u64 x.1, .int .u64 x.2] 94) = w0 at *
  have hfin : ∀ wr, Below w0.heap.size w0 wr → Below w.heap.size w wr := fun wr h => kb.trans (h.mono kb.size)
  refine CO.out.mono ?_
  rintro e wq ⟨rfl, hwq⟩
  rw [hwq]
  clear hwq wq CO
  go_wp2_with fail
  refine CP.out.mono ?_
  rintro e wq ⟨rfl, hwq⟩
  rw [hwq]
  clear hwq wq CP
  have k1 : IntKind.i64.wrap (2 * ((LL.list.length : Int) + 1)) = 2 * ((LL.list.length : Int) + 1) := IntWalk.i64_in _ (by omega)
  have CI : ∀ V, RTree V p2 (.node A z B) → Calls Try.prog 110 #[.pointer p2] V fun e w' => e = .returned (.int .i64 (A.list.length + (B.list.length + 1) + 1 : Nat)) ∧ w' = V := fun V hV => by
    have h := weight_any p2 _ V hV (by rw [hlenI]; omega)
    rw [hlenI] at h; exact h
  have HCI := hidd CI
  clear CI
  have k2 : decide (2 * ((LL.list.length : Int) + 1) ≤ (A.list.length : Int) + ((B.list.length : Int) + 1) + 1) = true := decide_eq_true (by omega)
  go_wp2_with fail
  go_quiet (first | (go_at_call 110; with_reducible exact Calls.quiet_of_same (HCI.out _ (HI.out.to (below_drewN _ _)).tree)) | (go_at_call 110; with_reducible exact Calls.quiet_of_same (weight_any p1 LL _ (HO.out.to (below_drewN _ _)).tree (by omega))))
  obtain ⟨M, of2, q1, q2, hpp, d0, d1, d2, d3, hA0, hB0⟩ := HI.out.open
  subst hpp
  have kq := below_drewN w0 nq
  have hfin2 : ∀ wr, Below (w0.drewN nq).heap.size (w0.drewN nq) wr → Below w.heap.size w wr := fun wr h => hfin wr (kq.trans h)
  have e0' := cell_to kq e0
  have e1' := cell_to kq e1
  have c0' := cell_to kq c0
  have c1' := cell_to kq c1
  have c2' := cell_to kq c2
  have c3' := cell_to kq c3
  have d0' := cell_to kq d0
  have d1' := cell_to kq d1
  have d2' := cell_to kq d2
  have d3' := cell_to kq d3
  have HR' := hidd (HR.out.to kq)
  have HO' := hidd (HO.out.to kq)
  have HA0 := hidd (hA0.to kq)
  have HB0 := hidd (hB0.to kq)
  clear kb hfin e0 e1 c0 c1 c2 c3 d0 d1 d2 d3 HR HO HI kq hA0 hB0 HCI
  have hgW : g < (w0.drewN nq).heap.size := hg0
  generalize w0.drewN nq = W at *
  go_wp2_with fail
  have kd := below_drew W
  have CA : Hid (∀ V, Below W.heap.size W V → Calls Try.prog 100 #[.pointer p1, .agg #[.int .u64 y.1, .int .u64 y.2], .pointer q1] V (TreeRetA g V (LL.list ++ y :: A.list))) := fun V hV => node_a g p1 q1 LL A y V (lt_to hgW hV) (HO'.out.to hV) (HA0.out.to hV) (by omega) (by omega)
  have CB : Hid (∀ V, Below W.heap.size W V → Calls Try.prog 100 #[.pointer q2, .agg #[.int .u64 x.1, .int .u64 x.2], .pointer pr] V (TreeRetA g V (B.list ++ x :: R.list))) := fun V hV => node_a g q2 pr B R x V (lt_to hgW hV) (HB0.out.to hV) (HR'.out.to hV) (by omega) (by omega)
  go_region_held3 (fun w' => w'.cell? ⟨w.heap.size, 0, none⟩ = some (.int .u64 x.1) ∧ w'.cell? ⟨w.heap.size, 1, none⟩ = some (.int .u64 x.2) ∧ w'.cell? ⟨N, off, none⟩ = some (.int .u64 y.1) ∧ w'.cell? ⟨N, off + 1, none⟩ = some (.int .u64 y.2) ∧ w'.cell? ⟨N, off + 2, none⟩ = some (.pointer p1) ∧ w'.cell? ⟨N, off + 3, none⟩ = some (.pointer (some ⟨M, of2, none⟩)) ∧ w'.cell? ⟨M, of2, none⟩ = some (.int .u64 z.1) ∧ w'.cell? ⟨M, of2 + 1, none⟩ = some (.int .u64 z.2) ∧ w'.cell? ⟨M, of2 + 2, none⟩ = some (.pointer q1) ∧ w'.cell? ⟨M, of2 + 3, none⟩ = some (.pointer q2)) (first | assumption | exact ⟨cell_to kd e0', cell_to kd e1', cell_to kd c0', cell_to kd c1', cell_to kd c2', cell_to kd c3', cell_to kd d0', cell_to kd d1', cell_to kd d2', cell_to kd d3'⟩ | go_keep) (first | (go_at_call 100; (with_reducible refine (node_a g pA pB TA TB z w5 (lt_to hgW qB) HA2.out HB.out hAs hBs).mono ?_); rintro e w6 ⟨pC, TC, rfl, hC, hCl, hbC⟩; have qC : Below W.heap.size W w6 := qB.trans (hbC.mono qB.size); have qh3 : w6.cell? ⟨w.heap.size, 0, none⟩ = some (.int .u64 x.1) ∧ w6.cell? ⟨w.heap.size, 1, none⟩ = some (.int .u64 x.2) ∧ w6.cell? ⟨N, off, none⟩ = some (.int .u64 y.1) ∧ w6.cell? ⟨N, off + 1, none⟩ = some (.int .u64 y.2) ∧ w6.cell? ⟨N, off + 2, none⟩ = some (.pointer p1) ∧ w6.cell? ⟨N, off + 3, none⟩ = some (.pointer (some ⟨M, of2, none⟩)) ∧ w6.cell? ⟨M, of2, none⟩ = some (.int .u64 z.1) ∧ w6.cell? ⟨M, of2 + 1, none⟩ = some (.int .u64 z.2) ∧ w6.cell? ⟨M, of2 + 2, none⟩ = some (.pointer q1) ∧ w6.cell? ⟨M, of2 + 3, none⟩ = some (.pointer q2) := ⟨cell_to qC e0', cell_to qC e1', cell_to qC c0', cell_to qC c1', cell_to qC c2', cell_to qC c3', cell_to qC d0', cell_to qC d1', cell_to qC d2', cell_to qC d3'⟩; have Hgo : Hid (TreeRetA g w ((LL.list ++ y :: (A.list ++ z :: B.list)) ++ x :: R.list) (.returned (.pointer pC)) w6) := ⟨pC, TC, rfl, hC, (by rw [hCl, HAl.out, HBl.out]; simp), hfin2 _ qC⟩; clear hC hCl hbC) | (go_at_call 100; (with_reducible refine (node_a g pA pB TA TB z w4 (lt_to hgW qA) HA.out HB2.out hAs hBs).mono ?_); rintro e w6 ⟨pC, TC, rfl, hC, hCl, hbC⟩; have qC : Below W.heap.size W w6 := qA.trans (hbC.mono qA.size); have qh3 : w6.cell? ⟨w.heap.size, 0, none⟩ = some (.int .u64 x.1) ∧ w6.cell? ⟨w.heap.size, 1, none⟩ = some (.int .u64 x.2) ∧ w6.cell? ⟨N, off, none⟩ = some (.int .u64 y.1) ∧ w6.cell? ⟨N, off + 1, none⟩ = some (.int .u64 y.2) ∧ w6.cell? ⟨N, off + 2, none⟩ = some (.pointer p1) ∧ w6.cell? ⟨N, off + 3, none⟩ = some (.pointer (some ⟨M, of2, none⟩)) ∧ w6.cell? ⟨M, of2, none⟩ = some (.int .u64 z.1) ∧ w6.cell? ⟨M, of2 + 1, none⟩ = some (.int .u64 z.2) ∧ w6.cell? ⟨M, of2 + 2, none⟩ = some (.pointer q1) ∧ w6.cell? ⟨M, of2 + 3, none⟩ = some (.pointer q2) := ⟨cell_to qC e0', cell_to qC e1', cell_to qC c0', cell_to qC c1', cell_to qC c2', cell_to qC c3', cell_to qC d0', cell_to qC d1', cell_to qC d2', cell_to qC d3'⟩; have Hgo : Hid (TreeRetA g w ((LL.list ++ y :: (A.list ++ z :: B.list)) ++ x :: R.list) (.returned (.pointer pC)) w6) := ⟨pC, TC, rfl, hC, (by rw [hCl, HAl.out, HBl.out]; simp), hfin2 _ qC⟩; clear hC hCl hbC) | (go_at_call 100; (with_reducible refine (CA.out w5 qB).mono ?_); rintro e w4 ⟨pA, TA, rfl, hA, hAl, hbA⟩; have qA : Below W.heap.size W w4 := qB.trans (hbA.mono qB.size); have qh : w4.cell? ⟨w.heap.size, 0, none⟩ = some (.int .u64 x.1) ∧ w4.cell? ⟨w.heap.size, 1, none⟩ = some (.int .u64 x.2) ∧ w4.cell? ⟨N, off, none⟩ = some (.int .u64 y.1) ∧ w4.cell? ⟨N, off + 1, none⟩ = some (.int .u64 y.2) ∧ w4.cell? ⟨N, off + 2, none⟩ = some (.pointer p1) ∧ w4.cell? ⟨N, off + 3, none⟩ = some (.pointer (some ⟨M, of2, none⟩)) ∧ w4.cell? ⟨M, of2, none⟩ = some (.int .u64 z.1) ∧ w4.cell? ⟨M, of2 + 1, none⟩ = some (.int .u64 z.2) ∧ w4.cell? ⟨M, of2 + 2, none⟩ = some (.pointer q1) ∧ w4.cell? ⟨M, of2 + 3, none⟩ = some (.pointer q2) := ⟨cell_to qA e0', cell_to qA e1', cell_to qA c0', cell_to qA c1', cell_to qA c2', cell_to qA c3', cell_to qA d0', cell_to qA d1', cell_to qA d2', cell_to qA d3'⟩; have hAs : TA.list.length ≤ 1000000000 := (by rw [hAl]; simp only [List.length_append, List.length_cons]; omega); have HB2 := hidd (HB.out.to hbA); have HA := hidd hA; have HAl := hidd hAl; clear hA hAl hbA) | (go_at_call 100; (with_reducible refine (CB.out w4 qA).mono ?_); rintro e w5 ⟨pB, TB, rfl, hB, hBl, hbB⟩; have qB : Below W.heap.size W w5 := qA.trans (hbB.mono qA.size); have qh2 : w5.cell? ⟨w.heap.size, 0, none⟩ = some (.int .u64 x.1) ∧ w5.cell? ⟨w.heap.size, 1, none⟩ = some (.int .u64 x.2) ∧ w5.cell? ⟨N, off, none⟩ = some (.int .u64 y.1) ∧ w5.cell? ⟨N, off + 1, none⟩ = some (.int .u64 y.2) ∧ w5.cell? ⟨N, off + 2, none⟩ = some (.pointer p1) ∧ w5.cell? ⟨N, off + 3, none⟩ = some (.pointer (some ⟨M, of2, none⟩)) ∧ w5.cell? ⟨M, of2, none⟩ = some (.int .u64 z.1) ∧ w5.cell? ⟨M, of2 + 1, none⟩ = some (.int .u64 z.2) ∧ w5.cell? ⟨M, of2 + 2, none⟩ = some (.pointer q1) ∧ w5.cell? ⟨M, of2 + 3, none⟩ = some (.pointer q2) := ⟨cell_to qB e0', cell_to qB e1', cell_to qB c0', cell_to qB c1', cell_to qB c2', cell_to qB c3', cell_to qB d0', cell_to qB d1', cell_to qB d2', cell_to qB d3'⟩; have hBs : TB.list.length ≤ 1000000000 := (by rw [hBl]; simp only [List.length_append, List.length_cons]; omega); have HA2 := hidd (HA.out.to hbB); have HB := hidd hB; have HBl := hidd hBl; clear hB hBl hbB) | (go_at_call 100; (with_reducible refine (CA.out W.drew kd).mono ?_); rintro e w4 ⟨pA, TA, rfl, hA, hAl, hbA⟩; have qA : Below W.heap.size W w4 := kd.trans hbA; have qh : w4.cell? ⟨w.heap.size, 0, none⟩ = some (.int .u64 x.1) ∧ w4.cell? ⟨w.heap.size, 1, none⟩ = some (.int .u64 x.2) ∧ w4.cell? ⟨N, off, none⟩ = some (.int .u64 y.1) ∧ w4.cell? ⟨N, off + 1, none⟩ = some (.int .u64 y.2) ∧ w4.cell? ⟨N, off + 2, none⟩ = some (.pointer p1) ∧ w4.cell? ⟨N, off + 3, none⟩ = some (.pointer (some ⟨M, of2, none⟩)) ∧ w4.cell? ⟨M, of2, none⟩ = some (.int .u64 z.1) ∧ w4.cell? ⟨M, of2 + 1, none⟩ = some (.int .u64 z.2) ∧ w4.cell? ⟨M, of2 + 2, none⟩ = some (.pointer q1) ∧ w4.cell? ⟨M, of2 + 3, none⟩ = some (.pointer q2) := ⟨cell_to qA e0', cell_to qA e1', cell_to qA c0', cell_to qA c1', cell_to qA c2', cell_to qA c3', cell_to qA d0', cell_to qA d1', cell_to qA d2', cell_to qA d3'⟩; have hAs : TA.list.length ≤ 1000000000 := (by rw [hAl]; simp only [List.length_append, List.length_cons]; omega); have HA := hidd hA; have HAl := hidd hAl; clear hA hAl hbA) | (go_at_call 100; (with_reducible refine (CB.out W.drew kd).mono ?_); rintro e w5 ⟨pB, TB, rfl, hB, hBl, hbB⟩; have qB : Below W.heap.size W w5 := kd.trans hbB; have qh2 : w5.cell? ⟨w.heap.size, 0, none⟩ = some (.int .u64 x.1) ∧ w5.cell? ⟨w.heap.size, 1, none⟩ = some (.int .u64 x.2) ∧ w5.cell? ⟨N, off, none⟩ = some (.int .u64 y.1) ∧ w5.cell? ⟨N, off + 1, none⟩ = some (.int .u64 y.2) ∧ w5.cell? ⟨N, off + 2, none⟩ = some (.pointer p1) ∧ w5.cell? ⟨N, off + 3, none⟩ = some (.pointer (some ⟨M, of2, none⟩)) ∧ w5.cell? ⟨M, of2, none⟩ = some (.int .u64 z.1) ∧ w5.cell? ⟨M, of2 + 1, none⟩ = some (.int .u64 z.2) ∧ w5.cell? ⟨M, of2 + 2, none⟩ = some (.pointer q1) ∧ w5.cell? ⟨M, of2 + 3, none⟩ = some (.pointer q2) := ⟨cell_to qB e0', cell_to qB e1', cell_to qB c0', cell_to qB c1', cell_to qB c2', cell_to qB c3', cell_to qB d0', cell_to qB d1', cell_to qB d2', cell_to qB d3'⟩; have hBs : TB.list.length ≤ 1000000000 := (by rw [hBl]; simp only [List.length_append, List.length_cons]; omega); have HB := hidd hB; have HBl := hidd hBl; clear hB hBl hbB))
  all_goals (go_wp2; go_ret; exact Hgo.out)

end Go.Proofs.Qxb6608633a
