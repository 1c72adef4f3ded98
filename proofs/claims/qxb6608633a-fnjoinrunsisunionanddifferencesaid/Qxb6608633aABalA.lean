/- balance, avoiding a block: single rotations. -/
import Derived.Test.Qxb6608633aTreeA
namespace Go.Proofs.Qxb6608633a
open Go.RowKit

set_option maxHeartbeats 4000000 in
set_option maxRecDepth 100000 in
theorem balA_rs (g : Nat) (pl pr : Option Addr) (L RL RR : BT Run) (x y : Run) (w : World) (hg : g < w.heap.size) (hL : RTreeA g w pl L) (hR : RTreeA g w pr (.node RL y RR)) (hl : L.list.length + (RL.list.length + (RR.list.length + 1)) ≤ 1000000000)
    (hh : heavier (RL.list.length + (RR.list.length + 1)) L.list.length = true) (hi : ¬ (2 * (RR.list.length + 1) ≤ RL.list.length + 1)) :
    Calls Try.prog 99 #[.pointer pl, .agg #[.int .u64 x.1, .int .u64 x.2], .pointer pr] w (TreeRetA g w (L.list ++ x :: (RL.list ++ y :: RR.list))) := by
  have kb := below_self w (.cells #[.int .u64 x.1, .int .u64 x.2] 94)
  have e0 : (w.alloc (.cells #[.int .u64 x.1, .int .u64 x.2] 94)).cell? ⟨w.heap.size, 0, none⟩ = some (.int .u64 x.1) := by simp
  have e1 : (w.alloc (.cells #[.int .u64 x.1, .int .u64 x.2] 94)).cell? ⟨w.heap.size, 1, none⟩ = some (.int .u64 x.2) := by simp
  have HL := hidd (hL.to kb)
  obtain ⟨N, off, p1, p2, hpp, c0, c1, c2, c3, hI1, hI2⟩ := (hR.to kb).open
  subst hpp
  have HO := hidd hI2
  have HI := hidd hI1
  have hlenH : (BT.node RL y RR).list.length = (RL.list.length + (RR.list.length + 1)) := by simp [BT.list]
  have CO := hidd (outweighs_any _ _ _ _ _ (hR.to kb).tree (hL.to kb).tree (by first | omega | (rw [hlenH]; omega)) (by first | omega | (rw [hlenH]; omega)))
  rw [hlenH, hh] at CO
  have hg0 := lt_to hg kb
  clear hL hR hI1 hI2
  go_enter Try.func99, Try.ntmps99
  go_wp2_with fail
  generalize w.alloc (.cells #[.int .u64 x.1, .int .u64 x.2] 94) = w0 at *
  have hfin : ∀ wr, Below w0.heap.size w0 wr → Below w.heap.size w wr := fun wr h => kb.trans (h.mono kb.size)
  refine CO.out.mono ?_
  rintro e wq ⟨rfl, hwq⟩
  rw [hwq]
  clear hwq wq CO
  have k1 : IntKind.i64.wrap (2 * ((RR.list.length : Int) + 1)) = 2 * ((RR.list.length : Int) + 1) := IntWalk.i64_in _ (by omega)
  have k2 : decide (2 * ((RR.list.length : Int) + 1) ≤ (RL.list.length : Int) + 1) = false := decide_eq_false (by omega)
  go_wp2_with fail
  go_quiet (first | (go_at_call 110; with_reducible exact Calls.quiet_of_same (weight_any p1 RL _ (HI.out.to (below_drewN _ _)).tree (by omega))) | (go_at_call 110; with_reducible exact Calls.quiet_of_same (weight_any p2 RR _ (HO.out.to (below_drewN _ _)).tree (by omega))))
  have kq := below_drewN w0 nq
  have hfin2 : ∀ wr, Below (w0.drewN nq).heap.size (w0.drewN nq) wr → Below w.heap.size w wr := fun wr h => hfin wr (kq.trans h)
  have e0' := cell_to kq e0
  have e1' := cell_to kq e1
  have c0' := cell_to kq c0
  have c1' := cell_to kq c1
  have c2' := cell_to kq c2
  have c3' := cell_to kq c3
  have HL' := hidd (HL.out.to kq)
  have HO' := hidd (HO.out.to kq)
  have HI' := hidd (HI.out.to kq)
  clear kb hfin e0 e1 c0 c1 c2 c3 HL HO HI kq
  have hgW : g < (w0.drewN nq).heap.size := hg0
  generalize w0.drewN nq = W at *
  go_wp2_with fail
  have kd := below_drew W
  have CA := hidd (node_a g pl p1 L RL x W.drew hgW (HL'.out.to kd) (HI'.out.to kd) (by omega) (by omega))
  go_region_held3 (fun w' => w'.cell? ⟨w.heap.size, 0, none⟩ = some (.int .u64 x.1) ∧ w'.cell? ⟨w.heap.size, 1, none⟩ = some (.int .u64 x.2) ∧ w'.cell? ⟨N, off, none⟩ = some (.int .u64 y.1) ∧ w'.cell? ⟨N, off + 1, none⟩ = some (.int .u64 y.2) ∧ w'.cell? ⟨N, off + 2, none⟩ = some (.pointer p1) ∧ w'.cell? ⟨N, off + 3, none⟩ = some (.pointer p2)) (first | assumption | exact ⟨cell_to kd e0', cell_to kd e1', cell_to kd c0', cell_to kd c1', cell_to kd c2', cell_to kd c3'⟩ | go_keep) (first | (go_at_call 100; (with_reducible refine (node_a g pA p2 TA RR y w4 (lt_to hgW qA) HA.out (HO'.out.to qA) hAs (by omega)).mono ?_); rintro e w5 ⟨pB, TB, rfl, hB, hBl, hbB⟩; have qB : Below W.heap.size W w5 := qA.trans (hbB.mono qA.size); have qh2 : w5.cell? ⟨w.heap.size, 0, none⟩ = some (.int .u64 x.1) ∧ w5.cell? ⟨w.heap.size, 1, none⟩ = some (.int .u64 x.2) ∧ w5.cell? ⟨N, off, none⟩ = some (.int .u64 y.1) ∧ w5.cell? ⟨N, off + 1, none⟩ = some (.int .u64 y.2) ∧ w5.cell? ⟨N, off + 2, none⟩ = some (.pointer p1) ∧ w5.cell? ⟨N, off + 3, none⟩ = some (.pointer p2) := ⟨cell_to qB e0', cell_to qB e1', cell_to qB c0', cell_to qB c1', cell_to qB c2', cell_to qB c3'⟩; have HB := hidd hB; have HBl := hidd hBl; clear hB hBl hbB) | (go_at_call 100; (with_reducible refine CA.out.mono ?_); rintro e w4 ⟨pA, TA, rfl, hA, hAl, hbA⟩; have qA : Below W.heap.size W w4 := kd.trans hbA; have qh : w4.cell? ⟨w.heap.size, 0, none⟩ = some (.int .u64 x.1) ∧ w4.cell? ⟨w.heap.size, 1, none⟩ = some (.int .u64 x.2) ∧ w4.cell? ⟨N, off, none⟩ = some (.int .u64 y.1) ∧ w4.cell? ⟨N, off + 1, none⟩ = some (.int .u64 y.2) ∧ w4.cell? ⟨N, off + 2, none⟩ = some (.pointer p1) ∧ w4.cell? ⟨N, off + 3, none⟩ = some (.pointer p2) := ⟨cell_to qA e0', cell_to qA e1', cell_to qA c0', cell_to qA c1', cell_to qA c2', cell_to qA c3'⟩; have hAs : TA.list.length ≤ 1000000000 := (by rw [hAl]; simp only [List.length_append, List.length_cons]; omega); have HA := hidd hA; have HAl := hidd hAl; clear hA hAl hbA))
  have hgo : TreeRetA g w (L.list ++ x :: (RL.list ++ y :: RR.list)) (.returned (.pointer pB)) w5 := ⟨pB, TB, rfl, HB.out, by rw [HBl.out, HAl.out]; simp, hfin2 _ qB⟩
  have Hgo := hidd hgo
  clear hgo
  go_wp2
  go_ret
  exact Hgo.out

set_option maxHeartbeats 4000000 in
set_option maxRecDepth 100000 in
theorem balA_ls (g : Nat) (pl pr : Option Addr) (LL LR R : BT Run) (x y : Run) (w : World) (hg : g < w.heap.size) (hL : RTreeA g w pl (.node LL y LR)) (hR : RTreeA g w pr R) (hl : R.list.length + (LL.list.length + (LR.list.length + 1)) ≤ 1000000000)
    (hn : heavier R.list.length (LL.list.length + (LR.list.length + 1)) = false) (hh : heavier (LL.list.length + (LR.list.length + 1)) R.list.length = true) (hi : ¬ (2 * (LL.list.length + 1) ≤ LR.list.length + 1)) :
    Calls Try.prog 99 #[.pointer pl, .agg #[.int .u64 x.1, .int .u64 x.2], .pointer pr] w (TreeRetA g w ((LL.list ++ y :: LR.list) ++ x :: R.list)) := by
  have kb := below_self w (.cells #[.int .u64 x.1, .int .u64 x.2] 94)
  have e0 : (w.alloc (.cells #[.int .u64 x.1, .int .u64 x.2] 94)).cell? ⟨w.heap.size, 0, none⟩ = some (.int .u64 x.1) := by simp
  have e1 : (w.alloc (.cells #[.int .u64 x.1, .int .u64 x.2] 94)).cell? ⟨w.heap.size, 1, none⟩ = some (.int .u64 x.2) := by simp
  have HR := hidd (hR.to kb)
  obtain ⟨N, off, p1, p2, hpp, c0, c1, c2, c3, hI1, hI2⟩ := (hL.to kb).open
  subst hpp
  have HO := hidd hI1
  have HI := hidd hI2
  have hlenH : (BT.node LL y LR).list.length = (LL.list.length + (LR.list.length + 1)) := by simp [BT.list]
  have CO := hidd (outweighs_any _ _ _ _ _ (hR.to kb).tree (hL.to kb).tree (by first | omega | (rw [hlenH]; omega)) (by first | omega | (rw [hlenH]; omega)))
  rw [hlenH, hn] at CO
  have CP := hidd (outweighs_any _ _ _ _ _ (hL.to kb).tree (hR.to kb).tree (by first | omega | (rw [hlenH]; omega)) (by first | omega | (rw [hlenH]; omega)))
  rw [hlenH, hh] at CP
  have hg0 := lt_to hg kb
  clear hL hR hI1 hI2
  go_enter Try.func99, Try.ntmps99
  go_wp2_with fail
  generalize w.alloc (.cells #[.int .u64 x.1, .int .u64 x.2] 94) = w0 at *
  have hfin : ∀ wr, Below w0.heap.size w0 wr → Below w.heap.size w wr := fun wr h => kb.trans (h.mono kb.size)
  refine CO.out.mono ?_
  rintro e wq ⟨rfl, hwq⟩
  rw [hwq]
  clear hwq wq CO
  go_wp2_with fail
  refine CP.out.mono ?_
  rintro e wq ⟨rfl, hwq⟩
  rw [hwq]
  clear hwq wq CP
  have k1 : IntKind.i64.wrap (2 * ((LL.list.length : Int) + 1)) = 2 * ((LL.list.length : Int) + 1) := IntWalk.i64_in _ (by omega)
  have k2 : decide (2 * ((LL.list.length : Int) + 1) ≤ (LR.list.length : Int) + 1) = false := decide_eq_false (by omega)
  go_wp2_with fail
  go_quiet (first | (go_at_call 110; with_reducible exact Calls.quiet_of_same (weight_any p2 LR _ (HI.out.to (below_drewN _ _)).tree (by omega))) | (go_at_call 110; with_reducible exact Calls.quiet_of_same (weight_any p1 LL _ (HO.out.to (below_drewN _ _)).tree (by omega))))
  have kq := below_drewN w0 nq
  have hfin2 : ∀ wr, Below (w0.drewN nq).heap.size (w0.drewN nq) wr → Below w.heap.size w wr := fun wr h => hfin wr (kq.trans h)
  have e0' := cell_to kq e0
  have e1' := cell_to kq e1
  have c0' := cell_to kq c0
  have c1' := cell_to kq c1
  have c2' := cell_to kq c2
  have c3' := cell_to kq c3
  have HR' := hidd (HR.out.to kq)
  have HO' := hidd (HO.out.to kq)
  have HI' := hidd (HI.out.to kq)
  clear kb hfin e0 e1 c0 c1 c2 c3 HR HO HI kq
  have hgW : g < (w0.drewN nq).heap.size := hg0
  generalize w0.drewN nq = W at *
  go_wp2_with fail
  have kd := below_drew W
  have CA := hidd (node_a g p2 pr LR R x W.drew hgW (HI'.out.to kd) (HR'.out.to kd) (by omega) (by omega))
  go_region_held3 (fun w' => w'.cell? ⟨w.heap.size, 0, none⟩ = some (.int .u64 x.1) ∧ w'.cell? ⟨w.heap.size, 1, none⟩ = some (.int .u64 x.2) ∧ w'.cell? ⟨N, off, none⟩ = some (.int .u64 y.1) ∧ w'.cell? ⟨N, off + 1, none⟩ = some (.int .u64 y.2) ∧ w'.cell? ⟨N, off + 2, none⟩ = some (.pointer p1) ∧ w'.cell? ⟨N, off + 3, none⟩ = some (.pointer p2)) (first | assumption | exact ⟨cell_to kd e0', cell_to kd e1', cell_to kd c0', cell_to kd c1', cell_to kd c2', cell_to kd c3'⟩ | go_keep) (first | (go_at_call 100; (with_reducible refine (node_a g p1 pA LL TA y w4 (lt_to hgW qA) (HO'.out.to qA) HA.out (by omega) hAs).mono ?_); rintro e w5 ⟨pB, TB, rfl, hB, hBl, hbB⟩; have qB : Below W.heap.size W w5 := qA.trans (hbB.mono qA.size); have qh2 : w5.cell? ⟨w.heap.size, 0, none⟩ = some (.int .u64 x.1) ∧ w5.cell? ⟨w.heap.size, 1, none⟩ = some (.int .u64 x.2) ∧ w5.cell? ⟨N, off, none⟩ = some (.int .u64 y.1) ∧ w5.cell? ⟨N, off + 1, none⟩ = some (.int .u64 y.2) ∧ w5.cell? ⟨N, off + 2, none⟩ = some (.pointer p1) ∧ w5.cell? ⟨N, off + 3, none⟩ = some (.pointer p2) := ⟨cell_to qB e0', cell_to qB e1', cell_to qB c0', cell_to qB c1', cell_to qB c2', cell_to qB c3'⟩; have HB := hidd hB; have HBl := hidd hBl; clear hB hBl hbB) | (go_at_call 100; (with_reducible refine CA.out.mono ?_); rintro e w4 ⟨pA, TA, rfl, hA, hAl, hbA⟩; have qA : Below W.heap.size W w4 := kd.trans hbA; have qh : w4.cell? ⟨w.heap.size, 0, none⟩ = some (.int .u64 x.1) ∧ w4.cell? ⟨w.heap.size, 1, none⟩ = some (.int .u64 x.2) ∧ w4.cell? ⟨N, off, none⟩ = some (.int .u64 y.1) ∧ w4.cell? ⟨N, off + 1, none⟩ = some (.int .u64 y.2) ∧ w4.cell? ⟨N, off + 2, none⟩ = some (.pointer p1) ∧ w4.cell? ⟨N, off + 3, none⟩ = some (.pointer p2) := ⟨cell_to qA e0', cell_to qA e1', cell_to qA c0', cell_to qA c1', cell_to qA c2', cell_to qA c3'⟩; have hAs : TA.list.length ≤ 1000000000 := (by rw [hAl]; simp only [List.length_append, List.length_cons]; omega); have HA := hidd hA; have HAl := hidd hAl; clear hA hAl hbA))
  have hgo : TreeRetA g w ((LL.list ++ y :: LR.list) ++ x :: R.list) (.returned (.pointer pB)) w5 := ⟨pB, TB, rfl, HB.out, by rw [HBl.out, HAl.out]; simp, hfin2 _ qB⟩
  have Hgo := hidd hgo
  clear hgo
  go_wp2
  go_ret
  exact Hgo.out

end Go.Proofs.Qxb6608633a
