/- Trees of runs: link. -/
import Derived.Test.Qxb6608633aBal2
namespace Go.Proofs.Qxb6608633a
open Go.RowKit

/-- link at trees of m elements in all. -/
def LinkAt (m : Nat) : Prop := ∀ (pl pr : Option Addr) (L R : BT Run) (x : Run) (w : World), L.list.length + R.list.length = m → RTree w pl L → RTree w pr R →
    Calls Try.prog 89 #[.pointer pl, .agg #[.int .u64 x.1, .int .u64 x.2], .pointer pr] w (TreeRet w (L.list ++ x :: R.list))

set_option maxHeartbeats 2000000 in
set_option maxRecDepth 100000 in
theorem link_r (pl pr : Option Addr) (L RL RR : BT Run) (x y : Run) (w : World) (hL : RTree w pl L) (hR : RTree w pr (.node RL y RR)) (hm : L.list.length + (RL.list.length + (RR.list.length + 1)) ≤ 1000000000) (ih : LinkAt (L.list.length + RL.list.length)) (hh : heavier (RL.list.length + (RR.list.length + 1)) L.list.length = true) :
    Calls Try.prog 89 #[.pointer pl, .agg #[.int .u64 x.1, .int .u64 x.2], .pointer pr] w (TreeRet w (L.list ++ x :: (RL.list ++ y :: RR.list))) := by
  have kb := below_self w (.cells #[.int .u64 x.1, .int .u64 x.2] 94)
  have e0 : (w.alloc (.cells #[.int .u64 x.1, .int .u64 x.2] 94)).cell? ⟨w.heap.size, 0, none⟩ = some (.int .u64 x.1) := by simp
  have e1 : (w.alloc (.cells #[.int .u64 x.1, .int .u64 x.2] 94)).cell? ⟨w.heap.size, 1, none⟩ = some (.int .u64 x.2) := by simp
  have HM := hidd (hL.to kb)
  obtain ⟨N, off, p1, p2, hpp, c0, c1, c2, c3, hI1, hI2⟩ := (hR.to kb).open
  subst hpp
  have HI := hidd hI1
  have HO := hidd hI2
  have Hih := hidd ih
  have hlenH : (BT.node RL y RR).list.length = (RL.list.length + (RR.list.length + 1)) := len_node _ _ _
  have CO := hidd (outweighs_any _ _ _ _ _ (hR.to kb) (hL.to kb) (by first | omega | (rw [hlenH]; omega)) (by first | omega | (rw [hlenH]; omega)))
  rw [hlenH, hh] at CO
  clear hL hR hI1 hI2 ih
  go_enter Try.func89, Try.ntmps89
  go_wp2_with fail
  generalize w.alloc (.cells #[.int .u64 x.1, .int .u64 x.2] 94) = W at *
  have hfin : ∀ wr, Below W.heap.size W wr → Below w.heap.size w wr := fun wr h => kb.trans (h.mono kb.size)
  refine CO.out.mono ?_
  rintro e wq ⟨rfl, hwq⟩
  rw [hwq]
  clear hwq wq CO
  go_wp2_with fail
  have kd := below_drew W
  have CA := hidd (Hih.out pl p1 L RL x W.drew rfl (HM.out.to kd) (HI.out.to kd))
  go_region_held3 (fun w' => w'.cell? ⟨w.heap.size, 0, none⟩ = some (.int .u64 x.1) ∧ w'.cell? ⟨w.heap.size, 1, none⟩ = some (.int .u64 x.2) ∧ w'.cell? ⟨N, off, none⟩ = some (.int .u64 y.1) ∧ w'.cell? ⟨N, off + 1, none⟩ = some (.int .u64 y.2) ∧ w'.cell? ⟨N, off + 2, none⟩ = some (.pointer p1) ∧ w'.cell? ⟨N, off + 3, none⟩ = some (.pointer p2)) (first | assumption | exact ⟨cell_to kd e0, cell_to kd e1, cell_to kd c0, cell_to kd c1, cell_to kd c2, cell_to kd c3⟩ | go_keep) (first | (go_at_call 99; (with_reducible refine (balance_any pA p2 TA RR y w4 HA.out (HO.out.to qA) hAs).mono ?_); rintro e w5 ⟨pB, TB, rfl, hB, hBl, hbB⟩; have qB : Below W.heap.size W w5 := qA.trans (hbB.mono qA.size); have qh2 : w5.cell? ⟨w.heap.size, 0, none⟩ = some (.int .u64 x.1) ∧ w5.cell? ⟨w.heap.size, 1, none⟩ = some (.int .u64 x.2) ∧ w5.cell? ⟨N, off, none⟩ = some (.int .u64 y.1) ∧ w5.cell? ⟨N, off + 1, none⟩ = some (.int .u64 y.2) ∧ w5.cell? ⟨N, off + 2, none⟩ = some (.pointer p1) ∧ w5.cell? ⟨N, off + 3, none⟩ = some (.pointer p2) := ⟨cell_to qB e0, cell_to qB e1, cell_to qB c0, cell_to qB c1, cell_to qB c2, cell_to qB c3⟩; have HB := hidd hB; have HBl := hidd hBl; clear hB hBl hbB) | (go_at_call 89; (with_reducible refine CA.out.mono ?_); rintro e w4 ⟨pA, TA, rfl, hA, hAl, hbA⟩; have qA : Below W.heap.size W w4 := kd.trans hbA; have qh : w4.cell? ⟨w.heap.size, 0, none⟩ = some (.int .u64 x.1) ∧ w4.cell? ⟨w.heap.size, 1, none⟩ = some (.int .u64 x.2) ∧ w4.cell? ⟨N, off, none⟩ = some (.int .u64 y.1) ∧ w4.cell? ⟨N, off + 1, none⟩ = some (.int .u64 y.2) ∧ w4.cell? ⟨N, off + 2, none⟩ = some (.pointer p1) ∧ w4.cell? ⟨N, off + 3, none⟩ = some (.pointer p2) := ⟨cell_to qA e0, cell_to qA e1, cell_to qA c0, cell_to qA c1, cell_to qA c2, cell_to qA c3⟩; have hAs : TA.list.length + RR.list.length ≤ 1000000000 := (by rw [hAl]; simp only [List.length_append, List.length_cons]; omega); have HA := hidd hA; have HAl := hidd hAl; clear hA hAl hbA))
  have hgo : TreeRet w (L.list ++ x :: (RL.list ++ y :: RR.list)) (.returned (.pointer pB)) w5 := ⟨pB, TB, rfl, HB.out, by rw [HBl.out, HAl.out]; simp, hfin _ qB⟩
  have Hgo := hidd hgo
  clear hgo
  go_wp2
  go_ret
  exact Hgo.out

set_option maxHeartbeats 2000000 in
set_option maxRecDepth 100000 in
theorem link_l (pl pr : Option Addr) (LL LR R : BT Run) (x y : Run) (w : World) (hL : RTree w pl (.node LL y LR)) (hR : RTree w pr R) (hm : R.list.length + (LL.list.length + (LR.list.length + 1)) ≤ 1000000000) (ih : LinkAt (LR.list.length + R.list.length)) (hn : heavier R.list.length (LL.list.length + (LR.list.length + 1)) = false) (hh : heavier (LL.list.length + (LR.list.length + 1)) R.list.length = true) :
    Calls Try.prog 89 #[.pointer pl, .agg #[.int .u64 x.1, .int .u64 x.2], .pointer pr] w (TreeRet w ((LL.list ++ y :: LR.list) ++ x :: R.list)) := by
  have kb := below_self w (.cells #[.int .u64 x.1, .int .u64 x.2] 94)
  have e0 : (w.alloc (.cells #[.int .u64 x.1, .int .u64 x.2] 94)).cell? ⟨w.heap.size, 0, none⟩ = some (.int .u64 x.1) := by simp
  have e1 : (w.alloc (.cells #[.int .u64 x.1, .int .u64 x.2] 94)).cell? ⟨w.heap.size, 1, none⟩ = some (.int .u64 x.2) := by simp
  have HM := hidd (hR.to kb)
  obtain ⟨N, off, p1, p2, hpp, c0, c1, c2, c3, hI1, hI2⟩ := (hL.to kb).open
  subst hpp
  have HI := hidd hI2
  have HO := hidd hI1
  have Hih := hidd ih
  have hlenH : (BT.node LL y LR).list.length = (LL.list.length + (LR.list.length + 1)) := len_node _ _ _
  have CO := hidd (outweighs_any _ _ _ _ _ (hR.to kb) (hL.to kb) (by first | omega | (rw [hlenH]; omega)) (by first | omega | (rw [hlenH]; omega)))
  rw [hlenH, hn] at CO
  have CP := hidd (outweighs_any _ _ _ _ _ (hL.to kb) (hR.to kb) (by first | omega | (rw [hlenH]; omega)) (by first | omega | (rw [hlenH]; omega)))
  rw [hlenH, hh] at CP
  clear hL hR hI1 hI2 ih
  go_enter Try.func89, Try.ntmps89
  go_wp2_with fail
  generalize w.alloc (.cells #[.int .u64 x.1, .int .u64 x.2] 94) = W at *
  have hfin : ∀ wr, Below W.heap.size W wr → Below w.heap.size w wr := fun wr h => kb.trans (h.mono kb.size)
  refine CO.out.mono ?_
  rintro e wq ⟨rfl, hwq⟩
  rw [hwq]
  clear hwq wq CO
  go_wp2_with fail
  refine CP.out.mono ?_
  rintro e wq ⟨rfl, hwq⟩
  rw [hwq]
  clear hwq wq CP
  go_wp2_with fail
  have kd := below_drew W
  have CA := hidd (Hih.out p2 pr LR R x W.drew rfl (HI.out.to kd) (HM.out.to kd))
  go_region_held3 (fun w' => w'.cell? ⟨w.heap.size, 0, none⟩ = some (.int .u64 x.1) ∧ w'.cell? ⟨w.heap.size, 1, none⟩ = some (.int .u64 x.2) ∧ w'.cell? ⟨N, off, none⟩ = some (.int .u64 y.1) ∧ w'.cell? ⟨N, off + 1, none⟩ = some (.int .u64 y.2) ∧ w'.cell? ⟨N, off + 2, none⟩ = some (.pointer p1) ∧ w'.cell? ⟨N, off + 3, none⟩ = some (.pointer p2)) (first | assumption | exact ⟨cell_to kd e0, cell_to kd e1, cell_to kd c0, cell_to kd c1, cell_to kd c2, cell_to kd c3⟩ | go_keep) (first | (go_at_call 99; (with_reducible refine (balance_any p1 pA LL TA y w4 (HO.out.to qA) HA.out hAs).mono ?_); rintro e w5 ⟨pB, TB, rfl, hB, hBl, hbB⟩; have qB : Below W.heap.size W w5 := qA.trans (hbB.mono qA.size); have qh2 : w5.cell? ⟨w.heap.size, 0, none⟩ = some (.int .u64 x.1) ∧ w5.cell? ⟨w.heap.size, 1, none⟩ = some (.int .u64 x.2) ∧ w5.cell? ⟨N, off, none⟩ = some (.int .u64 y.1) ∧ w5.cell? ⟨N, off + 1, none⟩ = some (.int .u64 y.2) ∧ w5.cell? ⟨N, off + 2, none⟩ = some (.pointer p1) ∧ w5.cell? ⟨N, off + 3, none⟩ = some (.pointer p2) := ⟨cell_to qB e0, cell_to qB e1, cell_to qB c0, cell_to qB c1, cell_to qB c2, cell_to qB c3⟩; have HB := hidd hB; have HBl := hidd hBl; clear hB hBl hbB) | (go_at_call 89; (with_reducible refine CA.out.mono ?_); rintro e w4 ⟨pA, TA, rfl, hA, hAl, hbA⟩; have qA : Below W.heap.size W w4 := kd.trans hbA; have qh : w4.cell? ⟨w.heap.size, 0, none⟩ = some (.int .u64 x.1) ∧ w4.cell? ⟨w.heap.size, 1, none⟩ = some (.int .u64 x.2) ∧ w4.cell? ⟨N, off, none⟩ = some (.int .u64 y.1) ∧ w4.cell? ⟨N, off + 1, none⟩ = some (.int .u64 y.2) ∧ w4.cell? ⟨N, off + 2, none⟩ = some (.pointer p1) ∧ w4.cell? ⟨N, off + 3, none⟩ = some (.pointer p2) := ⟨cell_to qA e0, cell_to qA e1, cell_to qA c0, cell_to qA c1, cell_to qA c2, cell_to qA c3⟩; have hAs : LL.list.length + TA.list.length ≤ 1000000000 := (by rw [hAl]; simp only [List.length_append, List.length_cons]; omega); have HA := hidd hA; have HAl := hidd hAl; clear hA hAl hbA))
  have hgo : TreeRet w ((LL.list ++ y :: LR.list) ++ x :: R.list) (.returned (.pointer pB)) w5 := ⟨pB, TB, rfl, HB.out, by rw [HBl.out, HAl.out]; simp, hfin _ qB⟩
  have Hgo := hidd hgo
  clear hgo
  go_wp2
  go_ret
  exact Hgo.out

set_option maxHeartbeats 1000000 in
set_option maxRecDepth 100000 in
theorem link_plain (pl pr : Option Addr) (L R : BT Run) (x : Run) (w : World) (hL : RTree w pl L) (hR : RTree w pr R) (hl : L.list.length + R.list.length ≤ 1000000000)
    (h1 : heavier R.list.length L.list.length = false) (h2 : heavier L.list.length R.list.length = false) :
    Calls Try.prog 89 #[.pointer pl, .agg #[.int .u64 x.1, .int .u64 x.2], .pointer pr] w (TreeRet w (L.list ++ x :: R.list)) := by
  have kb := below_self w (.cells #[.int .u64 x.1, .int .u64 x.2] 94)
  have e0 : (w.alloc (.cells #[.int .u64 x.1, .int .u64 x.2] 94)).cell? ⟨w.heap.size, 0, none⟩ = some (.int .u64 x.1) := by simp
  have e1 : (w.alloc (.cells #[.int .u64 x.1, .int .u64 x.2] 94)).cell? ⟨w.heap.size, 1, none⟩ = some (.int .u64 x.2) := by simp
  have CO := hidd (outweighs_any _ _ _ _ _ (hR.to kb) (hL.to kb) (by omega) (by omega))
  have CP := hidd (outweighs_any _ _ _ _ _ (hL.to kb) (hR.to kb) (by omega) (by omega))
  rw [h1] at CO
  rw [h2] at CP
  have CN := hidd (node_any pl pr L R x _ (hL.to kb) (hR.to kb) (by omega) (by omega))
  clear hL hR
  go_enter Try.func89, Try.ntmps89
  go_wp2_with fail
  generalize w.alloc (.cells #[.int .u64 x.1, .int .u64 x.2] 94) = w0 at *
  refine CO.out.mono ?_
  rintro e wq ⟨rfl, hwq⟩
  rw [hwq]
  clear hwq wq CO
  go_wp2_with fail
  refine CP.out.mono ?_
  rintro e wq ⟨rfl, hwq⟩
  rw [hwq]
  clear hwq wq CP
  go_wp2_with fail
  refine CN.out.mono ?_
  rintro e w1 ⟨p, T, rfl, hT, hTl, hb⟩
  have Hgo : Hid (TreeRet w (L.list ++ x :: R.list) (.returned (.pointer p)) w1) := ⟨p, T, rfl, hT, hTl, kb.trans (hb.mono kb.size)⟩
  clear hT hTl hb CN
  go_wp2
  go_ret
  exact Hgo.out

theorem link_all : ∀ (m : Nat), m ≤ 900000000 → LinkAt m := by
  intro m
  induction m using Nat.strongRecOn with
  | _ m ih =>
    intro hm pl pr L R x w hs hL hR
    cases h1 : heavier R.list.length L.list.length with
    | true =>
      obtain ⟨RL, y, RR, rfl⟩ := heavier_node h1
      rw [len_node] at h1 hs
      exact link_r pl pr L RL RR x y w hL hR (by omega) (ih _ (by omega) (by omega)) h1
    | false =>
      cases h2 : heavier L.list.length R.list.length with
      | true =>
        obtain ⟨LL, y, LR, rfl⟩ := heavier_node h2
        rw [len_node] at h1 h2 hs
        exact link_l pl pr LL LR R x y w hL hR (by omega) (ih _ (by omega) (by omega)) h1 h2
      | false => exact link_plain pl pr L R x w hL hR (by omega) h1 h2

theorem link_any (pl pr : Option Addr) (L R : BT Run) (x : Run) (w : World) (hL : RTree w pl L) (hR : RTree w pr R) (hl : L.list.length + R.list.length ≤ 900000000) :
    Calls Try.prog 89 #[.pointer pl, .agg #[.int .u64 x.1, .int .u64 x.2], .pointer pr] w (TreeRet w (L.list ++ x :: R.list)) :=
  link_all _ hl pl pr L R x w rfl hL hR

end Go.Proofs.Qxb6608633a
