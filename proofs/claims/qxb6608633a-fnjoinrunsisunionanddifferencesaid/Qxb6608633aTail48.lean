/- joinRuns, run by run: a round from the difference on. -/
import Derived.Test.Qxb6608633aLast
namespace Go.Proofs.Qxb6608633a
open Go.RowKit
open Go.Shelf
attribute [local go_sem] Oper.semAt_some
set_option maxRecDepth 100000 in
set_option maxHeartbeats 4000000 in
theorem tail48 (c0 c1 c2 c3 c4 ca c5 r12 c12 r14 r15 r16 r17 r18 r19 : Code) (ib jb : Nat) (og : Operand) (ps : Array Tmp) (h : some (Code.seq c0 (.seq c1 (.seq c2 (.seq c3 (.seq (.seq c4 (.block ib (.rangeFunc og ps ca (.block jb (.seq (.seq r12 c12) (.seq r14 (.seq r15 (.seq r16 (.seq r17 (.seq r18 r19)))))))))) c5))))) = Try.f48.body)
    (t0 t1 t3 t4 t5 t6 t7 t8 t9 t10 t14 t16 t17 t18 t19 t20 t21 t22 t23 t24 t25 t26 t27 t28 t29 t30 t31 t32 t33 t34 t35 t36 t37 t38 t39 t40 t41 t42 t43 t44 t45 t46 t47 t48 t49 t50 t51 t52 t53 t54 t55 t56 t57 t58 t59 t60 t61 t62 t63 t64 t65 t66 t67 t68 t69 t70 t71 t72 t73 t74 t75 t76 t77 t78 t79 t80 t81 t82 t83 t84 t85 t86 t87 t88 t89 t90 t91 t92 t93 t94 t95 t96 : Value) (Bm Bp Bw Bx n0 l m gs : Nat) (w W : World) (zs M0 pre pieces A C : List Run) (x : Run) (whole : Bool) (vp vj : Value) (pm pm' pj : Option Addr) (J B Mc : BT Run) (Q : Exit → Act → World → Prop)
    (hB2 : n0 ≤ Bp) (hB3 : n0 ≤ Bw) (hn : n0 ≤ w.heap.size)
    (hst : St48 n0 w Bm Bp Bw pj J pieces whole vp gs W) (hpl : PlSt zs M0 pre Mc.list pieces whole pm pm') (hz : Form zs) (hne : zs ≠ []) (hu : InU (pick zs x)) (hl1 : M0.length ≤ 32768) (hl2 : pre.length ≤ 32768)
    (hX : W.heap[Bx]? = some (.cells #[.int .u64 (pick zs x).1, .int .u64 (pick zs x).2] 94 (0, 0)))
    (hj : SlR W vj B.list) (hh : ¬ holdsR Mc.list (pick zs x)) (hABC : A ++ (B.list ++ C) = Mc.list) (hJ : J.list = A ++ joinR (pick zs x) B.list :: C) (hA : ∀ y ∈ A, P96 (pick zs x) y = true) (hB : ∀ y ∈ B.list, P96 (pick zs x) y = false ∧ P97 (pick zs x) y = true) (hC : ∀ y ∈ C, P96 (pick zs x) y = false ∧ P97 (pick zs x) y = false)
    (hQ : ∀ a W', KeepsFrom n0 W W' → Below n0 W W' → Inv48 n0 w Bm Bp Bw pm zs M0 (pre ++ [x]) W' → Q .normal a W') :
    (Code.seq r17 (.seq r18 r19)).wpIn (Fence.wide.inRound l) m Try.prog Q { tmps := #[t0, t1, .pointer (some ⟨Bm, 0, none⟩), t3, t4, t5, t6, t7, t8, t9, t10, .pointer (some ⟨Bp, 0, none⟩), .pointer (some ⟨Bw, 0, none⟩), .pointer (some ⟨Bx, 0, none⟩), t14, vj, t16, t17, t18, t19, t20, t21, t22, t23, t24, t25, t26, t27, t28, t29, t30, t31, t32, t33, t34, t35, t36, t37, t38, t39, t40, t41, t42, t43, t44, t45, t46, t47, t48, t49, t50, t51, t52, t53, t54, t55, t56, t57, t58, t59, t60, t61, t62, t63, t64, t65, t66, t67, t68, t69, t70, t71, t72, t73, t74, t75, t76, t77, t78, t79, t80, t81, t82, t83, t84, t85, t86, t87, t88, t89, t90, t91, t92, t93, t94, t95, t96], defers := [] } W := by
  delta Try.f48 at h
  simp only [Option.some.injEq, Code.seq.injEq, Code.block.injEq, Code.rangeFunc.injEq] at h
  obtain ⟨-, -, -, -, ⟨-, -, -, -, -, -, ⟨-, -⟩, -, -, -, rfl, rfl, rfl⟩, -⟩ := h
  have hm : (Fence.wide.depth.isSome = true → 1 ≤ m) := fun h => by cases h
  have hnew : ∀ w' : Bool, (w' = true → whole = true ∧ sub [pick zs x] B.list = [pick zs x]) → PlSt zs M0 (pre ++ [x]) J.list (pieces ++ sub [pick zs x] B.list) w' pm pj ∧ sub [pick zs x] B.list ≠ [] := fun w' hw => by
    rw [hJ]; exact pl_new hpl hz hne hu hh hABC hA hB hC w' hw
  have hub : ∀ y ∈ B.list, InU y := fun y hy => hpl.um y (by rw [← hABC]; simp [hy])
  have hln : pieces.length + Mc.list.length ≤ 98304 := by have := hpl.len; omega
  have hls : (sub [pick zs x] B.list).length ≤ 98305 := by
    have h1 := sub_len [pick zs x] B.list
    rw [← hABC] at hln
    simp only [List.length_append, List.length_cons, List.length_nil] at h1 hln
    omega
  obtain ⟨r, hr⟩ : ∃ r, pick zs x = r := ⟨_, rfl⟩
  rw [hr] at hnew hls hu hX
  have Hnew := hidd hnew
  have Hst := hidd hst
  have kb := below_self W (.cells #[.int .u64 r.1, .int .u64 r.2] 94)
  have hc0 : W.cell? ⟨Bx, 0, none⟩ = some (.int .u64 r.1) := by simp [World.cell?, hX]
  have hc1 : W.cell? ⟨Bx, 1, none⟩ = some (.int .u64 r.2) := by simp [World.cell?, hX]
  have hsl : SlR (W.alloc (.cells #[.int .u64 r.1, .int .u64 r.2] 94)) (.slice (some ⟨W.heap.size, 0, none⟩) 1 1) [r] := by
    refine ⟨_, _, rfl, by simp, fun _ => ⟨_, _, rfl, fun i y hy => ?_⟩⟩
    cases i with
    | zero => simp at hy; subst hy; simp
    | succ i => simp at hy
  have C1 := hidd (CallsIn.inRound l ((callsIn_wide (n := m - 1)).2 (subtract_any (.slice (some ⟨W.heap.size, 0, none⟩) 1 1) vj [r] B.list _ hsl (hj.to kb) (by simp) (by simpa using hu) hub (by omega))))
  have hr2 := hidd hr
  clear hpl hj hX hst hnew hu hub hh hABC hJ hA hB hC hz hne hr hsl
  gi_wp2_with fail
  refine ⟨trivial, hm, ?_⟩
  refine C1.out.mono ?_
  rintro e w1 ⟨vr, rfl, hown, hb1⟩
  have hrn := (Hnew.out false (fun h => by cases h)).2
  obtain ⟨ar, cr, rfl, har⟩ := own_shape hown
  obtain ⟨gr, rfl⟩ := har (fun h => hrn (List.eq_nil_of_length_eq_zero h))
  have hb2 := kb.trans (hb1.mono kb.size)
  have d0 := cell_to hb2 hc0
  have d1 := cell_to hb2 hc1
  have hsz : n0 ≤ W.heap.size := Nat.le_trans hn Hst.out.be.size
  have Hst1 := hidd (Hst.out.to hsz hb2)
  have hw0 := Hst1.out.bw.cell
  have hw1 := Hst1.out.bw.frozen
  have Hown := hidd hown
  have hra := runsAt_own rfl hown
  have Hra := hidd hra
  clear C1 hown har hrn hc0 hc1 hra
  gi_wp2_with fail
  have fin : ∀ (b : Bool) (a : Act) (W2 W' : World) (v' : Value) (gs' : Nat), (b = true → whole = true ∧ sub [r] B.list = [r]) → Below n0 w1 W2 → KeepsFrom n0 w1 W2 → KeepsFrom n0 W2 W' → Below n0 W2 W' → St48 n0 w Bm Bp Bw pj J (pieces ++ sub [r] B.list) b v' gs' W' → Q .normal a W' := fun b a W2 W' v' gs' hb q1 q2 q3 q4 q5 =>
    hQ a W' (((keeps_below hb2).trans q2).trans q3) ((hb2.mono hsz).trans (q1.trans q4)) ⟨pj, J, _, b, v', gs', q5, (Hnew.out b hb).1⟩
  have Fin := hidd fin
  rename_i K hK
  clear fin hQ
  have hmo : Try.prog.follows .mixedOrders = true := by kernel_rfl
  have hz1 : n0 ≤ w1.heap.size := Nat.le_trans hsz hb2.size
  have hlp : pieces.length ≤ 98304 := by omega
  generalize hys : sub [r] B.list = ys at *
  cases whole with
  | false =>
    have HB : (false = true → false = true ∧ ys = [r]) := fun h => by cases h
    gi_region_o
    all_goals exact hK _ _ (last48 _ _ _ _ _ _ _ _ _ _ _ _ _ _ _ _ _ _ _ rfl _ _ _ _ _ _ _ _ _ _ _ _ _ _ _ _ _ _ _ _ _ _ _ _ _ _ _ _ _ _ _ _ _ _ _ _ _ _ _ _ _ _ _ _ _ _ _ _ _ _ _ _ _ _ _ _ _ _ _ _ _ _ _ _ _ _ _ _ _ _ _ _ _ _ _ _ _ _ _ _ _ _ _ _ _ _ _ _ _ _ _ _ _ _ _ Bm Bp Bw n0 l m gs gr cr _ w _ pieces ys _ vp pj J Q hB2 hn ((Hst1.out.setW hB3 false).to (by rw [World.size_setCell]; omega) (below_drew _)) (by omega) (by omega) (own_to (below_drew _) (own_off Hown.out (Hst1.out.bw.not_row (by decide) Hown.out))) (fun a W' v' gs' k1 k2 k3 => Fin.out _ a _ W' v' gs' HB ((below_set hB3 _).trans ((below_drew _).mono (by rw [World.size_setCell]; omega))) (((KeepsOthers.setCell _ _ _).from _).trans (keeps_below (below_drew _))) k1 k2 k3))
  | true =>
    by_cases hy1 : ys.length = 1
    · obtain ⟨y, rfl⟩ : ∃ y, ys = [y] := by
        cases ys with
        | nil => cases hy1
        | cons y t => cases t with
          | nil => exact ⟨y, rfl⟩
          | cons _ _ => simp at hy1
      obtain ⟨e0, e1⟩ := Hra.out 0 y rfl
      rw [Nat.zero_mul, Nat.add_zero] at e0 e1
      clear hy1
      by_cases hq1 : y.1 = r.1
      · by_cases hq2 : y.2 = r.2
        · have HB : (true = true → true = true ∧ [y] = [r]) := fun _ => ⟨rfl, by rw [Prod.ext hq1 hq2]⟩
          rw [hq1] at e0
          rw [hq2] at e1
          gi_region_o
          all_goals exact hK _ _ (last48 _ _ _ _ _ _ _ _ _ _ _ _ _ _ _ _ _ _ _ rfl _ _ _ _ _ _ _ _ _ _ _ _ _ _ _ _ _ _ _ _ _ _ _ _ _ _ _ _ _ _ _ _ _ _ _ _ _ _ _ _ _ _ _ _ _ _ _ _ _ _ _ _ _ _ _ _ _ _ _ _ _ _ _ _ _ _ _ _ _ _ _ _ _ _ _ _ _ _ _ _ _ _ _ _ _ _ _ _ _ _ _ _ _ _ _ Bm Bp Bw n0 l m gs gr cr _ w _ pieces [y] _ vp pj J Q hB2 hn ((Hst1.out.setW hB3 true).to (by rw [World.size_setCell]; omega) (below_drew _)) (by omega) (by simp) (own_to (below_drew _) (own_off Hown.out (Hst1.out.bw.not_row (by decide) Hown.out))) (fun a W' v' gs' k1 k2 k3 => Fin.out _ a _ W' v' gs' HB ((below_set hB3 _).trans ((below_drew _).mono (by rw [World.size_setCell]; omega))) (((KeepsOthers.setCell _ _ _).from _).trans (keeps_below (below_drew _))) k1 k2 k3))
        · have HB : (false = true → true = true ∧ [y] = [r]) := fun h => by cases h
          rw [hq1] at e0
          have hq3 : (y.2 == r.2) = false := by simpa using hq2
          gi_region_o
          all_goals exact hK _ _ (last48 _ _ _ _ _ _ _ _ _ _ _ _ _ _ _ _ _ _ _ rfl _ _ _ _ _ _ _ _ _ _ _ _ _ _ _ _ _ _ _ _ _ _ _ _ _ _ _ _ _ _ _ _ _ _ _ _ _ _ _ _ _ _ _ _ _ _ _ _ _ _ _ _ _ _ _ _ _ _ _ _ _ _ _ _ _ _ _ _ _ _ _ _ _ _ _ _ _ _ _ _ _ _ _ _ _ _ _ _ _ _ _ _ _ _ _ Bm Bp Bw n0 l m gs gr cr _ w _ pieces [y] _ vp pj J Q hB2 hn ((Hst1.out.setW hB3 false).to (by rw [World.size_setCell]; omega) (below_drew _)) (by omega) (by simp) (own_to (below_drew _) (own_off Hown.out (Hst1.out.bw.not_row (by decide) Hown.out))) (fun a W' v' gs' k1 k2 k3 => Fin.out _ a _ W' v' gs' HB ((below_set hB3 _).trans ((below_drew _).mono (by rw [World.size_setCell]; omega))) (((KeepsOthers.setCell _ _ _).from _).trans (keeps_below (below_drew _))) k1 k2 k3))
      · have HB : (false = true → true = true ∧ [y] = [r]) := fun h => by cases h
        have hq3 : (y.1 == r.1) = false := by simpa using hq1
        gi_region_o
        all_goals exact hK _ _ (last48 _ _ _ _ _ _ _ _ _ _ _ _ _ _ _ _ _ _ _ rfl _ _ _ _ _ _ _ _ _ _ _ _ _ _ _ _ _ _ _ _ _ _ _ _ _ _ _ _ _ _ _ _ _ _ _ _ _ _ _ _ _ _ _ _ _ _ _ _ _ _ _ _ _ _ _ _ _ _ _ _ _ _ _ _ _ _ _ _ _ _ _ _ _ _ _ _ _ _ _ _ _ _ _ _ _ _ _ _ _ _ _ _ _ _ _ Bm Bp Bw n0 l m gs gr cr _ w _ pieces [y] _ vp pj J Q hB2 hn ((Hst1.out.setW hB3 false).to (by rw [World.size_setCell]; omega) (below_drew _)) (by omega) (by simp) (own_to (below_drew _) (own_off Hown.out (Hst1.out.bw.not_row (by decide) Hown.out))) (fun a W' v' gs' k1 k2 k3 => Fin.out _ a _ W' v' gs' HB ((below_set hB3 _).trans ((below_drew _).mono (by rw [World.size_setCell]; omega))) (((KeepsOthers.setCell _ _ _).from _).trans (keeps_below (below_drew _))) k1 k2 k3))
    · have hy2 : ((ys.length : Int) == 1) = false := by simp; omega
      have HB : (false = true → true = true ∧ ys = [r]) := fun h => by cases h
      gi_region_o
      all_goals exact hK _ _ (last48 _ _ _ _ _ _ _ _ _ _ _ _ _ _ _ _ _ _ _ rfl _ _ _ _ _ _ _ _ _ _ _ _ _ _ _ _ _ _ _ _ _ _ _ _ _ _ _ _ _ _ _ _ _ _ _ _ _ _ _ _ _ _ _ _ _ _ _ _ _ _ _ _ _ _ _ _ _ _ _ _ _ _ _ _ _ _ _ _ _ _ _ _ _ _ _ _ _ _ _ _ _ _ _ _ _ _ _ _ _ _ _ _ _ _ _ Bm Bp Bw n0 l m gs gr cr _ w _ pieces ys _ vp pj J Q hB2 hn ((Hst1.out.setW hB3 false).to (by rw [World.size_setCell]; omega) (below_drew _)) (by omega) (by omega) (own_to (below_drew _) (own_off Hown.out (Hst1.out.bw.not_row (by decide) Hown.out))) (fun a W' v' gs' k1 k2 k3 => Fin.out _ a _ W' v' gs' HB ((below_set hB3 _).trans ((below_drew _).mono (by rw [World.size_setCell]; omega))) (((KeepsOthers.setCell _ _ _).from _).trans (keeps_below (below_drew _))) k1 k2 k3))

end Go.Proofs.Qxb6608633a
