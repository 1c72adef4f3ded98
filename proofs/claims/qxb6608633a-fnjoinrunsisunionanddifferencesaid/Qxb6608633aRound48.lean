/- joinRuns, run by run: a round. -/
import Derived.Test.Qxb6608633aTail48
namespace Go.Proofs.Qxb6608633a
open Go.RowKit
open Go.Shelf
attribute [local go_sem] Oper.semAt_some

theorem mk4 : ∃ CC : Array Value, CC.size = 4 * 2 ∧ ∀ V : World, Sem.run Try.prog (Instr.makeSlice 105 (.int .i64 0) (.int .i64 4)) V = .ok (.slice (some ⟨V.heap.size, 0, none⟩) 0 4) (V.alloc (.cells CC 94)) := by
  obtain ⟨i0, hi, hz0, hz1, hz2⟩ := info_parts Try.info94
  refine ⟨madeCells (Value.agg #[.int .u64 0, .int .u64 0]).cells (4 * 2), size_madeCells _ _, fun V => ?_⟩
  have h := run_make (P := Try.prog) V 105 94 i0 _ Try.underlying105 hi hz0 .i64 .i64 0 4 (by omega) (by omega) (by rw [hz2]; omega) (by omega)
  rw [hz1] at h
  exact h

theorem appA (W : World) (pt : Option Addr) (B : BT Run) (CC : Array Value) (g : Nat) (hB : RTreeA g W pt B) (hC : CC.size = 4 * 2) (hl : B.list.length ≤ 1000000) :
    Calls Try.prog 71 #[.slice (some ⟨W.heap.size, 0, none⟩) 0 4, .func (.func 82) #[] #[.pointer (some ⟨W.heap.size + 1, 0, none⟩)]] ((W.alloc (.cells CC 94)).alloc (.cells #[.pointer pt] 65)).drew (RunsRet W.heap.size W B.list) := by
  show Calls Try.prog 71 _ ((W.drew.alloc (.cells CC 94)).alloc (.cells #[.pointer pt] 65)) _
  have k1 : Below W.heap.size W ((W.drew.alloc (.cells CC 94)).alloc (.cells #[.pointer pt] 65)) := (below_drew W).trans (((below_self W.drew (.cells CC 94)).trans ((below_self (W.drew.alloc (.cells CC 94)) _).mono (by simp))).mono (Nat.le_refl _))
  have h0 : (W.drew.alloc (.cells CC 94)).ownsRow W.heap.size 94 2 (.slice (some ⟨W.heap.size, 0, none⟩) 0 4) 0 [] := World.ownsRow_made W.drew CC 4 (Nat.le_refl _) (by decide) hC
  have h1 : ((W.drew.alloc (.cells CC 94)).alloc (.cells #[.pointer pt] 65)).cell? ⟨W.heap.size + 1, 0, none⟩ = some (.pointer pt) := cell_new2 (by simp) rfl
  refine (appendSeqR_any (W.heap.size + 1) pt B (by omega) _ W.heap.size 4 (some ⟨W.heap.size, 0, none⟩) (by simp; omega) (h0.alloc _) h1 (hB.tree.toN.below k1)).mono ?_
  rintro e w' ⟨v, rfl, h2, h3⟩
  exact ⟨v, rfl, h2, k1.trans h3⟩
theorem appB (W : World) (pt : Option Addr) (B : BT Run) (CC : Array Value) (g : Nat) (hB : RTreeA g W pt B) (hC : CC.size = 4 * 2) (hl : B.list.length ≤ 1000000) :
    Calls Try.prog 71 #[.slice (some ⟨W.heap.size + 1, 0, none⟩) 0 4, .func (.func 82) #[] #[.pointer (some ⟨W.heap.size, 0, none⟩)]] ((W.alloc (.cells #[.pointer pt] 65)).alloc (.cells CC 94)).drew (RunsRet W.heap.size W B.list) := by
  show Calls Try.prog 71 _ ((W.drew.alloc (.cells #[.pointer pt] 65)).alloc (.cells CC 94)) _
  have k1 : Below W.heap.size W ((W.drew.alloc (.cells #[.pointer pt] 65)).alloc (.cells CC 94)) := (below_drew W).trans (((below_self W.drew (.cells #[.pointer pt] 65)).trans ((below_self (W.drew.alloc (.cells #[.pointer pt] 65)) _).mono (by simp))).mono (Nat.le_refl _))
  have hs : (W.drew.alloc (.cells #[.pointer pt] 65)).heap.size = W.heap.size + 1 := by simp
  have h0 : ((W.drew.alloc (.cells #[.pointer pt] 65)).alloc (.cells CC 94)).ownsRow W.heap.size 94 2 (.slice (some ⟨(W.drew.alloc (.cells #[.pointer pt] 65)).heap.size, 0, none⟩) 0 4) 0 [] := World.ownsRow_made (W.drew.alloc (.cells #[.pointer pt] 65)) CC 4 (by simp) (by decide) hC
  rw [hs] at h0
  have h1 : ((W.drew.alloc (.cells #[.pointer pt] 65)).alloc (.cells CC 94)).cell? ⟨W.heap.size, 0, none⟩ = some (.pointer pt) := cell_to (below_self _ _) (cell_new2 (by simp) rfl)
  refine (appendSeqR_any W.heap.size pt B (by omega) _ W.heap.size 4 (some ⟨W.heap.size + 1, 0, none⟩) (by simp; omega) h0 h1 (hB.tree.toN.below k1)).mono ?_
  rintro e w' ⟨v, rfl, h2, h3⟩
  exact ⟨v, rfl, h2, k1.trans h3⟩
set_option maxRecDepth 100000 in
set_option maxHeartbeats 4000000 in
theorem round48 (c0 c1 c2 c3 c4 ca c5 r12 c12 r14 r15 r16 r17 r18 r19 : Code) (ib jb : Nat) (og : Operand) (ps : Array Tmp) (h : some (Code.seq c0 (.seq c1 (.seq c2 (.seq c3 (.seq (.seq c4 (.block ib (.rangeFunc og ps ca (.block jb (.seq (.seq r12 c12) (.seq r14 (.seq r15 (.seq r16 (.seq r17 (.seq r18 r19)))))))))) c5))))) = Try.f48.body)
    (t0 t1 t3 t4 t5 t6 t7 t8 t9 t10 t14 t15 t16 t17 t18 t19 t20 t21 t22 t23 t24 t25 t26 t27 t28 t29 t30 t31 t32 t33 t34 t35 t36 t37 t38 t39 t40 t41 t42 t43 t44 t45 t46 t47 t48 t49 t50 t51 t52 t53 t54 t55 t56 t57 t58 t59 t60 t61 t62 t63 t64 t65 t66 t67 t68 t69 t70 t71 t72 t73 t74 t75 t76 t77 t78 t79 t80 t81 t82 t83 t84 t85 t86 t87 t88 t89 t90 t91 t92 t93 t94 t95 t96 : Value) (Bm Bp Bw Bx n0 l m : Nat) (w W : World) (zs M0 pre : List Run) (x : Run) (pm : Option Addr) (Q : Exit → Act → World → Prop)
    (hB1 : n0 ≤ Bm) (hB2 : n0 ≤ Bp) (hB3 : n0 ≤ Bw) (hn : n0 ≤ w.heap.size)
    (hin : Inv48 n0 w Bm Bp Bw pm zs M0 pre W) (hz : Form zs) (hne : zs ≠ []) (hu : InU (pick zs x)) (hl1 : M0.length ≤ 32768) (hl2 : pre.length ≤ 32768)
    (hX : W.heap[Bx]? = some (.cells #[.int .u64 (pick zs x).1, .int .u64 (pick zs x).2] 94 (0, 0)))
    (hQ : ∀ a W', KeepsFrom n0 W W' → Below n0 W W' → Inv48 n0 w Bm Bp Bw pm zs M0 (pre ++ [x]) W' → Q .normal a W') :
    (Code.block jb (.seq (.seq r12 c12) (.seq r14 (.seq r15 (.seq r16 (.seq r17 (.seq r18 r19))))))).wpIn (Fence.wide.inRound l) m Try.prog Q { tmps := #[t0, t1, .pointer (some ⟨Bm, 0, none⟩), t3, t4, t5, t6, t7, t8, t9, t10, .pointer (some ⟨Bp, 0, none⟩), .pointer (some ⟨Bw, 0, none⟩), .pointer (some ⟨Bx, 0, none⟩), t14, t15, t16, t17, t18, t19, t20, t21, t22, t23, t24, t25, t26, t27, t28, t29, t30, t31, t32, t33, t34, t35, t36, t37, t38, t39, t40, t41, t42, t43, t44, t45, t46, t47, t48, t49, t50, t51, t52, t53, t54, t55, t56, t57, t58, t59, t60, t61, t62, t63, t64, t65, t66, t67, t68, t69, t70, t71, t72, t73, t74, t75, t76, t77, t78, t79, t80, t81, t82, t83, t84, t85, t86, t87, t88, t89, t90, t91, t92, t93, t94, t95, t96], defers := [] } W := by
  delta Try.f48 at h
  simp only [Option.some.injEq, Code.seq.injEq, Code.block.injEq, Code.rangeFunc.injEq] at h
  obtain ⟨-, -, -, -, ⟨-, -, -, -, -, rfl, ⟨rfl, rfl⟩, rfl, rfl, rfl, rfl, rfl, rfl⟩, -⟩ := h
  have hm : (Fence.wide.depth.isSome = true → 1 ≤ m) := fun h => by cases h
  obtain ⟨pm', Mc, pieces, whole, vp, gs, hst, hpl⟩ := hin
  have hmo : Try.prog.follows .mixedOrders = true := by kernel_rfl
  have hr12 : (pick zs x).1 ≤ (pick zs x).2 := (hz.1 _ (pick_mem hne x)).2
  have hln : Mc.list.length ≤ 98304 := by have := hpl.len; omega
  have HPl := hidd hpl
  have Hst := hidd hst
  have Hz := hidd hz
  have Hu := hidd hu
  have HX := hidd hX
  have hsz : n0 ≤ W.heap.size := Nat.le_trans hn hst.be.size
  have hc := hst.bm.cell
  have C1 := hidd (CallsIn.inRound l ((callsIn_wide (n := m - 1)).2 (runsHold_any pm' Mc (pick zs x) W hst.tr.tree hpl.fm (by omega) hr12)))
  have hx0 : W.cell? ⟨Bx, 0, none⟩ = some (.int .u64 (pick zs x).1) := by simp [World.cell?, hX]
  have hx1 : W.cell? ⟨Bx, 1, none⟩ = some (.int .u64 (pick zs x).2) := by simp [World.cell?, hX]
  clear hX hpl hst hz hu
  obtain ⟨r, hr⟩ : ∃ r, pick zs x = r := ⟨_, rfl⟩
  rw [hr] at hx0 hx1 C1 Hu hr12
  have Hr := hidd hr
  clear hr
  gi_wp2_with fail
  refine ⟨trivial, hm, ?_⟩
  refine C1.out.mono ?_
  rintro e w1 ⟨b, rfl, hb, hb1⟩
  have Hst1 := hidd (Hst.out.to hsz hb1)
  have d0 := cell_to hb1 hx0
  have d1 := cell_to hb1 hx1
  have hc1 := cell_to hb1 hc
  have hz1 : n0 ≤ w1.heap.size := Nat.le_trans hsz hb1.size
  clear C1 hx0 hx1 hc
  cases b with
  | true =>
    have hw1 := Hst1.out.bw.frozen
    have hw0 := Hst1.out.bw.cell
    have Hfin := hidd (show ∀ a, Q .normal a (w1.setCell ⟨Bw, 0, none⟩ (.bool false)) from fun a => hQ a _ ((keeps_below hb1).trans ((KeepsOthers.setCell _ _ _).from _)) ((hb1.mono hsz).trans (below_set hB3 _)) ⟨pm', Mc, pieces, false, vp, gs, Hst1.out.setW hB3 false, pl_held HPl.out Hz.out (by rw [Hr.out]; exact hb.1 rfl)⟩)
    clear hb
    clear hQ
    gi_wp2
    exact Hfin.out _
  | false =>
    have hnh : ¬ holdsR Mc.list r := fun h => by cases hb.2 h
    have C2 := hidd (CallsIn.inRound l ((callsIn_wide (n := m - 1)).2 (putRunA_any gs pm' Mc r w1 Hst1.out.gl Hu.out Hst1.out.tr HPl.out.fm HPl.out.um (by omega))))
    clear hb
    gi_wp2_with fail
    refine ⟨trivial, hm, ?_⟩
    refine C2.out.mono ?_
    rintro e w2 ⟨pj, pt, J, B, A, C, rfl, hJ, hB, hABC, hJl, hA, hB', hC, hb2⟩
    have Hst2 := hidd ((Hst1.out.to hz1 hb2).setM hB1 hJ)
    have e0 := (Hst1.out.to hz1 hb2).bm.cell
    have e1 := (Hst1.out.to hz1 hb2).bm.frozen
    have HB := hidd hB
    have Hpl := hidd (And.intro hABC (And.intro hJl (And.intro hA (And.intro hB' hC))))
    clear C2 hJ hB hABC hJl hA hB' hC
    gi_wp2_with fail
    rename_i K hK
    have k3 : KeepsFrom n0 W (w2.setCell ⟨Bm, 0, none⟩ (.pointer pj)) := ((keeps_below hb1).trans (keeps_below hb2)).trans ((KeepsOthers.setCell _ _ _).from _)
    have q3 : Below n0 W (w2.setCell ⟨Bm, 0, none⟩ (.pointer pj)) := ((hb1.mono hsz).trans (hb2.mono hz1)).trans (below_set hB1 _)
    have HB3 := hidd (HB.out.but (set_off (X := Bm) (.pointer pj)) (box_lone (Hst1.out.to hz1 hb2).bm))
    have HX3 : Hid ((w2.setCell ⟨Bm, 0, none⟩ (.pointer pj)).heap[Bx]? = some (.cells #[.int .u64 r.1, .int .u64 r.2] 94 (0, 0))) := by
      have h1 := HX.out
      rw [Hr.out] at h1
      have hlt : Bx < W.heap.size := (Array.getElem?_eq_some_iff.1 h1).1
      have hne' : Bx ≠ Bm := fun e => by
        have h2 : W.heap[Bm]? = _ := Hst.out.bm
        rw [e, h2] at h1; simp at h1
      have h3 := (hb1.block Bx hlt).trans h1
      have h4 := (hb2.block Bx (Nat.lt_of_lt_of_le hlt hb1.size)).trans h3
      exact (set_off _ Bx hne' (Nat.lt_of_lt_of_le hlt (Nat.le_trans hb1.size hb2.size))).trans h4
    clear HB e0 e1 d0 d1 hc1 HX Hst hb1 hb2 Hst1
    generalize w2.setCell ⟨Bm, 0, none⟩ (.pointer pj) = W3 at *
    obtain ⟨CC, hCC, hmk⟩ := mk4
    have hsz3 : n0 ≤ W3.heap.size := Nat.le_trans hsz q3.size
    have hBl : B.list.length ≤ 98304 := by
      have h1 := congrArg List.length Hpl.out.1
      simp at h1; omega
    have CA := hidd (CallsIn.inRound l ((callsIn_wide (n := m - 1)).2 (appA W3 pt B CC gs HB3.out hCC (by omega))))
    have CB := hidd (CallsIn.inRound l ((callsIn_wide (n := m - 1)).2 (appB W3 pt B CC gs HB3.out hCC (by omega))))
    gi_region_with_o (first
      | ((try refine ⟨trivial, hm, ?_⟩); gi_at_call 66; refine (CallsIn.inRound l ((callsIn_wide (n := m - 1)).2 (all_any _ _))).mono ?_; rintro e w' ⟨rfl, rfl⟩)
      | ((try refine ⟨trivial, hm, ?_⟩); gi_at_call 71; (with_reducible refine CA.out.mono ?_); rintro e w4 ⟨vj, rfl, hown, hb4⟩)
      | ((try refine ⟨trivial, hm, ?_⟩); gi_at_call 71; (with_reducible refine CB.out.mono ?_); rintro e w4 ⟨vj, rfl, hown, hb4⟩))
    all_goals
      refine hK _ _ ?_
      have hr := Hr.out
      subst hr
      exact tail48 _ _ _ _ _ _ _ _ _ _ _ _ _ _ _ _ _ _ _ rfl _ _ _ _ _ _ _ _ _ _ _ _ _ _ _ _ _ _ _ _ _ _ _ _ _ _ _ _ _ _ _ _ _ _ _ _ _ _ _ _ _ _ _ _ _ _ _ _ _ _ _ _ _ _ _ _ _ _ _ _ _ _ _ _ _ _ _ _ _ _ _ _ _ _ _ _ _ _ _ _ _ _ _ _ _ _ _ _ _ _ _ _ Bm Bp Bw Bx n0 l m gs w _ zs M0 pre pieces A C x whole vp vj pm pm' pj J B Mc _ hB2 hB3 hn (Hst2.out.to hsz3 hb4) HPl.out Hz.out hne Hu.out hl1 hl2 ((hb4.block Bx (Array.getElem?_eq_some_iff.1 HX3.out).1).trans HX3.out) (slR_own rfl hown) hnh Hpl.out.1 Hpl.out.2.1 Hpl.out.2.2.1 Hpl.out.2.2.2.1 Hpl.out.2.2.2.2 (fun a W' j1 j2 j3 => hQ a W' ((k3.trans (keeps_below hb4)).trans j1) ((q3.trans (hb4.mono hsz3)).trans j2) j3)

end Go.Proofs.Qxb6608633a
