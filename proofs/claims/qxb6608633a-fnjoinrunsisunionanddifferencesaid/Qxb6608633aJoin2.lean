/- joinRuns, run by run. -/
import Derived.Test.Qxb6608633aDone48
namespace Go.Proofs.Qxb6608633a
open Go.RowKit
open Go.Shelf
attribute [local go_sem] Oper.semAt_some
/-- The frame of a round. -/
def Fr48 (Bm Bp Bw Bx : Nat) (a : Act) : Prop := ∃ t0 t1 t3 t4 t5 t6 t7 t8 t9 t10 t14 t15 t16 t17 t18 t19 t20 t21 t22 t23 t24 t25 t26 t27 t28 t29 t30 t31 t32 t33 t34 t35 t36 t37 t38 t39 t40 t41 t42 t43 t44 t45 t46 t47 t48 t49 t50 t51 t52 t53 t54 t55 t56 t57 t58 t59 t60 t61 t62 t63 t64 t65 t66 t67 t68 t69 t70 t71 t72 t73 t74 t75 t76 t77 t78 t79 t80 t81 t82 t83 t84 t85 t86 t87 t88 t89 t90 t91 t92 t93 t94 t95 t96 : Value, a = { tmps := #[t0, t1, .pointer (some ⟨Bm, 0, none⟩), t3, t4, t5, t6, t7, t8, t9, t10, .pointer (some ⟨Bp, 0, none⟩), .pointer (some ⟨Bw, 0, none⟩), .pointer (some ⟨Bx, 0, none⟩), t14, t15, t16, t17, t18, t19, t20, t21, t22, t23, t24, t25, t26, t27, t28, t29, t30, t31, t32, t33, t34, t35, t36, t37, t38, t39, t40, t41, t42, t43, t44, t45, t46, t47, t48, t49, t50, t51, t52, t53, t54, t55, t56, t57, t58, t59, t60, t61, t62, t63, t64, t65, t66, t67, t68, t69, t70, t71, t72, t73, t74, t75, t76, t77, t78, t79, t80, t81, t82, t83, t84, t85, t86, t87, t88, t89, t90, t91, t92, t93, t94, t95, t96], defers := [] }
theorem belowK_alloc {n0 : Nat} {W : World} (h : n0 ≤ W.heap.size) (o : Obj) : Below n0 W (W.alloc o) := (Below.refl _ W).alloc h _

set_option maxHeartbeats 4000000 in
set_option maxRecDepth 100000 in
theorem join2 (pm pt : Option Addr) (M T : BT Run) (w : World) (hM : RTree w pm M) (hT : RTree w pt T) (fM : Form M.list) (fT : Form T.list) (uM : ∀ x ∈ M.list, InU x) (uT : ∀ x ∈ T.list, InU x) (lM : M.list.length ≤ 32768) (lT : T.list.length ≤ 32768)
    (hc : ¬ (T.list.length + M.list.length < T.list.length * Lib.bitLen M.list.length)) :
    Calls Try.prog 48 #[.pointer pm, .pointer pt] w (JoinRet w pm M.list T.list) := by
  have kb := below_self w (.cells #[.pointer pm] 65)
  have e0 : (w.alloc (.cells #[.pointer pm] 65)).cell? ⟨w.heap.size, 0, none⟩ = some (.pointer pm) := by simp
  have HM := hidd (hM.to kb)
  have HT := hidd (hT.to kb)
  have HT0 := hidd hT
  have HfM := hidd fM
  have HfT := hidd fT
  have HuM := hidd uM
  have HuT := hidd uT
  have hbl : Lib.bitLen M.list.length ≤ 64 := Lib.bitLen_le _ 64 (Nat.le_refl _) (by omega)
  have Hc := hidd hc
  have bM := Boxed.new w 65 (.pointer pm)
  have BM := hidd bM
  clear hM hT fM fT uM uT hc bM
  refine (callsIn_wide (n := 3)).1 ?_
  refine callsIn_of_wp_marks Try.func48 rfl trivial ?_ rfl
  simp only [Try.ntmps48, List.size_toArray, List.length_cons, List.length_nil, Nat.reduceAdd, Nat.reduceSub, Array.replicate_succ, Array.replicate_zero, List.push_toArray, List.append_toArray, List.nil_append, List.cons_append]
  refine wpIn_wide.2 ?_
  go_wp2_with fail
  generalize hw0 : w.alloc (.cells #[.pointer pm] 65) = w0 at *
  have hs0 : w.heap.size ≤ w0.heap.size := kb.size
  clear hw0
  go_quiet (first | (go_at_call 49; with_reducible exact Calls.quiet_of_same (lenR_any pt T _ (HT.out.to (below_drewN _ _)))) | (go_at_call 49; with_reducible exact Calls.quiet_of_same (lenR_any pm M _ (HM.out.to (below_drewN _ _)))))
  have kq := below_drewN w0 nq
  have kw : Below w.heap.size w (w0.drewN nq) := kb.trans (kq.mono hs0)
  have e1 := cell_to kq e0
  have BM1 := hidd (box_to kq BM.out)
  have HM1 := hidd (HM.out.to kq)
  have HT1 := hidd (HT.out.to kq)
  clear HM HT e0 kb kq BM
  generalize w0.drewN nq = W at *
  have CB := hidd (Try.bits_Len (M.list.length : Int) W (by omega) (by omega))
  rw [Int.toNat_natCast] at CB
  obtain ⟨L, hL⟩ : ∃ L, Lib.bitLen M.list.length = L := ⟨_, rfl⟩
  rw [hL] at CB Hc hbl
  clear hL
  obtain ⟨pr, hpr⟩ : ∃ pr, T.list.length * L = pr := ⟨_, rfl⟩
  have hpl : pr ≤ 2097152 := by rw [← hpr]; exact Nat.mul_le_mul lT hbl
  have kmul : (T.list.length : Int) * (L : Int) = (pr : Int) := by rw [← hpr]; simp
  have hlt : pr ≤ T.list.length + M.list.length := by rw [← hpr]; have := Hc.out; omega
  clear hpr Hc
  go_wp2_with (first | (go_at_call 64; (with_reducible refine CB.out.mono ?_); rintro e wq ⟨rfl, hwq⟩; rw [hwq]; clear hwq wq CB) | (go_at_call 66; refine (all_any _ _).mono ?_; rintro e w' ⟨rfl, rfl⟩))
  rename_i hpq K hK
  clear hpq
  have k1 := below_self W (.cells #[.slice none 0 0] 105)
  have k2 := below_self (W.alloc (.cells #[.slice none 0 0] 105)) (.cells #[.bool true] 4)
  have k3 := below_self ((W.alloc (.cells #[.slice none 0 0] 105)).alloc (.cells #[.bool true] 4)) (.cells #[.pointer pt] 65)
  have k4 := (k1.trans (k2.mono k1.size)).trans (k3.mono (Nat.le_trans k1.size k2.size))
  have kw2 := kw.trans (k4.mono kw.size)
  have hst : St48 w.heap.size w w.heap.size W.heap.size (W.heap.size + 1) pm M [] true (.slice none 0 0) (W.heap.size + 1) (((W.alloc (.cells #[.slice none 0 0] 105)).alloc (.cells #[.bool true] 4)).alloc (.cells #[.pointer pt] 65)) := by
    refine ⟨box_to k4 BM1.out, box_to (k2.trans (k3.mono k2.size)) (Boxed.new W 105 (.slice none 0 0)), box_to k3 ?_, World.ownsRow_nil _ _ _ _, fun g h => (by cases h), by simp, (HM1.out.toA (g := W.heap.size + 1) (by omega)).to k4, kw2⟩
    have := Boxed.new (W.alloc (.cells #[.slice none 0 0] 105)) 4 (.bool true)
    rwa [World.size_alloc] at this
  have hT3 := HT0.out.toN.below kw2
  have hct : (((W.alloc (.cells #[.slice none 0 0] 105)).alloc (.cells #[.bool true] 4)).alloc (.cells #[.pointer pt] 65)).cell? ⟨W.heap.size + 2, 0, none⟩ = some (.pointer pt) := cell_new2 (by simp) rfl
  have hsz3 : (((W.alloc (.cells #[.slice none 0 0] 105)).alloc (.cells #[.bool true] 4)).alloc (.cells #[.pointer pt] 65)).heap.size = W.heap.size + 3 := by simp
  generalize ((W.alloc (.cells #[.slice none 0 0] 105)).alloc (.cells #[.bool true] 4)).alloc (.cells #[.pointer pt] 65) = W3 at *
  have hw : w.heap.size ≤ W.heap.size := kw.size
  have hw3 : w.heap.size ≤ W3.heap.size := kw2.size
  have hseq := allM_stops Fence.wide rfl 2 trivial trivial rfl (W.heap.size + 2) w.heap.size pt T W3 (by omega) (by omega) hct hT3
  have Hst := hidd hst
  have HT3 := hidd hT3
  clear k1 k2 k3 k4 hst HM1 HT1 BM1 e1 hT3
  refine (wpIn_wide (n := 3)).1 ?_
  refine wpIn_rangeFunc_ownH rfl (by omega) (gf := 82) (lb := #[.pointer (some ⟨W.heap.size + 2, 0, none⟩)]) rfl trivial (enters_of Try.func82 (by kernel_rfl) rfl)
    hseq belowK_t (belowK_b hw3) (Below.refl _ _) (fun _ => rfl)
    (fun pre W' => Inv48 w.heap.size w w.heap.size W.heap.size (W.heap.size + 1) pm T.list M.list pre W')
    (fun _ _ _ => False)
    (inv_own (Nat.le_refl _) (by omega))
    (fun _ _ _ _ _ hs _ _ => hs)
    ⟨pm, M, [], true, _, _, Hst.out, pl_zero HfM.out HuM.out⟩
    (fun x a' W' => ∃ Bx, W'.heap[Bx]? = some (.cells #[.int .u64 (pick T.list x).1, .int .u64 (pick T.list x).2] 94 (0, 0)) ∧ Fr48 w.heap.size W.heap.size (W.heap.size + 1) Bx a')
    (fun x a' _ X Y row hs hg hr => by
      obtain ⟨Bx, q2, q3⟩ := hs
      refine ⟨Bx, (hg.block Bx (Array.getElem?_eq_some_iff.1 q2).1 (fun e' => ?_)).trans q2, q3⟩
      obtain ⟨_, o, ho, hcl⟩ := hr Bx e'.symm
      rw [q2] at ho; cases ho; cases hcl)
    ?assign ?body ?done ?stop
  case assign =>
    rintro l pre x W' Kf hin hKf
    obtain ⟨pm', Mc, pieces, whole, vp, gs, h1, h2⟩ := hin
    have hsw : w.heap.size ≤ W'.heap.size := h1.be.size
    have Hin := hidd (And.intro h1 h2)
    clear h1 h2 hseq
    gi_wp2
    refine hKf _ _ ((KeepsOthers.alloc _ _).from _) (belowK_alloc hsw _) ⟨pm', Mc, pieces, whole, vp, gs, Hin.out.1.to hsw (below_self _ _), Hin.out.2⟩ ⟨W'.heap.size, World.alloc_heap_new W' _, ⟨_, _, _, _, _, _, _, _, _, _, _, _, _, _, _, _, _, _, _, _, _, _, _, _, _, _, _, _, _, _, _, _, _, _, _, _, _, _, _, _, _, _, _, _, _, _, _, _, _, _, _, _, _, _, _, _, _, _, _, _, _, _, _, _, _, _, _, _, _, _, _, _, _, _, _, _, _, _, _, _, _, _, _, _, _, _, _, _, _, _, _, _, _, rfl⟩⟩
  case body =>
    rintro l pre x a' W' hl hlp hin ⟨Bx, hX, t0, t1, t3, t4, t5, t6, t7, t8, t9, t10, t14, t15, t16, t17, t18, t19, t20, t21, t22, t23, t24, t25, t26, t27, t28, t29, t30, t31, t32, t33, t34, t35, t36, t37, t38, t39, t40, t41, t42, t43, t44, t45, t46, t47, t48, t49, t50, t51, t52, t53, t54, t55, t56, t57, t58, t59, t60, t61, t62, t63, t64, t65, t66, t67, t68, t69, t70, t71, t72, t73, t74, t75, t76, t77, t78, t79, t80, t81, t82, t83, t84, t85, t86, t87, t88, t89, t90, t91, t92, t93, t94, t95, t96, rfl⟩ hlt
    have hne : T.list ≠ [] := fun e => by rw [e] at hlt; simp at hlt
    exact round48 _ _ _ _ _ _ _ _ _ _ _ _ _ _ _ _ _ _ _ rfl _ _ _ _ _ _ _ _ _ _ _ _ _ _ _ _ _ _ _ _ _ _ _ _ _ _ _ _ _ _ _ _ _ _ _ _ _ _ _ _ _ _ _ _ _ _ _ _ _ _ _ _ _ _ _ _ _ _ _ _ _ _ _ _ _ _ _ _ _ _ _ _ _ _ _ _ _ _ _ _ _ _ _ _ _ _ _ _ _ _ _ _ _ w.heap.size W.heap.size (W.heap.size + 1) Bx w.heap.size l _ w W' T.list M.list pre x pm _ (Nat.le_refl _) hw (by omega) (Nat.le_refl _) hin HfT.out hne (HuT.out _ (pick_mem hne x)) lM (by omega) hX (fun a W2 j1 j2 j3 => ⟨⟨j1.size, fun i o hi => j1.same i o (by omega)⟩, j2, j3⟩)
  case done =>
    rintro D ys W' hD rfl ⟨pm', Mc, pieces, whole, vp, gs, h1, h2⟩ hKD
    exact hK _ _ (done48 _ _ _ _ _ _ _ _ _ _ _ _ _ _ _ _ _ _ _ rfl _ _ _ _ _ _ _ _ _ _ _ _ _ _ _ _ _ _ _ _ _ _ _ _ _ _ _ _ _ _ _ _ _ _ _ _ _ _ _ _ _ _ _ _ _ _ _ _ _ _ _ _ _ _ _ _ _ _ _ _ _ _ _ _ _ _ _ _ _ _ _ _ _ _ _ _ _ _ _ _ _ _ _ _ _ _ _ _ _ _ _ _ _ w.heap.size W.heap.size (W.heap.size + 1) D gs w W' pm pm' pt M T Mc pieces whole vp h1 h2 (HT0.out.toN.below h1.be) HfT.out lM lT (by omega) hKD)
  case stop =>
    rintro D c pre W _ _ h _
    exact h.elim

end Go.Proofs.Qxb6608633a
