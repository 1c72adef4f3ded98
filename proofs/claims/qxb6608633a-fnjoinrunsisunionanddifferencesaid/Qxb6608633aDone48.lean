/- joinRuns, run by run: behind the loop. -/
import Derived.Test.Qxb6608633aRound48
namespace Go.Proofs.Qxb6608633a
open Go.RowKit
open Go.Shelf

theorem RTree.put {W : World} {D : Nat} {o : Obj} (o' : Obj) (hD : W.heap[D]? = some o) (ho : o.isCells = false) {T : BT Run} {p : Option Addr} (h : RTree W p T) : RTree (W.putObj D o') p T := by
  refine ((h.toA (g := W.heap.size) (Nat.le_refl _)).apart (X := D) (fun N h1 _ => World.putObj_heap_other h1) (fun j => ?_)).tree
  cases o <;> simp_all [World.cell?, Obj.isCells]

theorem pieces_nil {ps : List Run} (hf : Form ps) (h : ∀ x, ¬ cov ps x) : ps = [] := by
  cases ps with
  | nil => rfl
  | cons a l => exact absurd ⟨a, by simp, Int.le_refl _, (hf.1 a (by simp)).2⟩ (h a.1)
theorem way_agree {M T Mc pieces : List Run} {whole : Bool} (h : WaySt M T Mc pieces whole) : Agree M T Mc pieces := fun x => ⟨h.cm x, h.cp x⟩
theorem way_whole {M T Mc pieces : List Run} (h : WaySt M T Mc pieces true) : Agree M T Mc T := fun x => ⟨h.cm x, ⟨fun hx => ⟨hx, h.wh rfl x hx⟩, fun hx => hx.1⟩⟩

/-- The walk ends in a return, and there Q holds. -/
def onlyRet (Q : Exit → Act → World → Prop) : Exit → Act → World → Prop
  | .ret, a, w => Q .ret a w
  | _, _, _ => False
theorem onlyRet_mono {Q : Exit → Act → World → Prop} : ∀ e a w, onlyRet Q e a w → Q e a w := fun e a w h => by
  cases e <;> first | exact h | exact h.elim

set_option maxRecDepth 100000 in
set_option maxHeartbeats 4000000 in
theorem done48 (c0 c1 c2 c3 c4 ca c5 r12 c12 r14 r15 r16 r17 r18 r19 : Code) (ib jb : Nat) (og : Operand) (ps : Array Tmp) (h : some (Code.seq c0 (.seq c1 (.seq c2 (.seq c3 (.seq (.seq c4 (.block ib (.rangeFunc og ps ca (.block jb (.seq (.seq r12 c12) (.seq r14 (.seq r15 (.seq r16 (.seq r17 (.seq r18 r19)))))))))) c5))))) = Try.f48.body)
    (t0 t3 t4 t5 t6 t7 t8 t9 t10 t13 t14 t15 t16 t17 t18 t19 t20 t21 t22 t23 t24 t25 t26 t27 t28 t29 t30 t31 t32 t33 t34 t35 t36 t37 t38 t39 t40 t41 t42 t43 t44 t45 t46 t47 t48 t49 t50 t51 t52 t53 t54 t55 t56 t57 t58 t59 t60 t61 t62 t63 t64 t65 t66 t67 t68 t69 t70 t71 t72 t73 t74 t75 t76 t77 t78 t79 t80 t81 t82 t83 t84 t85 t86 t87 t88 t89 t90 t91 t92 t93 t94 t95 t96 : Value) (Bm Bp Bw D gs : Nat) (w W : World) (pm pm' pt : Option Addr) (M T Mc : BT Run) (pieces : List Run) (whole : Bool) (vp : Value)
    (hst : St48 w.heap.size w Bm Bp Bw pm' Mc pieces whole vp gs W) (hpl : PlSt T.list M.list T.list Mc.list pieces whole pm pm') (hT : RTreeN w.heap.size W pt T) (fT : Form T.list) (lM : M.list.length ≤ 32768) (lT : T.list.length ≤ 32768)
    (hD : w.heap.size ≤ D) (hK : W.heap[D]? = some (.deferred (some []))) :
    c5.wp Try.prog (bodyPostM Fence.wide 3 Try.prog Try.f48 (JoinRet w pm M.list T.list)) { tmps := #[t0, .pointer pt, .pointer (some ⟨Bm, 0, none⟩), t3, t4, t5, t6, t7, t8, t9, t10, .pointer (some ⟨Bp, 0, none⟩), .pointer (some ⟨Bw, 0, none⟩), t13, t14, t15, t16, t17, t18, t19, t20, t21, t22, t23, t24, t25, t26, t27, t28, t29, t30, t31, t32, t33, t34, t35, t36, t37, t38, t39, t40, t41, t42, t43, t44, t45, t46, t47, t48, t49, t50, t51, t52, t53, t54, t55, t56, t57, t58, t59, t60, t61, t62, t63, t64, t65, t66, t67, t68, t69, t70, t71, t72, t73, t74, t75, t76, t77, t78, t79, t80, t81, t82, t83, t84, t85, t86, t87, t88, t89, t90, t91, t92, t93, t94, t95, t96], defers := [{ target := .collected D, args := #[] }] } W := by
  delta Try.f48 at h
  simp only [Option.some.injEq, Code.seq.injEq] at h
  obtain ⟨-, -, -, -, -, rfl⟩ := h
  refine wp_mono ?_ onlyRet_mono
  obtain ⟨hws, hnil⟩ := hpl.ws (List.prefix_refl _)
  have hln : pieces.length + Mc.list.length ≤ 98304 := by have := hpl.len; omega
  have hm := hst.bm.cell
  have hw := hst.bw.cell
  have hp := hst.bp.cell
  have Hst := hidd hst
  have Hpl := hidd hpl
  have Hws := hidd hws
  have Hnil := hidd hnil
  have HT := hidd hT
  have HfT := hidd fT
  have HK := hidd hK
  have kD : ∀ V : World, Below W.heap.size W V → Below w.heap.size W (V.putObj D (.deferred none)) ∧ V.heap[D]? = some (.deferred (some [])) := fun V k => by
    have hV : V.heap[D]? = some (.deferred (some [])) := (k.block D (Array.getElem?_eq_some_iff.1 hK).1).trans hK
    exact ⟨(k.mono hst.be.size).trans (belowK_b (w := w) (Nat.le_refl _) V D _ _ hD hV rfl rfl), hV⟩
  have HkD := hidd kD
  clear hst hpl hws hnil hT fT hK kD
  cases whole with
  | true =>
    have Hfin : Hid (JoinRet w pm M.list T.list (.returned (.tuple #[.pointer pm', .pointer pt])) (W.putObj D (.deferred none))) := by
      obtain ⟨q1, q2⟩ := HkD.out W (Below.refl _ _)
      refine ⟨pm', pt, Mc, T, rfl, Hst.out.tr.tree.put _ HK.out rfl, (HT.out.below q1).tree, Hws.out.fm, HfT.out, way_whole Hws.out, fun e => ?_, by omega, by omega, Hst.out.be.trans q1⟩
      exact Hnil.out (pieces_nil Hws.out.fp fun x hx => by
        have := ((Hws.out.cp x).1 hx).1
        rw [e] at this
        exact cov_nil' x this)
    go_wp2
    refine ⟨by simp, .inl ⟨_, _, rfl, run_takeDeferred HK.out, ?_⟩⟩
    exact ⟨_, results_tmp2 (t := 4) (u := 5) rfl _ _ _, Hfin.out⟩
  | false =>
    obtain ⟨ap, cp, rfl, hap⟩ := own_shape Hst.out.row
    have Hap := hidd hap
    clear hap
    by_cases hz : pieces.length = 0
    · have hz' : ((pieces.length : Int) == 0) = true := by simp [hz]
      have Hfin : Hid (JoinRet w pm M.list T.list (.returned (.tuple #[.pointer pm', .pointer none])) (W.putObj D (.deferred none))) := by
        obtain ⟨q1, q2⟩ := HkD.out W (Below.refl _ _)
        have e := List.eq_nil_of_length_eq_zero hz
        refine ⟨pm', none, Mc, .nil, rfl, Hst.out.tr.tree.put _ HK.out rfl, rfl, Hws.out.fm, ⟨by simp [BT.list], by simp [BT.list]⟩, ?_, fun _ => Hnil.out e, by omega, by simp [BT.list], Hst.out.be.trans q1⟩
        have := way_agree Hws.out
        rw [e] at this
        exact this
      clear hz
      go_wp2
      refine ⟨by simp, .inl ⟨_, _, rfl, run_takeDeferred HK.out, ?_⟩⟩
      exact ⟨_, results_tmp2 (t := 4) (u := 5) rfl _ _ _, Hfin.out⟩
    · have hz' : ((pieces.length : Int) == 0) = false := by simpa using hz
      obtain ⟨g, rfl⟩ := Hap.out hz
      have C := hidd (treeOfR_any (some ⟨g, 0, none⟩) g 0 cp _ pieces W.drew rfl (by omega) (fun _ => ⟨rfl, own_cap Hst.out.row, (Hst.out.row.lt g rfl).2⟩) (runsAt_own rfl (own_to (below_drew W) Hst.out.row)))
      have Hfin : Hid (∀ pf F V, RTree V pf F → F.list = pieces → Below W.drew.heap.size W.drew V → JoinRet w pm M.list T.list (.returned (.tuple #[.pointer pm', .pointer pf])) (V.putObj D (.deferred none)) ∧ V.heap[D]? = some (.deferred (some []))) := hidd (fun pf F V hF hFl k => by
        have k0 : Below W.heap.size W V := (below_drew W).trans k
        obtain ⟨q1, q2⟩ := HkD.out V k0
        refine ⟨⟨pm', pf, Mc, F, rfl, (Hst.out.tr.tree.to k0).put _ q2 rfl, hF.put _ q2 rfl, Hws.out.fm, by rw [hFl]; exact Hws.out.fp, by rw [hFl]; exact way_agree Hws.out, fun e => ?_, by omega, by rw [hFl]; omega, Hst.out.be.trans q1⟩, q2⟩
        rw [hFl] at e
        exact Hnil.out e)
      clear hz
      go_wp2_with fail
      go_region_with (go_at_call 47; (with_reducible refine C.out.mono ?_); rintro e V ⟨pf, F, rfl, hF, hFl, hb⟩; have HF := hidd (Hfin.out pf F V hF hFl hb); have hm2 := cell_to ((below_drew W).trans hb) hm; clear hF hFl)
      all_goals
        go_wp2
        refine ⟨by simp, .inl ⟨_, _, rfl, run_takeDeferred HF.out.2, ?_⟩⟩
        exact ⟨_, results_tmp2 (t := 4) (u := 5) rfl _ _ _, HF.out.1⟩

end Go.Proofs.Qxb6608633a
