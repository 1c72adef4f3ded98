/- joinRuns, run by run: the last statement of a round. -/
import Derived.Test.Qxb6608633aJoinS
import Derived.Shelf.RegionOpen
namespace Go.Proofs.Qxb6608633a
open Go.RowKit
open Go.Shelf
attribute [local go_sem] Oper.semAt_some

theorem oneR : ∀ (rs : List Run), ∀ u ∈ rowR rs, u.oneCell' = true := fun rs u hu => by
  induction rs with
  | nil => cases hu
  | cons a l ih =>
    have hu' : u ∈ Value.int .u64 a.1 :: Value.int .u64 a.2 :: rowR l := hu
    rcases List.mem_cons.1 hu' with rfl | hu'
    · rfl
    · rcases List.mem_cons.1 hu' with rfl | hu'
      · rfl
      · exact ih hu'

set_option maxRecDepth 100000 in
set_option maxHeartbeats 4000000 in
theorem last48 (c0 c1 c2 c3 c4 ca c5 r12 c12 r14 r15 r16 r17 r18 r19 : Code) (ib jb : Nat) (og : Operand) (ps : Array Tmp) (h : some (Code.seq c0 (.seq c1 (.seq c2 (.seq c3 (.seq (.seq c4 (.block ib (.rangeFunc og ps ca (.block jb (.seq (.seq r12 c12) (.seq r14 (.seq r15 (.seq r16 (.seq r17 (.seq r18 r19)))))))))) c5))))) = Try.f48.body)
    (t0 t1 t2 t3 t4 t5 t6 t7 t8 t9 t10 t12 t13 t14 t15 t17 t18 t19 t20 t21 t22 t23 t24 t25 t26 t27 t28 t29 t30 t31 t32 t33 t34 t35 t36 t37 t38 t39 t40 t41 t42 t43 t44 t45 t46 t47 t48 t49 t50 t51 t52 t53 t54 t55 t56 t57 t58 t59 t60 t61 t62 t63 t64 t65 t66 t67 t68 t69 t70 t71 t72 t73 t74 t75 t76 t77 t78 t79 t80 t81 t82 t83 t84 t85 t86 t87 t88 t89 t90 t91 t92 t93 t94 t95 t96 : Value) (Bm Bp Bw n0 l m gs gr cr b1 : Nat) (w W : World) (pieces rest : List Run) (whole : Bool) (vp : Value) (pj : Option Addr) (J : BT Run) (Q : Exit → Act → World → Prop)
    (hB2 : n0 ≤ Bp) (hn : n0 ≤ w.heap.size) (hst : St48 n0 w Bm Bp Bw pj J pieces whole vp gs W) (hln : pieces.length ≤ 1000000) (hls : rest.length ≤ 1000000)
    (hown : W.ownsRow b1 94 2 (.slice (some ⟨gr, 0, none⟩) rest.length cr) rest.length (rowR rest))
    (hQ : ∀ a W' v' gs', KeepsFrom n0 W W' → Below n0 W W' → St48 n0 w Bm Bp Bw pj J (pieces ++ rest) whole v' gs' W' → Q .normal a W') :
    r19.wpIn (Fence.wide.inRound l) m Try.prog Q { tmps := #[t0, t1, t2, t3, t4, t5, t6, t7, t8, t9, t10, .pointer (some ⟨Bp, 0, none⟩), t12, t13, t14, t15, .slice (some ⟨gr, 0, none⟩) rest.length cr, t17, t18, t19, t20, t21, t22, t23, t24, t25, t26, t27, t28, t29, t30, t31, t32, t33, t34, t35, t36, t37, t38, t39, t40, t41, t42, t43, t44, t45, t46, t47, t48, t49, t50, t51, t52, t53, t54, t55, t56, t57, t58, t59, t60, t61, t62, t63, t64, t65, t66, t67, t68, t69, t70, t71, t72, t73, t74, t75, t76, t77, t78, t79, t80, t81, t82, t83, t84, t85, t86, t87, t88, t89, t90, t91, t92, t93, t94, t95, t96], defers := [] } W := by
  obtain ⟨i0, hi, hz0, hz1, hz2⟩ := info_parts Try.info94
  delta Try.f48 at h
  simp only [Option.some.injEq, Code.seq.injEq, Code.block.injEq, Code.rangeFunc.injEq] at h
  obtain ⟨-, -, -, -, ⟨-, -, -, -, -, -, ⟨-, -⟩, -, -, -, -, -, rfl⟩, -⟩ := h
  have hc := hst.bp.cell
  have Hst := hidd hst
  have Hown := hidd hown
  have hnews : ∀ j u, (rowR rest)[j]? = some u → W.cell? ((⟨gr, 0, none⟩ : Addr).add j) = some u := fun j u hu => by
    have hlt : j < rest.length * 2 := by rw [← hown.1]; exact (List.getElem?_eq_some_iff.1 hu).1
    have h2 := hown.cellAt j hlt
    rw [hu] at h2
    by_cases hj : j = 0
    · subst hj; exact h2
    · simpa [Addr.add, hj] using h2
  have hl1 := hown.1
  have hsz : n0 ≤ W.heap.size := Nat.le_trans hn hst.be.size
  have c1 : pieces.length + rest.length ≤ maxLen := by unfold maxLen; omega
  clear hst hown
  gi_wp2_with (gi_at_builtin; refine wpListIn_append_own_at _ rfl (.tmp 82) (.tmp 83) 105 rfl n0 94 i0 _ 2 16 Try.underlying105 hi hz0 hz1 hz2 rfl (by decide) _ pieces.length (rowR pieces) rfl Hst.out.row ⟨gr, 0, none⟩ rest.length cr (rowR rest) rfl hl1 hnews (oneR rest) c1 (by omega) hsz ?_; intro v' w1 hown' hgrow _ hat; obtain ⟨av, cv, rfl, _⟩ := own_shape hown'; have hbp1 := Hst.out.bp.kept hgrow (Hst.out.bp.not_row (by decide) Hst.out.row); have hc1 := hbp1.cell; have hf1 := hbp1.frozen)
  obtain ⟨k1, k2, gs', k3⟩ := Hst.out.app hB2 hn hown' hgrow hat
  exact hQ _ _ _ _ k1 k2 k3

end Go.Proofs.Qxb6608633a
