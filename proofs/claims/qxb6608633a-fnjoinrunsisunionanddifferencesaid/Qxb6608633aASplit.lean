/- split by partition$1, avoiding a block. -/
import Derived.Test.Qxb6608633aALink2
namespace Go.Proofs.Qxb6608633a
open Go.RowKit

/-- The tree parted at P, both parts avoiding block g. -/
def SplitRetA (g : Nat) (w : World) (xs : List Run) (P : Run → Bool) (e : Ending) (w' : World) : Prop :=
  ∃ pa pb A B, e = .returned (.tuple #[.pointer pa, .pointer pb]) ∧ RTreeA g w' pa A ∧ RTreeA g w' pb B ∧ A.list ++ B.list = xs ∧ (∀ x ∈ A.list, P x = true) ∧ (∀ x ∈ B.list, P x = false) ∧ Below w.heap.size w w'

set_option maxHeartbeats 4000000 in
set_option maxRecDepth 100000 in
theorem splitA96 (g : Nat) (r0 : Run) (Bc Br : Nat) (hr0 : InU r0) : ∀ (T : BT Run) (p : Option Addr) (w : World), g < w.heap.size → RTreeA g w p T → Clo w Bc Br r0 → (∀ x ∈ T.list, InU x) → T.list.length ≤ 900000000 → Mono (P96 r0) T.list →
    Calls Try.prog 95 #[.pointer p, .func (.func 96) #[] #[.pointer (some ⟨Bc, 0, none⟩)]] w (SplitRetA g w T.list (P96 r0)) := by
  intro T
  induction T with
  | nil =>
    intro p w _ hT _ _ _ _
    obtain rfl : p = none := hT
    go_enter Try.func95, Try.ntmps95
    go_wp2
    go_ret2
    exact ⟨none, none, .nil, .nil, rfl, rfl, rfl, rfl, by simp [BT.list], by simp [BT.list], Below.refl _ _⟩
  | node l x r ihl ihr =>
    intro p w hg hT hclo hin hlen hmono
    obtain ⟨hml, hmr, hmx, hmy⟩ := mono_parts hmono
    rw [len_node] at hlen
    have hx := hin x (by simp [BT.list])
    have hinl : ∀ y ∈ l.list, InU y := fun y hy => hin y (by simp [BT.list, hy])
    have hinr : ∀ y ∈ r.list, InU y := fun y hy => hin y (by simp [BT.list, hy])
    have HT := hidd hT
    obtain ⟨N, off, p1, p2, rfl, c0, c1, c2, c3, hl0, hr1⟩ := hT.open
    have CP := hidd (part96 x r0 Bc Br w hx hr0 hclo)
    have HL := hidd hl0
    have HR := hidd hr1
    have Hclo := hidd hclo
    have Hmx := hidd hmx
    have Hmy := hidd hmy
    have Hihl : Hid (∀ V, Below w.heap.size w V → Calls Try.prog 95 #[.pointer p1, .func (.func 96) #[] #[.pointer (some ⟨Bc, 0, none⟩)]] V (SplitRetA g V l.list (P96 r0))) := fun V hV => ihl p1 V (lt_to hg hV) (HL.out.to hV) (Hclo.out.to hV) hinl (by omega) hml
    have Hihr : Hid (∀ V, Below w.heap.size w V → Calls Try.prog 95 #[.pointer p2, .func (.func 96) #[] #[.pointer (some ⟨Bc, 0, none⟩)]] V (SplitRetA g V r.list (P96 r0))) := fun V hV => ihr p2 V (lt_to hg hV) (HR.out.to hV) (Hclo.out.to hV) hinr (by omega) hmr
    clear hT hclo hin hmono hml hmr hmx hmy hx hinl hinr ihl ihr hl0 hr1
    go_enter Try.func95, Try.ntmps95
    cases hP : P96 r0 x with
    | true =>
      rw [hP] at CP
      have HPx := hidd hP
      have Hleft := hidd (Hmx.out hP)
      clear hP
      go_wp2_with (go_at_call 96; refine CP.out.mono ?_; rintro e w1 ⟨rfl, hb1⟩; have c0a := cell_to hb1 c0; have c1a := cell_to hb1 c1; have c2a := cell_to hb1 c2; have c3a := cell_to hb1 c3; clear c0 c1 c2 c3 CP)
      refine (Hihr.out w1 hb1).mono ?_
      rintro e w2 ⟨pa, pb, A, B, rfl, hA, hB, hAB, hAt, hBf, hb2⟩
      have hb3 := below_to hb1 hb2 hb1.size
      have c0' := cell_to hb2 c0a
      have c1' := cell_to hb2 c1a
      have c2' := cell_to hb2 c2a
      have c3' := cell_to hb2 c3a
      have hlA : A.list.length + B.list.length = r.list.length := by rw [← hAB]; simp
      have HA := hidd hA
      have HAB := hidd hAB
      have HAt := hidd hAt
      have HBf := hidd hBf
      rcases hB.none_iff with ⟨rfl, rfl⟩ | ⟨ab, bl, bx, br, rfl, rfl⟩
      · have hfin : SplitRetA g w (BT.node l x r).list (P96 r0) (.returned (.tuple #[.pointer (some ⟨N, off, none⟩), .pointer none])) w2 := by
          refine ⟨some ⟨N, off, none⟩, none, .node l x r, .nil, rfl, HT.out.to hb3, rfl, by simp [BT.list], fun y hy => ?_, by simp [BT.list], hb3⟩
          simp only [BT.list] at hy
          rcases List.mem_append.1 hy with hy | hy
          · exact Hleft.out y hy
          · rcases List.mem_cons.1 hy with rfl | hy
            · exact HPx.out
            · exact HAt.out y (by have := HAB.out; simp [BT.list] at this; rw [this]; exact hy)
        have Hfin := hidd hfin
        clear hfin hA hB hAB hAt hBf c0a c1a c2a c3a
        go_wp2
        go_ret2
        exact Hfin.out
      · have HB := hidd hB
        have HL' := hidd (HL.out.to hb3)
        clear hA hB hAB hAt hBf c0a c1a c2a c3a
        go_wp2_with fail
        have kd := below_drew w2
        have CA := hidd (linkA_any g p1 pa l A x w2.drew (lt_to (lt_to hg hb3) kd) (HL'.out.to kd) (HA.out.to kd) (by omega))
        go_region_held3 (fun w' => w'.cell? ⟨N, off, none⟩ = some (.int .u64 x.1) ∧ w'.cell? ⟨N, off + 1, none⟩ = some (.int .u64 x.2) ∧ w'.cell? ⟨N, off + 2, none⟩ = some (.pointer p1) ∧ w'.cell? ⟨N, off + 3, none⟩ = some (.pointer p2)) (first | assumption | exact ⟨cell_to kd c0', cell_to kd c1', cell_to kd c2', cell_to kd c3'⟩ | go_keep) (first | (go_at_call 89; (with_reducible refine CA.out.mono ?_); rintro e w4 ⟨pC, TC, rfl, hC, hCl, hbC⟩; have qC : Below w2.heap.size w2 w4 := kd.trans hbC; have qh : w4.cell? ⟨N, off, none⟩ = some (.int .u64 x.1) ∧ w4.cell? ⟨N, off + 1, none⟩ = some (.int .u64 x.2) ∧ w4.cell? ⟨N, off + 2, none⟩ = some (.pointer p1) ∧ w4.cell? ⟨N, off + 3, none⟩ = some (.pointer p2) := ⟨cell_to qC c0', cell_to qC c1', cell_to qC c2', cell_to qC c3'⟩; have HC := hidd hC; have HCl := hidd hCl; clear hC hCl hbC))
        have hfin : SplitRetA g w (BT.node l x r).list (P96 r0) (.returned (.tuple #[.pointer pC, .pointer (some ab)])) w4 := by
          refine ⟨pC, some ab, TC, .node bl bx br, rfl, HC.out, HB.out.to qC, ?_, fun y hy => ?_, HBf.out, below_to hb3 qC hb3.size⟩
          · rw [HCl.out]
            have h := HAB.out
            show _ = l.list ++ x :: r.list
            rw [← h]; simp
          · rw [HCl.out] at hy
            rcases List.mem_append.1 hy with hy | hy
            · exact Hleft.out y hy
            · rcases List.mem_cons.1 hy with rfl | hy
              · exact HPx.out
              · exact HAt.out y hy
        have Hfin := hidd hfin
        clear hfin
        go_wp2
        go_ret2
        exact Hfin.out
    | false =>
      rw [hP] at CP
      have HPx := hidd hP
      have Hright := hidd (Hmy.out hP)
      clear hP
      go_wp2_with (go_at_call 96; refine CP.out.mono ?_; rintro e w1 ⟨rfl, hb1⟩; have c0a := cell_to hb1 c0; have c1a := cell_to hb1 c1; have c2a := cell_to hb1 c2; have c3a := cell_to hb1 c3; clear c0 c1 c2 c3 CP)
      refine (Hihl.out w1 hb1).mono ?_
      rintro e w2 ⟨pa, pb, A, B, rfl, hA, hB, hAB, hAt, hBf, hb2⟩
      have hb3 := below_to hb1 hb2 hb1.size
      have c0' := cell_to hb2 c0a
      have c1' := cell_to hb2 c1a
      have c2' := cell_to hb2 c2a
      have c3' := cell_to hb2 c3a
      have hlA : A.list.length + B.list.length = l.list.length := by rw [← hAB]; simp
      have HB := hidd hB
      have HAB := hidd hAB
      have HAt := hidd hAt
      have HBf := hidd hBf
      rcases hA.none_iff with ⟨rfl, rfl⟩ | ⟨ab, bl, bx, br, rfl, rfl⟩
      · have hfin : SplitRetA g w (BT.node l x r).list (P96 r0) (.returned (.tuple #[.pointer none, .pointer (some ⟨N, off, none⟩)])) w2 := by
          refine ⟨none, some ⟨N, off, none⟩, .nil, .node l x r, rfl, rfl, HT.out.to hb3, by simp [BT.list], by simp [BT.list], fun y hy => ?_, hb3⟩
          simp only [BT.list] at hy
          rcases List.mem_append.1 hy with hy | hy
          · exact HBf.out y (by have := HAB.out; simp [BT.list] at this; rw [this]; exact hy)
          · rcases List.mem_cons.1 hy with rfl | hy
            · exact HPx.out
            · exact Hright.out y hy
        have Hfin := hidd hfin
        clear hfin hA hB hAB hAt hBf c0a c1a c2a c3a
        go_wp2
        go_ret2
        exact Hfin.out
      · have HA := hidd hA
        have HR' := hidd (HR.out.to hb3)
        clear hA hB hAB hAt hBf c0a c1a c2a c3a
        go_wp2_with fail
        have kd := below_drew w2
        have CA := hidd (linkA_any g pb p2 B r x w2.drew (lt_to (lt_to hg hb3) kd) (HB.out.to kd) (HR'.out.to kd) (by omega))
        go_region_held3 (fun w' => w'.cell? ⟨N, off, none⟩ = some (.int .u64 x.1) ∧ w'.cell? ⟨N, off + 1, none⟩ = some (.int .u64 x.2) ∧ w'.cell? ⟨N, off + 2, none⟩ = some (.pointer p1) ∧ w'.cell? ⟨N, off + 3, none⟩ = some (.pointer p2)) (first | assumption | exact ⟨cell_to kd c0', cell_to kd c1', cell_to kd c2', cell_to kd c3'⟩ | go_keep) (first | (go_at_call 89; (with_reducible refine CA.out.mono ?_); rintro e w4 ⟨pC, TC, rfl, hC, hCl, hbC⟩; have qC : Below w2.heap.size w2 w4 := kd.trans hbC; have qh : w4.cell? ⟨N, off, none⟩ = some (.int .u64 x.1) ∧ w4.cell? ⟨N, off + 1, none⟩ = some (.int .u64 x.2) ∧ w4.cell? ⟨N, off + 2, none⟩ = some (.pointer p1) ∧ w4.cell? ⟨N, off + 3, none⟩ = some (.pointer p2) := ⟨cell_to qC c0', cell_to qC c1', cell_to qC c2', cell_to qC c3'⟩; have HC := hidd hC; have HCl := hidd hCl; clear hC hCl hbC))
        have hfin : SplitRetA g w (BT.node l x r).list (P96 r0) (.returned (.tuple #[.pointer (some ab), .pointer pC])) w4 := by
          refine ⟨some ab, pC, .node bl bx br, TC, rfl, HA.out.to qC, HC.out, ?_, HAt.out, fun y hy => ?_, below_to hb3 qC hb3.size⟩
          · rw [HCl.out]
            have h := HAB.out
            show _ = l.list ++ x :: r.list
            rw [← h]; simp
          · rw [HCl.out] at hy
            rcases List.mem_append.1 hy with hy | hy
            · exact HBf.out y hy
            · rcases List.mem_cons.1 hy with rfl | hy
              · exact HPx.out
              · exact Hright.out y hy
        have Hfin := hidd hfin
        clear hfin
        go_wp2
        go_ret2
        exact Hfin.out

end Go.Proofs.Qxb6608633a
