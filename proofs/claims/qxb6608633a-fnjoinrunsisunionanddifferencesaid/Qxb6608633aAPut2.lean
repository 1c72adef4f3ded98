/- putRun, avoiding a block. -/
import Derived.Test.Qxb6608633aAPart
namespace Go.Proofs.Qxb6608633a
open Go.RowKit

/-- putRun's two trees. -/
def PutRetA (g : Nat) (w : World) (xs : List Run) (r : Run) (e : Ending) (w' : World) : Prop :=
  ∃ pj pt J B A C, e = .returned (.tuple #[.pointer pj, .pointer pt]) ∧ RTreeA g w' pj J ∧ RTreeA g w' pt B ∧ A ++ (B.list ++ C) = xs ∧ J.list = A ++ joinR r B.list :: C ∧
    (∀ x ∈ A, P96 r x = true) ∧ (∀ x ∈ B.list, P96 r x = false ∧ P97 r x = true) ∧ (∀ x ∈ C, P96 r x = false ∧ P97 r x = false) ∧ Below w.heap.size w w'

theorem RTreeA.stored {g : Nat} {w W wx : World} {B : Nat} {a b : Value} (hs : Stored w W wx B a b) (hn : ∀ j, 4 ≤ j → W.cell? ⟨B, j, none⟩ = none) : ∀ {T : BT Run} {p : Option Addr}, RTreeA g W p T → RTreeA g wx p T
  | .nil, _, h => h
  | .node _ _ _, _, ⟨N, off, pl, pr, e, hNg, c1, c2, c3, c4, c5, hl, hr⟩ => by
    have hN : N ≠ B := by
      rintro rfl
      rw [hn (off + 4) (by omega)] at c5; cases c5
    have hlt : N < W.heap.size := World.block_lt_of_cell? W _ c1
    have k := fun j => hs.2.2.1 N j hN hlt
    exact ⟨N, off, pl, pr, e, hNg, (k _).trans c1, (k _).trans c2, (k _).trans c3, (k _).trans c4, (k _).trans c5, hl.stored hs hn, hr.stored hs hn⟩

set_option maxHeartbeats 0 in
set_option maxRecDepth 100000 in
theorem putRunA_any (g : Nat) (p : Option Addr) (T : BT Run) (r : Run) (w : World) (hg : g < w.heap.size) (hr : InU r) (hT : RTreeA g w p T) (hf : Form T.list) (hin : ∀ x ∈ T.list, InU x) (hlen : T.list.length ≤ 1000000) :
    Calls Try.prog 70 #[.pointer p, .agg #[.int .u64 r.1, .int .u64 r.2]] w (PutRetA g w T.list r) := by
  have kb := below_self w (.cells #[.int .u64 r.1, .int .u64 r.2] 94)
  have HX := hidd (World.alloc_heap_new w (.cells #[.int .u64 r.1, .int .u64 r.2] 94))
  have e0 : (w.alloc (.cells #[.int .u64 r.1, .int .u64 r.2] 94)).cell? ⟨w.heap.size, 0, none⟩ = some (.int .u64 r.1) := by simp
  have e1 : (w.alloc (.cells #[.int .u64 r.1, .int .u64 r.2] 94)).cell? ⟨w.heap.size, 1, none⟩ = some (.int .u64 r.2) := by simp
  have hlt : w.heap.size < (w.alloc (.cells #[.int .u64 r.1, .int .u64 r.2] 94)).heap.size := by simp
  have C1 := hidd (partA_any g p T r w.heap.size _ (lt_to hg kb) hr (hT.to kb) hf hin (by omega) e0 e1)
  have hg0 := lt_to hg kb
  clear hT hf hin
  go_enter Try.func70, Try.ntmps70
  go_wp2_with fail
  generalize w.alloc (.cells #[.int .u64 r.1, .int .u64 r.2] 94) = w0 at *
  refine C1.out.mono ?_
  rintro e W ⟨pa, pb, pc, A, B, C, rfl, hA, hB, hC, hABC, hAt, hBt, hCt, hb1⟩
  have g0 := cell_to hb1 e0
  have g1 := cell_to hb1 e1
  have hX1 : W.heap[w.heap.size]? = some (.cells #[.int .u64 r.1, .int .u64 r.2] 94) := (hb1.block _ hlt).trans HX.out
  have f0 : W.frozen? ⟨w.heap.size, 0, none⟩ = false := by simp [World.frozen?, hX1]
  have f1 : W.frozen? ⟨w.heap.size, 1, none⟩ = false := by simp [World.frozen?, hX1]
  have hl3 : A.list.length + (B.list.length + C.list.length) = T.list.length := by rw [← hABC]; simp
  have hbW := kb.trans (hb1.mono kb.size)
  have hgW := lt_to hg0 hb1
  have HX1 := hidd hX1
  have HA := hidd hA
  have HB := hidd hB
  have HC := hidd hC
  have Hf : Hid (A.list ++ (B.list ++ C.list) = T.list ∧ (∀ x ∈ A.list, P96 r x = true) ∧ (∀ x ∈ B.list, P96 r x = false ∧ P97 r x = true) ∧ (∀ x ∈ C.list, P96 r x = false ∧ P97 r x = false)) := ⟨hABC, hAt, hBt, hCt⟩
  clear hA hC hABC hAt hBt hCt C1 e0 e1 hX1 hb1 HX kb
  rcases hB.none_iff with ⟨rfl, rfl⟩ | ⟨ab, bl, bx, br, rfl, rfl⟩
  · have CL := hidd (linkA_any g pa pc A C r W hgW HA.out HC.out (by omega))
    clear hB
    go_wp2_with fail
    refine CL.out.mono ?_
    rintro e w3 ⟨pj, J, rfl, hJ, hJl, hb3⟩
    obtain ⟨x1, x2, x3, x4⟩ := Hf.out
    have hfin : PutRetA g w T.list r (.returned (.tuple #[.pointer pj, .pointer none])) w3 := ⟨pj, none, J, .nil, A.list, C.list, rfl, hJ, rfl, x1, by rw [hJl]; rfl, x2, x3, x4, hbW.trans (hb3.mono hbW.size)⟩
    have Hfin := hidd hfin
    clear hfin hJ hJl hb3 CL x1 x2 x3 x4
    go_wp2
    go_ret2
    exact Hfin.out
  · obtain ⟨b0, hb0⟩ : ∃ b, Hid ((BT.node bl bx br).list[0]? = some b) := ⟨_, hidd (List.getElem?_eq_getElem (by simp [BT.list]; omega))⟩
    obtain ⟨bz, hbz⟩ : ∃ b, Hid ((BT.node bl bx br).list.getLast? = some b) := by
      have hne : (BT.node bl bx br).list ≠ [] := by simp [BT.list]
      exact ⟨_, hidd (List.getLast?_eq_some_getLast hne)⟩
    have CAt : Hid (∀ V, Below W.heap.size W V → Calls Try.prog 50 #[.pointer (some ab), .int .i64 0] V (RetV V (.agg #[.int .u64 b0.1, .int .u64 b0.2]))) := fun V hV => atR_any (some ab) _ 0 b0 V (HB.out.to hV).tree hb0.out (by omega)
    have CLa : Hid (∀ V, Below W.heap.size W V → Calls Try.prog 88 #[.pointer (some ab)] V (RetV V (.agg #[.int .u64 bz.1, .int .u64 bz.2]))) := fun V hV => last_any (some ab) _ bz V (HB.out.to hV).tree hbz.out
    have kd := below_drew W
    have hBW : w.heap.size ≤ W.heap.size := hbW.size
    have hfd0 : ∀ V : World, (Instr.field 94 (.agg #[.int .u64 b0.1, .int .u64 b0.2]) 0).run Try.prog V = .ok (.int .u64 b0.1) V := fun _ => by kernel_rfl
    have hfd1 : ∀ V : World, (Instr.field 94 (.agg #[.int .u64 bz.1, .int .u64 bz.2]) 1).run Try.prog V = .ok (.int .u64 bz.2) V := fun _ => by kernel_rfl
    clear hB
    go_upto_region 3 with fail
    go_cut [5] from 17 to 30 (fun v wx => v = .pointer (some ab) ∧ Stored w W wx w.heap.size (.int .u64 (min r.1 b0.1)) (.int .u64 (max r.2 bz.2)))
    case first =>
      have Fz0 : Hid (∀ V, Below W.heap.size W V → V.frozen? ⟨w.heap.size, 0, none⟩ = false) := fun V hV => by
        have h := (hV.block _ (Array.getElem?_eq_some_iff.1 HX1.out).1).trans HX1.out
        simp [World.frozen?, h]
      have Fz1 : Hid (∀ V, Below W.heap.size W V → V.frozen? ⟨w.heap.size, 1, none⟩ = false) := fun V hV => by
        have h := (hV.block _ (Array.getElem?_eq_some_iff.1 HX1.out).1).trans HX1.out
        simp [World.frozen?, h]
      clear Hf HA HC HB hb0 hbz hl3 hlen HX1 hlt hr
      have G0 := hidd g0
      have G1 := hidd g1
      go_region_with (first
        | (go_at_call 50; (with_reducible refine (CAt.out W.drew kd).mono ?_); rintro e w4 ⟨rfl, hb4⟩; have q4 : Below W.heap.size W w4 := kd.trans hb4; clear hb4 g0 g1 f0 f1; have g04 := cell_to q4 G0.out; have g14 := cell_to q4 G1.out; have f04 := Fz0.out w4 q4; have f14 := Fz1.out w4 q4)
        | (go_at_call 88; (with_reducible refine (CLa.out W.drew kd).mono ?_); rintro e w5 ⟨rfl, hb5⟩; have q5 : Below W.heap.size W w5 := kd.trans hb5; clear hb5 g0 g1 f0 f1; have g05 := cell_to q5 G0.out; have g15 := cell_to q5 G1.out; have f05 := Fz0.out w5 q5; have f15 := Fz1.out w5 q5)
        | (go_at_call 50; (with_reducible refine (CAt.out w5 q5).mono ?_); rintro e w4 ⟨rfl, hb4⟩; have q4 : Below W.heap.size W w4 := q5.trans (hb4.mono q5.size); clear hb4 g05 g15 f05 f15; have g04 := cell_to q4 G0.out; have g14 := cell_to q4 G1.out; have f04 := Fz0.out w4 q4; have f14 := Fz1.out w4 q4)
        | (go_at_call 88; (with_reducible refine (CLa.out w4 q4).mono ?_); rintro e w5 ⟨rfl, hb5⟩; have q5 : Below W.heap.size W w5 := q4.trans (hb5.mono q4.size); clear hb5 g04 g14 f04 f14; have g05 := cell_to q5 G0.out; have g15 := cell_to q5 G1.out; have f05 := Fz0.out w5 q5; have f15 := Fz1.out w5 q5))
      all_goals (go_wp2_with fail; go_meet; first | exact ⟨rfl, stored01 hbW hBW q5 g05 g15⟩ | exact ⟨rfl, stored01 hbW hBW q4 g04 g14⟩)
    case rest =>
      obtain ⟨rfl, hst⟩ := hcut
      have hn : ∀ j, 4 ≤ j → W.cell? ⟨w.heap.size, j, none⟩ = none := fun j hj => by simp [World.cell?, HX1.out]; omega
      have hj : joinR r (BT.node bl bx br).list = (min r.1 b0.1, max r.2 bz.2) := by
        unfold joinR
        rw [List.head?_eq_getElem?, hb0.out, hbz.out]
      have CL := hidd (linkA_any g pa pc A C (joinR r (BT.node bl bx br).list) wc (Nat.lt_of_lt_of_le hg hst.2.2.2.size) (HA.out.stored hst hn) (HC.out.stored hst hn) (by omega))
      rw [hj] at CL
      have HBs := hidd (HB.out.stored hst hn)
      have c0 := hst.1
      have c1 := hst.2.1
      have hbx := hst.2.2.2
      have Hj := hidd hj
      clear hst hn hj CAt CLa hfd0 hfd1
      go_wp2_with fail
      refine CL.out.mono ?_
      rintro e w3 ⟨pj, J, rfl, hJ, hJl, hb3⟩
      obtain ⟨x1, x2, x3, x4⟩ := Hf.out
      have hfin : PutRetA g w T.list r (.returned (.tuple #[.pointer pj, .pointer (some ab)])) w3 := ⟨pj, some ab, J, .node bl bx br, A.list, C.list, rfl, hJ, HBs.out.to hb3, x1, by rw [hJl, Hj.out], x2, x3, x4, hbx.trans (hb3.mono hbx.size)⟩
      have Hfin := hidd hfin
      clear hfin hJ hJl hb3 CL x1 x2 x3 x4
      go_wp2
      go_ret2
      exact Hfin.out

end Go.Proofs.Qxb6608633a
