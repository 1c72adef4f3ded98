/- joinRuns, the way by lists. -/
import Derived.Test.Qxb6608633aJoinP
import Derived.Test.Qxb6608633aBits
namespace Go.Proofs.Qxb6608633a
open Go.RowKit

set_option maxHeartbeats 4000000 in
set_option maxRecDepth 100000 in
theorem join1 (pm pt : Option Addr) (M T : BT Run) (w : World) (hM : RTree w pm M) (hT : RTree w pt T) (fM : Form M.list) (fT : Form T.list) (uM : ∀ x ∈ M.list, InU x) (uT : ∀ x ∈ T.list, InU x) (lM : M.list.length ≤ 32768) (lT : T.list.length ≤ 32768)
    (hc : T.list.length + M.list.length < T.list.length * Lib.bitLen M.list.length) :
    Calls Try.prog 48 #[.pointer pm, .pointer pt] w (JoinRet w pm M.list T.list) := by
  have kb := below_self w (.cells #[.pointer pm] 65)
  have e0 : (w.alloc (.cells #[.pointer pm] 65)).cell? ⟨w.heap.size, 0, none⟩ = some (.pointer pm) := by simp
  have HM := hidd (hM.to kb)
  have HT := hidd (hT.to kb)
  have HfM := hidd fM
  have HfT := hidd fT
  have HuM := hidd uM
  have HuT := hidd uT
  have hbl : Lib.bitLen M.list.length ≤ 64 := Lib.bitLen_le _ 64 (Nat.le_refl _) (by omega)
  have Hc := hidd hc
  clear hM hT fM fT uM uT hc
  go_enter Try.func48, Try.ntmps48
  go_wp2_with fail
  generalize w.alloc (.cells #[.pointer pm] 65) = w0 at *
  have hfin : ∀ wr, Below w0.heap.size w0 wr → Below w.heap.size w wr := fun wr h => kb.trans (h.mono kb.size)
  go_quiet (first | (go_at_call 49; with_reducible exact Calls.quiet_of_same (lenR_any pt T _ (HT.out.to (below_drewN _ _)))) | (go_at_call 49; with_reducible exact Calls.quiet_of_same (lenR_any pm M _ (HM.out.to (below_drewN _ _)))))
  have kq := below_drewN w0 nq
  have hfin2 : ∀ wr, Below (w0.drewN nq).heap.size (w0.drewN nq) wr → Below w.heap.size w wr := fun wr h => hfin wr (kq.trans h)
  have e1 := cell_to kq e0
  have HM1 := hidd (HM.out.to kq)
  have HT1 := hidd (HT.out.to kq)
  clear HM HT e0 kb hfin kq
  generalize w0.drewN nq = W at *
  have CB := hidd (Try.bits_Len (M.list.length : Int) W (by omega) (by omega))
  rw [Int.toNat_natCast] at CB
  obtain ⟨L, hL⟩ : ∃ L, Lib.bitLen M.list.length = L := ⟨_, rfl⟩
  rw [hL] at CB Hc hbl
  clear hL
  obtain ⟨pr, hpr⟩ : ∃ pr, T.list.length * L = pr := ⟨_, rfl⟩
  have hpl : pr ≤ 2097152 := by rw [← hpr]; exact Nat.mul_le_mul lT hbl
  have kmul : (T.list.length : Int) * (L : Int) = (pr : Int) := by rw [← hpr]; simp
  have hlt : T.list.length + M.list.length < pr := by rw [← hpr]; exact Hc.out
  clear hpr Hc
  go_wp2_with (first | (go_at_call 64; (with_reducible refine CB.out.mono ?_); rintro e wq ⟨rfl, hwq⟩; rw [hwq]; clear hwq wq CB) | (go_at_call 66; refine (all_any _ _).mono ?_; rintro e w' ⟨rfl, rfl⟩))
  have ka := below_self W (.cells #[.pointer pm] 65)
  have b0 : (W.alloc (.cells #[.pointer pm] 65)).cell? ⟨W.heap.size, 0, none⟩ = some (.pointer pm) := by simp
  have e2 := cell_to ka e1
  have HM2 := hidd (HM1.out.to ka)
  have HT2 := hidd (HT1.out.to ka)
  have C1 := hidd (collectR_any W.heap.size pm M (by omega) _ b0 HM2.out)
  have hfin3 : ∀ wr, Below (W.alloc (.cells #[.pointer pm] 65)).heap.size (W.alloc (.cells #[.pointer pm] 65)) wr → Below w.heap.size w wr := fun wr h => hfin2 wr (ka.trans (h.mono ka.size))
  clear HM1 HT1 e1 hfin2
  generalize W.alloc (.cells #[.pointer pm] 65) = W2 at *
  refine C1.out.mono ?_
  rintro e w3 ⟨va, rfl, howna, hb3⟩
  have Ha := hidd (slR_own rfl howna)
  have e3 := cell_to hb3 e2
  have HM3 := hidd (HM2.out.to hb3)
  have HT3 := hidd (HT2.out.to hb3)
  clear howna C1 e2 HM2 HT2 ka b0
  go_wp2_with (go_at_call 66; refine (all_any _ _).mono ?_; rintro e w' ⟨rfl, rfl⟩)
  have kc := below_self w3 (.cells #[.pointer pt] 65)
  have b1 : (w3.alloc (.cells #[.pointer pt] 65)).cell? ⟨w3.heap.size, 0, none⟩ = some (.pointer pt) := by simp
  have e4 := cell_to kc e3
  have hb4 := below_to hb3 kc hb3.size
  have Ha4 := hidd (Ha.out.to kc)
  have HM4 := hidd (HM3.out.to kc)
  have HT4 := hidd (HT3.out.to kc)
  have C2 := hidd (collectR_any w3.heap.size pt T (by omega) _ b1 HT4.out)
  clear Ha e3 HM3 HT3 hb3
  generalize w3.alloc (.cells #[.pointer pt] 65) = w4 at *
  refine C2.out.mono ?_
  rintro e w5 ⟨vb, rfl, hownb, hb5⟩
  have Hb := hidd (slR_own rfl hownb)
  have e5 := cell_to hb5 e4
  have Ha5 := hidd (Ha4.out.to hb5)
  have HM5 := hidd (HM4.out.to hb5)
  have hb6 := below_to hb4 hb5 hb4.size
  have hsl := sub_len T.list M.list
  have C3 := hidd (subtract_any vb va T.list M.list w5 Hb.out Ha5.out (by omega) HuT.out HuM.out (by omega))
  clear hownb C2 e4 Ha4 HM4 HT4 hb4 hb5 kc b1
  go_wp2_with fail
  refine C3.out.mono ?_
  rintro e w6 ⟨vr, rfl, hownr, hb7⟩
  obtain ⟨ar, cr, rfl, har⟩ := own_shape hownr
  have Hr := hidd (slR_own rfl hownr)
  have Hown := hidd hownr
  have Har := hidd har
  have e6 := cell_to hb7 e5
  have Ha6 := hidd (Ha5.out.to hb7)
  have HM6 := hidd (HM5.out.to hb7)
  have hb8 := below_to hb6 hb7 hb6.size
  have hspec := sub_spec T.list M.list HfT.out HfM.out
  have Hspec := hidd hspec
  clear hownr har C3 e5 Ha5 HM5 hb6 hb7 hspec
  by_cases hz : (sub T.list M.list).length = 0
  · have hz' : (((sub T.list M.list).length : Int) == 0) = true := by simp [hz]
    have hnil : sub T.list M.list = [] := List.eq_nil_of_length_eq_zero hz
    have Hfin : Hid (JoinRet w pm M.list T.list (.returned (.tuple #[.pointer pm, .pointer none])) w6) := ⟨pm, none, M, .nil, rfl, HM6.out, rfl, HfM.out, ⟨by simp [BT.list], by simp [BT.list]⟩, agree_nil HfM.out HfT.out hnil, fun _ => rfl, by omega, by simp [BT.list], hfin3 _ hb8⟩
    clear hz hnil
    go_wp2
    go_ret2
    exact Hfin.out
  · have hz' : (((sub T.list M.list).length : Int) == 0) = false := by simpa using hz
    obtain ⟨g, rfl⟩ := Har.out hz
    have hlu := uni_len M.list (sub T.list M.list)
    have huni := uni_spec M.list (sub T.list M.list) HfM.out Hspec.out.1
    have Huni := hidd huni
    have hus : ∀ x ∈ sub T.list M.list, InU x := inU_of Hspec.out.1 (fun x hx => small_of HuT.out x ((Hspec.out.2.1 x).1 hx).1)
    have C4 := hidd (union_any va (.slice (some ⟨g, 0, none⟩) (sub T.list M.list).length cr) M.list (sub T.list M.list) w6 Ha6.out Hr.out (by omega) (by omega) HuM.out hus)
    clear huni hus hz
    go_wp2_with fail
    refine C4.out.mono ?_
    rintro e w7 ⟨vu, rfl, hownu, hb9⟩
    obtain ⟨au, cu, rfl, hau⟩ := own_shape hownu
    have hEX : ∃ E, ((uni M.list (sub T.list M.list)).length ≠ 0 → au = some ⟨E, 0, none⟩ ∧ (uni M.list (sub T.list M.list)).length ≤ cu ∧ E < w7.heap.size) ∧ RunsAt w7 E 0 (uni M.list (sub T.list M.list)) := by
      by_cases h0 : (uni M.list (sub T.list M.list)).length = 0
      · rw [List.eq_nil_of_length_eq_zero h0]
        exact ⟨0, fun h => absurd rfl h, fun i x h => by simp at h⟩
      · obtain ⟨g', rfl⟩ := hau h0
        exact ⟨g', fun _ => ⟨rfl, own_cap hownu, (hownu.lt g' rfl).2⟩, runsAt_own rfl hownu⟩
    obtain ⟨E, hE1, hE2⟩ := hEX
    have C5 := hidd (treeOfR_any au E 0 cu _ (uni M.list (sub T.list M.list)) w7 rfl (by omega) hE1 hE2)
    have Hown7 := hidd (own_to hb9 Hown.out)
    have hb10 := below_to hb8 hb9 hb8.size
    clear hownu hau hE1 hE2 C4 hb9 hb8
    go_wp2_with fail
    refine C5.out.mono ?_
    rintro e w8 ⟨pj, J, rfl, hJ, hJl, hb11⟩
    have Hown8 := hidd (own_to hb11 Hown7.out)
    have C6 := hidd (treeOfR_any (some ⟨g, 0, none⟩) g 0 cr _ (sub T.list M.list) w8 rfl (by omega) (fun _ => ⟨rfl, own_cap Hown8.out, (Hown8.out.lt g rfl).2⟩) (runsAt_own rfl Hown8.out))
    have HJ := hidd hJ
    have HJl := hidd hJl
    have hb12 := below_to hb10 hb11 hb10.size
    clear hJ hJl C5 hb10 hb11 Hown7
    go_wp2_with fail
    refine C6.out.mono ?_
    rintro e w9 ⟨pf, F, rfl, hF, hFl, hb13⟩
    have Hfin : Hid (JoinRet w pm M.list T.list (.returned (.tuple #[.pointer pj, .pointer pf])) w9) := by
      refine ⟨pj, pf, J, F, rfl, HJ.out.to hb13, hF, by rw [HJl.out]; exact Huni.out.1, by rw [hFl]; exact Hspec.out.1, by rw [HJl.out, hFl]; exact agree_uni HfM.out HfT.out, fun h => ?_, by rw [HJl.out]; omega, by rw [hFl]; omega, hfin3 _ (below_to hb12 hb13 hb12.size)⟩
      rw [hFl] at h
      rw [h] at hz'
      simp at hz'
    clear hF hFl hb13 C6
    go_wp2
    go_ret2
    exact Hfin.out

end Go.Proofs.Qxb6608633a
