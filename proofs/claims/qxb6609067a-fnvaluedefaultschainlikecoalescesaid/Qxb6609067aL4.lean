/- The walk of the second law. -/
import Derived.Test.Qxb6609067aL
namespace Go.Proofs.Qxb6609067a
open Go.RowKit

set_option maxHeartbeats 4000000 in
set_option maxRecDepth 100000 in
theorem law4 (nm wd : ByteArray) (en : Int) (v x s : ByteArray) (w : World) (h1 : nm.size ≤ maxLen) (h2 : wd.size ≤ maxLen) (h3 : v.size ≤ maxLen) (h4 : x.size ≤ maxLen) (h5 : s.size ≤ maxLen) :
    Calls Try.prog 4 #[.string nm, .string wd, .int .i64 en, .string v, .string x, .string s] w (RetT w) := by
  have H := hidd (bytes9_any nm wd en v x s w h1 h2 h3 h4 h5)
  clear h1 h2 h3 h4 h5
  go_enter Try.func4, Try.ntmps4
  go_wp2_with fail
  refine H.out.mono ?_
  rintro e w0 ⟨r, rfl, hw', hr⟩
  rw [hw']
  clear hw' w0 H
  cases r with
  | false =>
    go_wp2
    go_ret
    exact ⟨rfl, Below.refl _ _⟩
  | true =>
    obtain ⟨h1, h2, h3, h4, h5⟩ := hr rfl
    clear hr
    go_wp2_with fail
    refine (fiveSize_any nm wd v x s w h1 h2 h3 h4 h5).mono ?_
    rintro e w0 ⟨z, rfl, hz1, hz2, hw'⟩
    rw [hw']
    clear hw' w0
    by_cases hz : z < 0
    · go_wp2
      go_ret
      exact ⟨rfl, Below.refl _ _⟩
    · cases hv : v.toList.isEmpty with
      | true =>
        cases hu : x.toList.isEmpty with
        | true =>
          have H1 : Hid (valS ⟨#[58, 45]⟩ v x = x) := by rw [valS_def, if_pos hv]; rfl
          have H2 : Hid (valS ⟨#[58, 45]⟩ x s = s) := by rw [valS_def, if_pos hu]; rfl
          have H3 : Hid (valS ⟨#[58, 45]⟩ x s = s) := by rw [valS_def, if_pos hu]; rfl
          have H4 : Hid (valS ⟨#[58, 45]⟩ v s = s) := by rw [valS_def, if_pos hv]; rfl
          have H5 : Hid (valS ⟨#[58, 43]⟩ x s = ⟨#[]⟩) := by rw [valS_alt, if_pos hu]; rfl
          have H6 : Hid (valS ⟨#[58, 43]⟩ v ⟨#[]⟩ = ⟨#[]⟩) := by rw [valS_alt, if_pos hv]; rfl
          have F1 : Hid (firstS x s = s) := by unfold firstS; rw [if_pos hu]; rfl
          have F2 : Hid (firstS v s = s) := by unfold firstS; rw [if_pos hv]; rfl
          have hbw0 : Below w.heap.size w w := Below.refl _ _
          go_wp2_with fail
          refine (zzvalue_any _ _ _ _ _ _ w).mono ?_
          rintro e w1 ⟨he, hb1⟩
          rw [H1.out] at he
          subst he
          have hbw1 : Below w.heap.size w w1 := hbw0.trans (hb1.mono hbw0.size)
          clear hb1 hbw0 H1
          go_wp2_with fail
          refine (zzvalue_any _ _ _ _ _ _ w1).mono ?_
          rintro e w2 ⟨he, hb2⟩
          rw [H2.out] at he
          subst he
          have hbw2 : Below w.heap.size w w2 := hbw1.trans (hb2.mono hbw1.size)
          clear hb2 hbw1 H2
          go_wp2_with fail
          refine (zzvalue_any _ _ _ _ _ _ w2).mono ?_
          rintro e w3 ⟨he, hb3⟩
          rw [H3.out] at he
          subst he
          have hbw3 : Below w.heap.size w w3 := hbw2.trans (hb3.mono hbw2.size)
          clear hb3 hbw2 H3
          go_wp2_with fail
          refine (zzvalue_any _ _ _ _ _ _ w3).mono ?_
          rintro e w4 ⟨he, hb4⟩
          rw [H4.out] at he
          subst he
          have hbw4 : Below w.heap.size w w4 := hbw3.trans (hb4.mono hbw3.size)
          clear hb4 hbw3 H4
          go_wp2_with fail
          refine (zzvalue_any _ _ _ _ _ _ w4).mono ?_
          rintro e w5 ⟨he, hb5⟩
          rw [H5.out] at he
          subst he
          have hbw5 : Below w.heap.size w w5 := hbw4.trans (hb5.mono hbw4.size)
          clear hb5 hbw4 H5
          go_wp2_with fail
          refine (zzvalue_any _ _ _ _ _ _ w5).mono ?_
          rintro e w6 ⟨he, hb6⟩
          rw [H6.out] at he
          subst he
          have hbw6 : Below w.heap.size w w6 := hbw5.trans (hb6.mono hbw5.size)
          clear hb6 hbw5 H6
          go_wp2_with fail
          refine (firstSet_any _ _ _).mono ?_
          rintro e w0 ⟨he, hw'⟩
          rw [hw']
          clear hw' w0
          rw [F1.out] at he
          subst he
          go_wp2_with fail
          refine (firstSet_any _ _ _).mono ?_
          rintro e w0 ⟨he, hw'⟩
          rw [hw']
          clear hw' w0
          rw [F2.out] at he
          subst he
          go_wp2_with fail
          go_ret
          exact ⟨rfl, hbw6⟩
        | false =>
          have H1 : Hid (valS ⟨#[58, 45]⟩ v x = x) := by rw [valS_def, if_pos hv]; rfl
          have H2 : Hid (valS ⟨#[58, 45]⟩ x s = x) := by rw [valS_def, if_neg (by simp [hu])]; rfl
          have H3 : Hid (valS ⟨#[58, 45]⟩ x s = x) := by rw [valS_def, if_neg (by simp [hu])]; rfl
          have H4 : Hid (valS ⟨#[58, 45]⟩ v x = x) := by rw [valS_def, if_pos hv]; rfl
          have H5 : Hid (valS ⟨#[58, 43]⟩ x s = s) := by rw [valS_alt, if_neg (by simp [hu])]; rfl
          have H6 : Hid (valS ⟨#[58, 43]⟩ v s = ⟨#[]⟩) := by rw [valS_alt, if_pos hv]; rfl
          have F1 : Hid (firstS x s = x) := by unfold firstS; rw [if_neg (by simp [hu])]; rfl
          have F2 : Hid (firstS v x = x) := by unfold firstS; rw [if_pos hv]; rfl
          have hbw0 : Below w.heap.size w w := Below.refl _ _
          go_wp2_with fail
          refine (zzvalue_any _ _ _ _ _ _ w).mono ?_
          rintro e w1 ⟨he, hb1⟩
          rw [H1.out] at he
          subst he
          have hbw1 : Below w.heap.size w w1 := hbw0.trans (hb1.mono hbw0.size)
          clear hb1 hbw0 H1
          go_wp2_with fail
          refine (zzvalue_any _ _ _ _ _ _ w1).mono ?_
          rintro e w2 ⟨he, hb2⟩
          rw [H2.out] at he
          subst he
          have hbw2 : Below w.heap.size w w2 := hbw1.trans (hb2.mono hbw1.size)
          clear hb2 hbw1 H2
          go_wp2_with fail
          refine (zzvalue_any _ _ _ _ _ _ w2).mono ?_
          rintro e w3 ⟨he, hb3⟩
          rw [H3.out] at he
          subst he
          have hbw3 : Below w.heap.size w w3 := hbw2.trans (hb3.mono hbw2.size)
          clear hb3 hbw2 H3
          go_wp2_with fail
          refine (zzvalue_any _ _ _ _ _ _ w3).mono ?_
          rintro e w4 ⟨he, hb4⟩
          rw [H4.out] at he
          subst he
          have hbw4 : Below w.heap.size w w4 := hbw3.trans (hb4.mono hbw3.size)
          clear hb4 hbw3 H4
          go_wp2_with fail
          refine (zzvalue_any _ _ _ _ _ _ w4).mono ?_
          rintro e w5 ⟨he, hb5⟩
          rw [H5.out] at he
          subst he
          have hbw5 : Below w.heap.size w w5 := hbw4.trans (hb5.mono hbw4.size)
          clear hb5 hbw4 H5
          go_wp2_with fail
          refine (zzvalue_any _ _ _ _ _ _ w5).mono ?_
          rintro e w6 ⟨he, hb6⟩
          rw [H6.out] at he
          subst he
          have hbw6 : Below w.heap.size w w6 := hbw5.trans (hb6.mono hbw5.size)
          clear hb6 hbw5 H6
          go_wp2_with fail
          refine (firstSet_any _ _ _).mono ?_
          rintro e w0 ⟨he, hw'⟩
          rw [hw']
          clear hw' w0
          rw [F1.out] at he
          subst he
          go_wp2_with fail
          refine (firstSet_any _ _ _).mono ?_
          rintro e w0 ⟨he, hw'⟩
          rw [hw']
          clear hw' w0
          rw [F2.out] at he
          subst he
          go_wp2_with fail
          go_ret
          exact ⟨rfl, hbw6⟩
      | false =>
        cases hu : x.toList.isEmpty with
        | true =>
          have H1 : Hid (valS ⟨#[58, 45]⟩ v x = v) := by rw [valS_def, if_neg (by simp [hv])]; rfl
          have H2 : Hid (valS ⟨#[58, 45]⟩ v s = v) := by rw [valS_def, if_neg (by simp [hv])]; rfl
          have H3 : Hid (valS ⟨#[58, 45]⟩ x s = s) := by rw [valS_def, if_pos hu]; rfl
          have H4 : Hid (valS ⟨#[58, 45]⟩ v s = v) := by rw [valS_def, if_neg (by simp [hv])]; rfl
          have H5 : Hid (valS ⟨#[58, 43]⟩ x s = ⟨#[]⟩) := by rw [valS_alt, if_pos hu]; rfl
          have H6 : Hid (valS ⟨#[58, 43]⟩ v ⟨#[]⟩ = ⟨#[]⟩) := by rw [valS_alt, if_neg (by simp [hv])]; rfl
          have F1 : Hid (firstS x s = s) := by unfold firstS; rw [if_pos hu]; rfl
          have F2 : Hid (firstS v s = v) := by unfold firstS; rw [if_neg (by simp [hv])]; rfl
          have hbw0 : Below w.heap.size w w := Below.refl _ _
          go_wp2_with fail
          refine (zzvalue_any _ _ _ _ _ _ w).mono ?_
          rintro e w1 ⟨he, hb1⟩
          rw [H1.out] at he
          subst he
          have hbw1 : Below w.heap.size w w1 := hbw0.trans (hb1.mono hbw0.size)
          clear hb1 hbw0 H1
          go_wp2_with fail
          refine (zzvalue_any _ _ _ _ _ _ w1).mono ?_
          rintro e w2 ⟨he, hb2⟩
          rw [H2.out] at he
          subst he
          have hbw2 : Below w.heap.size w w2 := hbw1.trans (hb2.mono hbw1.size)
          clear hb2 hbw1 H2
          go_wp2_with fail
          refine (zzvalue_any _ _ _ _ _ _ w2).mono ?_
          rintro e w3 ⟨he, hb3⟩
          rw [H3.out] at he
          subst he
          have hbw3 : Below w.heap.size w w3 := hbw2.trans (hb3.mono hbw2.size)
          clear hb3 hbw2 H3
          go_wp2_with fail
          refine (zzvalue_any _ _ _ _ _ _ w3).mono ?_
          rintro e w4 ⟨he, hb4⟩
          rw [H4.out] at he
          subst he
          have hbw4 : Below w.heap.size w w4 := hbw3.trans (hb4.mono hbw3.size)
          clear hb4 hbw3 H4
          go_wp2_with fail
          refine (zzvalue_any _ _ _ _ _ _ w4).mono ?_
          rintro e w5 ⟨he, hb5⟩
          rw [H5.out] at he
          subst he
          have hbw5 : Below w.heap.size w w5 := hbw4.trans (hb5.mono hbw4.size)
          clear hb5 hbw4 H5
          go_wp2_with fail
          refine (zzvalue_any _ _ _ _ _ _ w5).mono ?_
          rintro e w6 ⟨he, hb6⟩
          rw [H6.out] at he
          subst he
          have hbw6 : Below w.heap.size w w6 := hbw5.trans (hb6.mono hbw5.size)
          clear hb6 hbw5 H6
          go_wp2_with fail
          refine (firstSet_any _ _ _).mono ?_
          rintro e w0 ⟨he, hw'⟩
          rw [hw']
          clear hw' w0
          rw [F1.out] at he
          subst he
          go_wp2_with fail
          refine (firstSet_any _ _ _).mono ?_
          rintro e w0 ⟨he, hw'⟩
          rw [hw']
          clear hw' w0
          rw [F2.out] at he
          subst he
          go_wp2_with fail
          go_ret
          exact ⟨rfl, hbw6⟩
        | false =>
          have H1 : Hid (valS ⟨#[58, 45]⟩ v x = v) := by rw [valS_def, if_neg (by simp [hv])]; rfl
          have H2 : Hid (valS ⟨#[58, 45]⟩ v s = v) := by rw [valS_def, if_neg (by simp [hv])]; rfl
          have H3 : Hid (valS ⟨#[58, 45]⟩ x s = x) := by rw [valS_def, if_neg (by simp [hu])]; rfl
          have H4 : Hid (valS ⟨#[58, 45]⟩ v x = v) := by rw [valS_def, if_neg (by simp [hv])]; rfl
          have H5 : Hid (valS ⟨#[58, 43]⟩ x s = s) := by rw [valS_alt, if_neg (by simp [hu])]; rfl
          have H6 : Hid (valS ⟨#[58, 43]⟩ v s = s) := by rw [valS_alt, if_neg (by simp [hv])]; rfl
          have F1 : Hid (firstS x s = x) := by unfold firstS; rw [if_neg (by simp [hu])]; rfl
          have F2 : Hid (firstS v x = v) := by unfold firstS; rw [if_neg (by simp [hv])]; rfl
          have hbw0 : Below w.heap.size w w := Below.refl _ _
          go_wp2_with fail
          refine (zzvalue_any _ _ _ _ _ _ w).mono ?_
          rintro e w1 ⟨he, hb1⟩
          rw [H1.out] at he
          subst he
          have hbw1 : Below w.heap.size w w1 := hbw0.trans (hb1.mono hbw0.size)
          clear hb1 hbw0 H1
          go_wp2_with fail
          refine (zzvalue_any _ _ _ _ _ _ w1).mono ?_
          rintro e w2 ⟨he, hb2⟩
          rw [H2.out] at he
          subst he
          have hbw2 : Below w.heap.size w w2 := hbw1.trans (hb2.mono hbw1.size)
          clear hb2 hbw1 H2
          go_wp2_with fail
          refine (zzvalue_any _ _ _ _ _ _ w2).mono ?_
          rintro e w3 ⟨he, hb3⟩
          rw [H3.out] at he
          subst he
          have hbw3 : Below w.heap.size w w3 := hbw2.trans (hb3.mono hbw2.size)
          clear hb3 hbw2 H3
          go_wp2_with fail
          refine (zzvalue_any _ _ _ _ _ _ w3).mono ?_
          rintro e w4 ⟨he, hb4⟩
          rw [H4.out] at he
          subst he
          have hbw4 : Below w.heap.size w w4 := hbw3.trans (hb4.mono hbw3.size)
          clear hb4 hbw3 H4
          go_wp2_with fail
          refine (zzvalue_any _ _ _ _ _ _ w4).mono ?_
          rintro e w5 ⟨he, hb5⟩
          rw [H5.out] at he
          subst he
          have hbw5 : Below w.heap.size w w5 := hbw4.trans (hb5.mono hbw4.size)
          clear hb5 hbw4 H5
          go_wp2_with fail
          refine (zzvalue_any _ _ _ _ _ _ w5).mono ?_
          rintro e w6 ⟨he, hb6⟩
          rw [H6.out] at he
          subst he
          have hbw6 : Below w.heap.size w w6 := hbw5.trans (hb6.mono hbw5.size)
          clear hb6 hbw5 H6
          go_wp2_with fail
          refine (firstSet_any _ _ _).mono ?_
          rintro e w0 ⟨he, hw'⟩
          rw [hw']
          clear hw' w0
          rw [F1.out] at he
          subst he
          go_wp2_with fail
          refine (firstSet_any _ _ _).mono ?_
          rintro e w0 ⟨he, hw'⟩
          rw [hw']
          clear hw' w0
          rw [F2.out] at he
          subst he
          go_wp2_with fail
          go_ret
          exact ⟨rfl, hbw6⟩

end Go.Proofs.Qxb6609067a
