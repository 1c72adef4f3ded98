/- The walks of the two laws. -/
import Derived.Test.Qxb6609067aB
import Derived.Lib.SmallJoins
namespace Go.Proofs.Qxb6609067a
open Go.RowKit

/-- It returns true; nothing that was there has turned. -/
def RetT (w : World) (e : Ending) (w' : World) : Prop := e = .returned (.bool true) ∧ Below w.heap.size w w'

theorem valS_def (v s : ByteArray) : valS ⟨#[58, 45]⟩ v s = if v.toList.isEmpty = true then s else v := by
  unfold valS; rw [if_pos (by rw [ByteArray.toList_eq]; decide)]
theorem valS_alt (v s : ByteArray) : valS ⟨#[58, 43]⟩ v s = if v.toList.isEmpty = true then ⟨#[]⟩ else s := by
  unfold valS; rw [if_neg (by rw [ByteArray.toList_eq]; decide), if_pos (by rw [ByteArray.toList_eq]; decide)]

theorem cat_empty (v s : ByteArray) (hv : v.toList.isEmpty = true) : (s ++ (⟨#[]⟩ : ByteArray)).toList = (v ++ s).toList := by
  have hd : v.data.toList = [] := by
    rw [ByteArray.toList_eq] at hv
    exact List.isEmpty_iff.mp hv
  rw [ByteArray.toList_eq, ByteArray.toList_eq, Joins.data_append, Joins.data_append]
  simp [hd]

set_option maxHeartbeats 4000000 in
set_option maxRecDepth 100000 in
theorem law3 (nm op wd : ByteArray) (en : Int) (v s : ByteArray) (w : World) (h1 : nm.size ≤ maxLen) (h2 : op.size ≤ maxLen) (h3 : wd.size ≤ maxLen) (h4 : v.size ≤ maxLen) (h5 : s.size ≤ maxLen) :
    Calls Try.prog 3 #[.string nm, .string op, .string wd, .int .i64 en, .string v, .string s] w (RetT w) := by
  have H := hidd (bytes5_any nm op wd en v s w h1 h2 h3 h4 h5)
  clear h1 h2 h3 h4 h5
  go_enter Try.func3, Try.ntmps3
  go_wp2_with fail
  refine H.out.mono ?_
  rintro e w0 ⟨r, rfl, hw', hr⟩
  rw [hw']
  clear hw' w0 H
  cases r with
  | false =>
    go_wp2
    go_ret
    exact ⟨rfl, Below.refl _ _⟩
  | true =>
    obtain ⟨h1, h2, h3, h4, h5⟩ := hr rfl
    clear hr
    go_wp2_with fail
    refine (fiveSize_any nm op wd v s w h1 h2 h3 h4 h5).mono ?_
    rintro e w0 ⟨z, rfl, hz1, hz2, hw'⟩
    rw [hw']
    clear hw' w0
    by_cases hz : z < 0
    · go_wp2
      go_ret
      exact ⟨rfl, Below.refl _ _⟩
    · cases hv : v.toList.isEmpty with
      | true =>
        have hcat := cat_empty v s hv
        have hcatb : ((s ++ (⟨#[]⟩ : ByteArray)).toList == (v ++ s).toList) = true := by rw [hcat]; exact beq_self_eq_true _
        have Hd : Hid (valS ⟨#[58, 45]⟩ v s = s) := by rw [valS_def, if_pos hv]; rfl
        have Ha : Hid (valS ⟨#[58, 43]⟩ v s = ⟨#[]⟩) := by rw [valS_alt, if_pos hv]; rfl
        have Hf : Hid (firstS v s = s) := by unfold firstS; rw [if_pos hv]; rfl
        go_wp2_with fail
        refine (zzvalue_any _ _ _ _ _ _ w).mono ?_
        rintro e w1 ⟨he1, hb1⟩
        rw [Hd.out] at he1
        subst he1
        go_wp2_with fail
        refine (zzvalue_any _ _ _ _ _ _ w1).mono ?_
        rintro e w2 ⟨he2, hb2⟩
        rw [Ha.out] at he2
        subst he2
        have hbw2 : Below w.heap.size w w2 := hb1.trans (hb2.mono hb1.size)
        go_wp2_with fail
        refine (zzvalue_any _ _ _ _ _ _ w2).mono ?_
        rintro e w3 ⟨he3, hb3⟩
        have hbw3 : Below w.heap.size w w3 := hbw2.trans (hb3.mono hbw2.size)
        cases ho1 : (op.toList == [58, 45]) with
        | true =>
          have Hg : Hid (valS op v s = s) := by unfold valS; rw [if_pos ho1, if_pos hv]; rfl
          rw [Hg.out] at he3
          subst he3
          go_wp2_with fail
          refine (firstSet_any _ _ _).mono ?_
          rintro e w0 ⟨he0, hw'⟩
          rw [hw']
          clear hw' w0
          rw [Hf.out] at he0
          subst he0
          go_wp2_with fail
          go_ret
          exact ⟨rfl, hbw3⟩
        | false =>
          cases ho2 : (op.toList == [58, 43]) with
          | true =>
            have Hg : Hid (valS op v s = ⟨#[]⟩) := by unfold valS; rw [if_neg (by simp [ho1]), if_pos ho2, if_pos hv]; rfl
            rw [Hg.out] at he3
            subst he3
            go_wp2_with fail
            refine (firstSet_any _ _ _).mono ?_
            rintro e w0 ⟨he0, hw'⟩
            rw [hw']
            clear hw' w0
            rw [Hf.out] at he0
            subst he0
            go_wp2_with fail
            go_ret
            exact ⟨rfl, hbw3⟩
          | false =>
            have Hg : Hid (valS op v s = v) := by unfold valS; rw [if_neg (by simp [ho1]), if_neg (by simp [ho2])]; rfl
            rw [Hg.out] at he3
            subst he3
            go_wp2_with fail
            refine (firstSet_any _ _ _).mono ?_
            rintro e w0 ⟨he0, hw'⟩
            rw [hw']
            clear hw' w0
            rw [Hf.out] at he0
            subst he0
            go_wp2_with fail
            go_ret
            exact ⟨rfl, hbw3⟩
      | false =>
        have Hd : Hid (valS ⟨#[58, 45]⟩ v s = v) := by rw [valS_def, if_neg (by simp [hv])]; rfl
        have Ha : Hid (valS ⟨#[58, 43]⟩ v s = s) := by rw [valS_alt, if_neg (by simp [hv])]; rfl
        have Hf : Hid (firstS v s = v) := by unfold firstS; rw [if_neg (by simp [hv])]; rfl
        go_wp2_with fail
        refine (zzvalue_any _ _ _ _ _ _ w).mono ?_
        rintro e w1 ⟨he1, hb1⟩
        rw [Hd.out] at he1
        subst he1
        go_wp2_with fail
        refine (zzvalue_any _ _ _ _ _ _ w1).mono ?_
        rintro e w2 ⟨he2, hb2⟩
        rw [Ha.out] at he2
        subst he2
        have hbw2 : Below w.heap.size w w2 := hb1.trans (hb2.mono hb1.size)
        go_wp2_with fail
        refine (zzvalue_any _ _ _ _ _ _ w2).mono ?_
        rintro e w3 ⟨he3, hb3⟩
        have hbw3 : Below w.heap.size w w3 := hbw2.trans (hb3.mono hbw2.size)
        cases ho1 : (op.toList == [58, 45]) with
        | true =>
          have Hg : Hid (valS op v s = v) := by unfold valS; rw [if_pos ho1, if_neg (by simp [hv])]; rfl
          rw [Hg.out] at he3
          subst he3
          go_wp2_with fail
          refine (firstSet_any _ _ _).mono ?_
          rintro e w0 ⟨he0, hw'⟩
          rw [hw']
          clear hw' w0
          rw [Hf.out] at he0
          subst he0
          go_wp2_with fail
          go_ret
          exact ⟨rfl, hbw3⟩
        | false =>
          cases ho2 : (op.toList == [58, 43]) with
          | true =>
            have Hg : Hid (valS op v s = s) := by unfold valS; rw [if_neg (by simp [ho1]), if_pos ho2, if_neg (by simp [hv])]; rfl
            rw [Hg.out] at he3
            subst he3
            go_wp2_with fail
            refine (firstSet_any _ _ _).mono ?_
            rintro e w0 ⟨he0, hw'⟩
            rw [hw']
            clear hw' w0
            rw [Hf.out] at he0
            subst he0
            go_wp2_with fail
            go_ret
            exact ⟨rfl, hbw3⟩
          | false =>
            have Hg : Hid (valS op v s = v) := by unfold valS; rw [if_neg (by simp [ho1]), if_neg (by simp [ho2])]; rfl
            rw [Hg.out] at he3
            subst he3
            go_wp2_with fail
            refine (firstSet_any _ _ _).mono ?_
            rintro e w0 ⟨he0, hw'⟩
            rw [hw']
            clear hw' w0
            rw [Hf.out] at he0
            subst he0
            go_wp2_with fail
            go_ret
            exact ⟨rfl, hbw3⟩

end Go.Proofs.Qxb6609067a
