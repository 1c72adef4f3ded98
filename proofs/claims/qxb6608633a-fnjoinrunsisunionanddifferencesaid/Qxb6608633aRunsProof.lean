/- FnJoinRunsIsUnionAndDifference: the row's step, after the guide's shell for a law over slices; the two slices of runs opened by open_runs. -/
import Derived.Test.Qxb6608633aOpenRuns
import Derived.Test.Qxb6608633aJoin2
import Derived.WalkKit
import Derived.ProofKit
import Derived.OpenShut
import Derived.ShutString
import Derived.ChangeOld
import Derived.Below
namespace Go.Proofs.Qxb6608633a.fnJoinRunsIsUnionAndDifference
open Go.ChangeShapes Go.WideShapes Go.ChangeAt Go.RowKit
open Go.ChangeMaps (open_string shut_string)
set_option linter.unusedVariables false

theorem own : ownKnob Try.prog.godebug = none := by kernel_rfl
theorem laidOut : laidOutB Try.prog = true := by kernel_rfl

/-! ### THE WALK -/
theorem joinAll : JoinAll := fun pm pt M T w hM hT fM fT uM uT lM lT => by
  by_cases hc : T.list.length + M.list.length < T.list.length * Lib.bitLen M.list.length
  · exact join1 pm pt M T w hM hT fM fT uM uT lM lT hc
  · exact join2 pm pt M T w hM hT fM fT uM uT lM lT hc

theorem walk (a0 : Option Addr) (len0 cap0 : Nat) (z0 : List Run) (a1 : Option Addr) (len1 cap1 : Nat) (z1 : List Run) (w : World) (w0 : RunsIn w a0 len0 cap0 z0) (w1 : RunsIn w a1 len1 cap1 z1) :
    Calls Try.prog 6 #[.slice a0 len0 cap0, .slice a1 len1 cap1] w fun e w' => e = .returned (.bool true) ∧ Below w.heap.size w w' := by
  obtain ⟨rfl, h1, h2, h3, h4⟩ := w0
  obtain ⟨rfl, g1, g2, g3, g4⟩ := w1
  exact law6 joinAll a0 cap0 z0 a1 cap1 z1 w h1 g1 h2 g2 h3 g3 h4 g4

/-! ### THE ROW's STEP: WRITTEN OUT: LEAVE IT -/
set_option maxRecDepth 100000 in
theorem lifted (os : Os) (started : os.Started) (H : Type) (enc : TypeId × Value → H) :
    ReturnsInHanded {} Try.checked os 6 .any (Rows.fnJoinRunsIsUnionAndDifferenceSpec.pre6 enc Try.prog Try.f6 Rows.fnJoinRunsIsUnionAndDifferenceRow.domain false) (Rows.fnJoinRunsIsUnionAndDifferenceSpec.post enc Try.prog Try.f6 false true false false) := by
  refine returnsInHanded_of_change (C := Try.checked) own started (by kernel_rfl) Try.func6
    (ChangeSpec.witness6 (enc := enc) (C := Try.checked) false ⟨#[], #[.slice none 0 0, .slice none 0 0], []⟩ 8 (by kernel_rfl) (by kernel_rfl) (by kernel_rfl) (by kernel_rfl)) ?_
  intro W base args ds gs before hval0 hW hcnd _
  have hval : ∀ (j : Nat) t v, Try.f6.params[j]? = some t → args[j]? = some v → Value.okWide Try.prog W .any base t v := hval0
  have hW' := hW
  obtain ⟨p, q, hA0, hV, rfl, hfz, hnd⟩ := hW
  have hA : DataW.TrodAll enc Try.prog W 0 (fun _ => true) true Try.f6.params.toList args.toList ds p := hA0
  rw [Try.params6] at hA hval
  obtain ⟨v0, vs0, d0, ds0, p0, q0, hargs, rfl, rfl, h0, r0⟩ := trodAll_cons hA
  obtain ⟨v1, vs1, d1, ds1, p1, q1, rfl, rfl, rfl, h1, r1⟩ := trodAll_cons r0
  obtain ⟨rfl, rfl, rfl⟩ := trodAll_nil r1
  obtain rfl : args = #[v0, v1] := by cases args; simp_all
  obtain ⟨rfl, rfl⟩ := trodVars_none hV
  obtain ⟨a0, len0, cap0, rfl⟩ := okWide_slice Try.underlying59 (hval 0 59 v0 rfl rfl)
  obtain ⟨a1, len1, cap1, rfl⟩ := okWide_slice Try.underlying59 (hval 1 59 v1 rfl rfl)
  have k0 := h0
  have k1 := h1
  have lt0 : ∀ x ∈ p0, x.block < W.heap.size := by obtain ⟨m, hm⟩ := k0; exact DataW.trod_lt m _ _ _ hm
  have lt1 : ∀ x ∈ p1, x.block < W.heap.size := by obtain ⟨m, hm⟩ := k1; exact DataW.trod_lt m _ _ _ hm
  obtain ⟨z0, w0⟩ : ∃ zs, RunsIn W a0 len0 cap0 zs := by
    obtain ⟨fuel, hf⟩ := h0
    exact open_runs (by simpa [Value.cells] using hf)
  obtain ⟨z1, w1⟩ : ∃ zs, RunsIn W a1 len1 cap1 zs := by
    obtain ⟨fuel, hf⟩ := h1
    exact open_runs (by simpa [Value.cells] using hf)
  clear hA0 hval0
  refine (walk a0 len0 cap0 z0 a1 len1 cap1 z1 W w0 w1).mono fun e W' ⟨he, bel⟩ => ?_
  subst he
  exact ⟨_, rfl, _, _, _, [], _, [], hW', trodAll_mk1 (shut_bool Try.underlying4 _), (trodAll_cons_mk (Below.trod laidOut (by kernel_rfl) (of_decide_eq_true (by kernel_rfl)) k0 bel lt0) (trodAll_cons_mk (Below.trod laidOut (by kernel_rfl) (of_decide_eq_true (by kernel_rfl)) k1 bel lt1) trodAll_mk0)), rfl, bel.frame _, fun h => by cases h⟩

theorem over : Rows.fnJoinRunsIsUnionAndDifferenceRow.holds Try.pinned (OpenSpec.ofChange Rows.fnJoinRunsIsUnionAndDifferenceSpec) :=
  OpenClaim.holds_of_wide 6 Try.f6 rfl rfl rfl rfl rfl rfl rfl ⟨rfl, rfl, rfl, rfl, rfl⟩ rfl rfl rfl rfl rfl (by kernel_rfl) Try.func6 (by kernel_rfl)
    (of_decide_eq_true (by kernel_rfl)) (by unfold Func.isWrapper; first | (rw [if_pos (by decide +kernel)]; kernel_rfl) | (rw [if_neg (by decide +kernel)]; exact ⟨rfl, rfl⟩))
    (fun os started H enc _ => lifted os started H enc)

/-- ████ THE STATEMENT ████ -/
theorem proved : Rows.FnJoinRunsIsUnionAndDifferenceSaid := over
end Go.Proofs.Qxb6608633a.fnJoinRunsIsUnionAndDifference
