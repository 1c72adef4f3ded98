/-
  No cell of these rows narrows 'for every input' (looked for: loops, veiled, ifaces, maps, wideKeys, modest, calm, conditions, laid).
  DERIVED. THE GIVEN ROWS OF THIS SEAT. 5 by the template 'for every input the law returns true; each argument reads behind the call as it read before'; 0 by the template 'total and deterministic' (their statements: Qxb6608633aTotals.lean).
  GIVEN WITH THE SEED: the statements are not yours to turn. If you find one false, say at which input.
  Laid BY PROGRAM, IN A SANDBOX (cutbox-rows.mjs): the forced cells as the released guide's own fill.sh prints them over the translation faf4cce7bd20d46c… (all of the seat's roots in one cut). By AI agents, Wed Nov 11 2026. No macro, syntax, notation, axiom, sorry.
-/
import Derived.Test.Qxb6608633aChecked
import GoSem.Claim
import GoSem.ClaimJoined
import GoSem.ClaimMapViews
import Derived.JoinedTies
import Derived.KernelRfl
namespace Go.Proofs.Qxb6608633a
/- THE CELL 'sum', in the pinned program and in every row, IS THE sha256 OF THE DUMP (.gsa) THAT Qxb6608633aProg.lean LOADS. Nothing in Lean hashes anything: it is a label: what it is worth is what the hold of that sum in a sandbox is worth. -/
noncomputable def Try.pinned : Pinned := { name := "qxb6608633a", sum := "faf4cce7bd20d46c5a1f8e2387ca16e70ff50083f66dc52f5db8a7f6e54d65ba", checked := Try.checked }
namespace Rows
def none {H : Type} : Left H := { results := [], args := [] }

/-- 'zzlaws_lattice_b1.FnRaiseTwiceIsRaiseOnceToTheGreater': WHATEVER THE INPUT: true; the input reads as it did. -/
def fnRaiseTwiceIsRaiseOnceToTheGreaterSpec : ChangeSpec := { name := "fnRaiseTwiceIsRaiseOnceToTheGreater", fn := fun _ => fun
  | [d1, d2, d3, d4] => { results := [.lit (.bool true)], args := [d1, d2, d3, d4] }
  | _ => none }
def fnRaiseTwiceIsRaiseOnceToTheGreaterRow : OpenClaim := { program := "qxb6608633a", sum := "faf4cce7bd20d46c5a1f8e2387ca16e70ff50083f66dc52f5db8a7f6e54d65ba", func := "example.com/joinwise/joinwise/zzlaws_lattice_b1.FnRaiseTwiceIsRaiseOnceToTheGreater", spec := "fnRaiseTwiceIsRaiseOnceToTheGreater", inPlace := ["internal/bytealg.abigen_runtime_cmpstring", "slices.overlaps[example.com/joinwise/joinwise/lattice.vectorEntry]"], unfollowed := true, recurses := true, apart := false }
def FnRaiseTwiceIsRaiseOnceToTheGreaterSaid : Prop := fnRaiseTwiceIsRaiseOnceToTheGreaterRow.holds Try.pinned (OpenSpec.ofChange fnRaiseTwiceIsRaiseOnceToTheGreaterSpec)

/-- ITS FALSE NEIGHBOUR: 'it returns false'. Refute it at one input. -/
def fnRaiseTwiceIsRaiseOnceToTheGreaterWrong : ChangeSpec := { name := "fnRaiseTwiceIsRaiseOnceToTheGreater", fn := fun _ => fun
  | [d1, d2, d3, d4] => { results := [.lit (.bool false)], args := [d1, d2, d3, d4] }
  | _ => none }
def FnRaiseTwiceIsRaiseOnceToTheGreaterWrongFalsely : Prop := fnRaiseTwiceIsRaiseOnceToTheGreaterRow.holds Try.pinned (OpenSpec.ofChange fnRaiseTwiceIsRaiseOnceToTheGreaterWrong)

/-- 'zzlaws_lattice_b1.FnRaiseOrderDoesNotMatter': WHATEVER THE INPUT: true; the input reads as it did. -/
def fnRaiseOrderDoesNotMatterSpec : ChangeSpec := { name := "fnRaiseOrderDoesNotMatter", fn := fun _ => fun
  | [d1, d2, d3, d4, d5] => { results := [.lit (.bool true)], args := [d1, d2, d3, d4, d5] }
  | _ => none }
def fnRaiseOrderDoesNotMatterRow : OpenClaim := { program := "qxb6608633a", sum := "faf4cce7bd20d46c5a1f8e2387ca16e70ff50083f66dc52f5db8a7f6e54d65ba", func := "example.com/joinwise/joinwise/zzlaws_lattice_b1.FnRaiseOrderDoesNotMatter", spec := "fnRaiseOrderDoesNotMatter", inPlace := ["internal/bytealg.abigen_runtime_cmpstring", "slices.overlaps[example.com/joinwise/joinwise/lattice.vectorEntry]"], unfollowed := true, recurses := true, apart := false }
def FnRaiseOrderDoesNotMatterSaid : Prop := fnRaiseOrderDoesNotMatterRow.holds Try.pinned (OpenSpec.ofChange fnRaiseOrderDoesNotMatterSpec)

/-- ITS FALSE NEIGHBOUR: 'it returns false'. Refute it at one input. -/
def fnRaiseOrderDoesNotMatterWrong : ChangeSpec := { name := "fnRaiseOrderDoesNotMatter", fn := fun _ => fun
  | [d1, d2, d3, d4, d5] => { results := [.lit (.bool false)], args := [d1, d2, d3, d4, d5] }
  | _ => none }
def FnRaiseOrderDoesNotMatterWrongFalsely : Prop := fnRaiseOrderDoesNotMatterRow.holds Try.pinned (OpenSpec.ofChange fnRaiseOrderDoesNotMatterWrong)

/-- 'zzlaws_lattice_b1.FnContextOfSeesExactlyTheDots': WHATEVER THE INPUT: true; the input reads as it did. -/
def fnContextOfSeesExactlyTheDotsSpec : ChangeSpec := { name := "fnContextOfSeesExactlyTheDots", fn := fun _ => fun
  | [d] => { results := [.lit (.bool true)], args := [d] }
  | _ => none }
def fnContextOfSeesExactlyTheDotsRow : OpenClaim := { program := "qxb6608633a", sum := "faf4cce7bd20d46c5a1f8e2387ca16e70ff50083f66dc52f5db8a7f6e54d65ba", func := "example.com/joinwise/joinwise/zzlaws_lattice_b1.FnContextOfSeesExactlyTheDots", spec := "fnContextOfSeesExactlyTheDots", inPlace := ["internal/bytealg.abigen_runtime_cmpstring"], unfollowed := true, recurses := true, apart := false }
def FnContextOfSeesExactlyTheDotsSaid : Prop := fnContextOfSeesExactlyTheDotsRow.holds Try.pinned (OpenSpec.ofChange fnContextOfSeesExactlyTheDotsSpec)

/-- ITS FALSE NEIGHBOUR: 'it returns false'. Refute it at one input. -/
def fnContextOfSeesExactlyTheDotsWrong : ChangeSpec := { name := "fnContextOfSeesExactlyTheDots", fn := fun _ => fun
  | [d] => { results := [.lit (.bool false)], args := [d] }
  | _ => none }
def FnContextOfSeesExactlyTheDotsWrongFalsely : Prop := fnContextOfSeesExactlyTheDotsRow.holds Try.pinned (OpenSpec.ofChange fnContextOfSeesExactlyTheDotsWrong)

/-- 'zzlaws_lattice_b1.FnJoinRunsIsUnionAndDifference': WHATEVER THE INPUT: true; the input reads as it did. -/
def fnJoinRunsIsUnionAndDifferenceSpec : ChangeSpec := { name := "fnJoinRunsIsUnionAndDifference", fn := fun _ => fun
  | [d1, d2] => { results := [.lit (.bool true)], args := [d1, d2] }
  | _ => none }
def fnJoinRunsIsUnionAndDifferenceRow : OpenClaim := { program := "qxb6608633a", sum := "faf4cce7bd20d46c5a1f8e2387ca16e70ff50083f66dc52f5db8a7f6e54d65ba", func := "example.com/joinwise/joinwise/zzlaws_lattice_b1.FnJoinRunsIsUnionAndDifference", spec := "fnJoinRunsIsUnionAndDifference", unfollowed := true, recurses := true, apart := false }
def FnJoinRunsIsUnionAndDifferenceSaid : Prop := fnJoinRunsIsUnionAndDifferenceRow.holds Try.pinned (OpenSpec.ofChange fnJoinRunsIsUnionAndDifferenceSpec)

/-- ITS FALSE NEIGHBOUR: 'it returns false'. Refute it at one input. -/
def fnJoinRunsIsUnionAndDifferenceWrong : ChangeSpec := { name := "fnJoinRunsIsUnionAndDifference", fn := fun _ => fun
  | [d1, d2] => { results := [.lit (.bool false)], args := [d1, d2] }
  | _ => none }
def FnJoinRunsIsUnionAndDifferenceWrongFalsely : Prop := fnJoinRunsIsUnionAndDifferenceRow.holds Try.pinned (OpenSpec.ofChange fnJoinRunsIsUnionAndDifferenceWrong)

/-- 'zzlaws_lattice_b1.FnNewDotSetHoldsItsDotAlone': WHATEVER THE INPUT: true; the input reads as it did. -/
def fnNewDotSetHoldsItsDotAloneSpec : ChangeSpec := { name := "fnNewDotSetHoldsItsDotAlone", fn := fun _ => fun
  | [d1, d2] => { results := [.lit (.bool true)], args := [d1, d2] }
  | _ => none }
def fnNewDotSetHoldsItsDotAloneRow : OpenClaim := { program := "qxb6608633a", sum := "faf4cce7bd20d46c5a1f8e2387ca16e70ff50083f66dc52f5db8a7f6e54d65ba", func := "example.com/joinwise/joinwise/zzlaws_lattice_b1.FnNewDotSetHoldsItsDotAlone", spec := "fnNewDotSetHoldsItsDotAlone", inPlace := ["internal/bytealg.abigen_runtime_cmpstring"], unfollowed := true, recurses := true, apart := false }
def FnNewDotSetHoldsItsDotAloneSaid : Prop := fnNewDotSetHoldsItsDotAloneRow.holds Try.pinned (OpenSpec.ofChange fnNewDotSetHoldsItsDotAloneSpec)

/-- ITS FALSE NEIGHBOUR: 'it returns false'. Refute it at one input. -/
def fnNewDotSetHoldsItsDotAloneWrong : ChangeSpec := { name := "fnNewDotSetHoldsItsDotAlone", fn := fun _ => fun
  | [d1, d2] => { results := [.lit (.bool false)], args := [d1, d2] }
  | _ => none }
def FnNewDotSetHoldsItsDotAloneWrongFalsely : Prop := fnNewDotSetHoldsItsDotAloneRow.holds Try.pinned (OpenSpec.ofChange fnNewDotSetHoldsItsDotAloneWrong)

end Rows
end Go.Proofs.Qxb6608633a
