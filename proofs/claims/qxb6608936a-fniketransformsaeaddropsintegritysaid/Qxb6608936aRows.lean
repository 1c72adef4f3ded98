/-
  No cell of these rows narrows 'for every input' (looked for: loops, veiled, ifaces, maps, wideKeys, modest, calm, conditions, laid).
  DERIVED. THE GIVEN ROWS OF THIS SEAT. 1 by the template 'for every input the law returns true; each argument reads behind the call as it read before'; 0 by the template 'total and deterministic' (their statements: Qxb6608936aTotals.lean).
  GIVEN WITH THE SEED: the statements are not yours to turn. If you find one false, say at which input.
  Laid BY PROGRAM, IN A SANDBOX (cutbox-rows.mjs): the forced cells as the released guide's own fill.sh prints them over the translation 417ff45afff44a6f… (all of the seat's roots in one cut). By AI agents, Wed Nov 11 2026. No macro, syntax, notation, axiom, sorry.
-/
import Derived.Test.Qxb6608936aChecked
import GoSem.Claim
import GoSem.ClaimJoined
import GoSem.ClaimMapViews
import Derived.JoinedTies
import Derived.KernelRfl
namespace Go.Proofs.Qxb6608936a
/- THE CELL 'sum', in the pinned program and in every row, IS THE sha256 OF THE DUMP (.gsa) THAT Qxb6608936aProg.lean LOADS. Nothing in Lean hashes anything: it is a label: what it is worth is what the hold of that sum in a sandbox is worth. -/
noncomputable def Try.pinned : Pinned := { name := "qxb6608936a", sum := "417ff45afff44a6f60563370099612774664ad096875e7c186a6260ac9cfe5f6", checked := Try.checked }
namespace Rows
def none {H : Type} : Left H := { results := [], args := [] }

/-- 'zzlaws_suite_b1.FnIKETransformsAEADDropsIntegrity': WHATEVER THE INPUT: true; the input reads as it did. -/
def fnIKETransformsAEADDropsIntegritySpec : ChangeSpec := { name := "fnIKETransformsAEADDropsIntegrity", fn := fun _ => fun
  | [d1, d2, d3, d4, d5] => { results := [.lit (.bool true)], args := [d1, d2, d3, d4, d5] }
  | _ => none }
def fnIKETransformsAEADDropsIntegrityRow : OpenClaim := { program := "qxb6608936a", sum := "417ff45afff44a6f60563370099612774664ad096875e7c186a6260ac9cfe5f6", func := "example.com/parley/parley/zzlaws_suite_b1.FnIKETransformsAEADDropsIntegrity", spec := "fnIKETransformsAEADDropsIntegrity", apart := false }
def FnIKETransformsAEADDropsIntegritySaid : Prop := fnIKETransformsAEADDropsIntegrityRow.holds Try.pinned (OpenSpec.ofChange fnIKETransformsAEADDropsIntegritySpec)

/-- ITS FALSE NEIGHBOUR: 'it returns false'. Refute it at one input. -/
def fnIKETransformsAEADDropsIntegrityWrong : ChangeSpec := { name := "fnIKETransformsAEADDropsIntegrity", fn := fun _ => fun
  | [d1, d2, d3, d4, d5] => { results := [.lit (.bool false)], args := [d1, d2, d3, d4, d5] }
  | _ => none }
def FnIKETransformsAEADDropsIntegrityWrongFalsely : Prop := fnIKETransformsAEADDropsIntegrityRow.holds Try.pinned (OpenSpec.ofChange fnIKETransformsAEADDropsIntegrityWrong)

end Rows
end Go.Proofs.Qxb6608936a
