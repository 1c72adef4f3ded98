/-
  No cell of these rows narrows 'for every input' (looked for: loops, veiled, ifaces, maps, wideKeys, modest, calm, conditions, laid).
  DERIVED. THE GIVEN ROWS OF THIS SEAT. 2 by the template 'for every input the law returns true; each argument reads behind the call as it read before'; 0 by the template 'total and deterministic' (their statements: Qxb6609067aTotals.lean).
  GIVEN WITH THE SEED: the statements are not yours to turn. If you find one false, say at which input.
  Laid BY PROGRAM, IN A SANDBOX (cutbox-rows.mjs): the forced cells as the released guide's own fill.sh prints them over the translation fdf12552c0710eb6… (all of the seat's roots in one cut). By AI agents, Wed Nov 11 2026. No macro, syntax, notation, axiom, sorry.
-/
import Derived.Test.Qxb6609067aChecked
import GoSem.Claim
import GoSem.ClaimJoined
import GoSem.ClaimMapViews
import Derived.JoinedTies
import Derived.KernelRfl
namespace Go.Proofs.Qxb6609067a
/- THE CELL 'sum', in the pinned program and in every row, IS THE sha256 OF THE DUMP (.gsa) THAT Qxb6609067aProg.lean LOADS. Nothing in Lean hashes anything: it is a label: what it is worth is what the hold of that sum in a sandbox is worth. -/
noncomputable def Try.pinned : Pinned := { name := "qxb6609067a", sum := "fdf12552c0710eb6538c6923351084047cdab9f218005c1328e837ae0d0a3ded", checked := Try.checked }
namespace Rows
def none {H : Type} : Left H := { results := [], args := [] }

/-- 'zzlaws_internal_dockerfile_b1.FnValueDefaultThenAlternativeSpellValueThenWord': WHATEVER THE INPUT: true; the input reads as it did. -/
def fnValueDefaultThenAlternativeSpellValueThenWordSpec : ChangeSpec := { name := "fnValueDefaultThenAlternativeSpellValueThenWord", fn := fun _ => fun
  | [d1, d2, d3, d4, d5, d6] => { results := [.lit (.bool true)], args := [d1, d2, d3, d4, d5, d6] }
  | _ => none }
def fnValueDefaultThenAlternativeSpellValueThenWordRow : OpenClaim := { program := "qxb6609067a", sum := "fdf12552c0710eb6538c6923351084047cdab9f218005c1328e837ae0d0a3ded", func := "example.com/caddis/caddis/zzlaws_internal_dockerfile_b1.FnValueDefaultThenAlternativeSpellValueThenWord", spec := "fnValueDefaultThenAlternativeSpellValueThenWord", unfollowed := true, recurses := true, apart := false }
def FnValueDefaultThenAlternativeSpellValueThenWordSaid : Prop := fnValueDefaultThenAlternativeSpellValueThenWordRow.holds Try.pinned (OpenSpec.ofChange fnValueDefaultThenAlternativeSpellValueThenWordSpec)

/-- ITS FALSE NEIGHBOUR: 'it returns false'. Refute it at one input. -/
def fnValueDefaultThenAlternativeSpellValueThenWordWrong : ChangeSpec := { name := "fnValueDefaultThenAlternativeSpellValueThenWord", fn := fun _ => fun
  | [d1, d2, d3, d4, d5, d6] => { results := [.lit (.bool false)], args := [d1, d2, d3, d4, d5, d6] }
  | _ => none }
def FnValueDefaultThenAlternativeSpellValueThenWordWrongFalsely : Prop := fnValueDefaultThenAlternativeSpellValueThenWordRow.holds Try.pinned (OpenSpec.ofChange fnValueDefaultThenAlternativeSpellValueThenWordWrong)

/-- 'zzlaws_internal_dockerfile_b1.FnValueDefaultsChainLikeCoalesce': WHATEVER THE INPUT: true; the input reads as it did. -/
def fnValueDefaultsChainLikeCoalesceSpec : ChangeSpec := { name := "fnValueDefaultsChainLikeCoalesce", fn := fun _ => fun
  | [d1, d2, d3, d4, d5, d6] => { results := [.lit (.bool true)], args := [d1, d2, d3, d4, d5, d6] }
  | _ => none }
def fnValueDefaultsChainLikeCoalesceRow : OpenClaim := { program := "qxb6609067a", sum := "fdf12552c0710eb6538c6923351084047cdab9f218005c1328e837ae0d0a3ded", func := "example.com/caddis/caddis/zzlaws_internal_dockerfile_b1.FnValueDefaultsChainLikeCoalesce", spec := "fnValueDefaultsChainLikeCoalesce", unfollowed := true, recurses := true, apart := false }
def FnValueDefaultsChainLikeCoalesceSaid : Prop := fnValueDefaultsChainLikeCoalesceRow.holds Try.pinned (OpenSpec.ofChange fnValueDefaultsChainLikeCoalesceSpec)

/-- ITS FALSE NEIGHBOUR: 'it returns false'. Refute it at one input. -/
def fnValueDefaultsChainLikeCoalesceWrong : ChangeSpec := { name := "fnValueDefaultsChainLikeCoalesce", fn := fun _ => fun
  | [d1, d2, d3, d4, d5, d6] => { results := [.lit (.bool false)], args := [d1, d2, d3, d4, d5, d6] }
  | _ => none }
def FnValueDefaultsChainLikeCoalesceWrongFalsely : Prop := fnValueDefaultsChainLikeCoalesceRow.holds Try.pinned (OpenSpec.ofChange fnValueDefaultsChainLikeCoalesceWrong)

end Rows
end Go.Proofs.Qxb6609067a
