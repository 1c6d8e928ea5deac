/-
  No cell of these rows narrows 'for every input' (looked for: loops, veiled, ifaces, maps, wideKeys, modest, calm, conditions, laid).
  DERIVED. THE GIVEN ROWS OF THIS SEAT. 4 by the template 'for every input the law returns true; each argument reads behind the call as it read before'; 0 by the template 'total and deterministic' (their statements: Qxb6603575aTotals.lean).
  GIVEN WITH THE SEED: the statements are not yours to turn. If you find one false, say at which input.
  Laid BY PROGRAM, IN A SANDBOX (cutbox-rows.mjs): the forced cells as the released guide's own fill.sh prints them over the translation 40e8bfcb390c8349… (all of the seat's roots in one cut). By AI agents, Wed Nov 11 2026. No macro, syntax, notation, axiom, sorry.
-/
import Derived.Test.Qxb6603575aChecked
import GoSem.Claim
import GoSem.ClaimJoined
import GoSem.ClaimMapViews
import Derived.JoinedTies
import Derived.KernelRfl
namespace Go.Proofs.Qxb6603575a
/- THE CELL 'sum', in the pinned program and in every row, IS THE sha256 OF THE DUMP (.gsa) THAT Qxb6603575aProg.lean LOADS. Nothing in Lean hashes anything: it is a label: what it is worth is what the hold of that sum in a sandbox is worth. -/
noncomputable def Try.pinned : Pinned := { name := "qxb6603575a", sum := "40e8bfcb390c83499c747d712bdcff4bbbd115ab0aac58d8d59bca1ae69de631", checked := Try.checked }
namespace Rows
def none {H : Type} : Left H := { results := [], args := [] }

/-- 'zzlaws_pkg_form_b1.FnValueSeesThroughAliasKeys': WHATEVER THE INPUT: true; the input reads as it did. -/
def fnValueSeesThroughAliasKeysSpec : ChangeSpec := { name := "fnValueSeesThroughAliasKeys", fn := fun _ => fun
  | [d1, d2] => { results := [.lit (.bool true)], args := [d1, d2] }
  | _ => none }
def fnValueSeesThroughAliasKeysRow : OpenClaim := { program := "qxb6603575a", sum := "40e8bfcb390c83499c747d712bdcff4bbbd115ab0aac58d8d59bca1ae69de631", func := "example.com/vestline/vestline/zzlaws_pkg_form_b1.FnValueSeesThroughAliasKeys", spec := "fnValueSeesThroughAliasKeys", apart := false }
def FnValueSeesThroughAliasKeysSaid : Prop := fnValueSeesThroughAliasKeysRow.holds Try.pinned (OpenSpec.ofChange fnValueSeesThroughAliasKeysSpec)

/-- ITS FALSE NEIGHBOUR: 'it returns false'. Refute it at one input. -/
def fnValueSeesThroughAliasKeysWrong : ChangeSpec := { name := "fnValueSeesThroughAliasKeys", fn := fun _ => fun
  | [d1, d2] => { results := [.lit (.bool false)], args := [d1, d2] }
  | _ => none }
def FnValueSeesThroughAliasKeysWrongFalsely : Prop := fnValueSeesThroughAliasKeysRow.holds Try.pinned (OpenSpec.ofChange fnValueSeesThroughAliasKeysWrong)

/-- 'zzlaws_pkg_form_b1.FnResolveStepsOneAliasAtATime': WHATEVER THE INPUT: true; the input reads as it did. -/
def fnResolveStepsOneAliasAtATimeSpec : ChangeSpec := { name := "fnResolveStepsOneAliasAtATime", fn := fun _ => fun
  | [d1, d2, d3, d4] => { results := [.lit (.bool true)], args := [d1, d2, d3, d4] }
  | _ => none }
def fnResolveStepsOneAliasAtATimeRow : OpenClaim := { program := "qxb6603575a", sum := "40e8bfcb390c83499c747d712bdcff4bbbd115ab0aac58d8d59bca1ae69de631", func := "example.com/vestline/vestline/zzlaws_pkg_form_b1.FnResolveStepsOneAliasAtATime", spec := "fnResolveStepsOneAliasAtATime", apart := false }
def FnResolveStepsOneAliasAtATimeSaid : Prop := fnResolveStepsOneAliasAtATimeRow.holds Try.pinned (OpenSpec.ofChange fnResolveStepsOneAliasAtATimeSpec)

/-- ITS FALSE NEIGHBOUR: 'it returns false'. Refute it at one input. -/
def fnResolveStepsOneAliasAtATimeWrong : ChangeSpec := { name := "fnResolveStepsOneAliasAtATime", fn := fun _ => fun
  | [d1, d2, d3, d4] => { results := [.lit (.bool false)], args := [d1, d2, d3, d4] }
  | _ => none }
def FnResolveStepsOneAliasAtATimeWrongFalsely : Prop := fnResolveStepsOneAliasAtATimeRow.holds Try.pinned (OpenSpec.ofChange fnResolveStepsOneAliasAtATimeWrong)

/-- 'zzlaws_pkg_form_b1.FnSpacesStopsAtTheFirstNonSpace': WHATEVER THE INPUT: true; the input reads as it did. -/
def fnSpacesStopsAtTheFirstNonSpaceSpec : ChangeSpec := { name := "fnSpacesStopsAtTheFirstNonSpace", fn := fun _ => fun
  | [d1, d2] => { results := [.lit (.bool true)], args := [d1, d2] }
  | _ => none }
def fnSpacesStopsAtTheFirstNonSpaceRow : OpenClaim := { program := "qxb6603575a", sum := "40e8bfcb390c83499c747d712bdcff4bbbd115ab0aac58d8d59bca1ae69de631", func := "example.com/vestline/vestline/zzlaws_pkg_form_b1.FnSpacesStopsAtTheFirstNonSpace", spec := "fnSpacesStopsAtTheFirstNonSpace", apart := false }
def FnSpacesStopsAtTheFirstNonSpaceSaid : Prop := fnSpacesStopsAtTheFirstNonSpaceRow.holds Try.pinned (OpenSpec.ofChange fnSpacesStopsAtTheFirstNonSpaceSpec)

/-- ITS FALSE NEIGHBOUR: 'it returns false'. Refute it at one input. -/
def fnSpacesStopsAtTheFirstNonSpaceWrong : ChangeSpec := { name := "fnSpacesStopsAtTheFirstNonSpace", fn := fun _ => fun
  | [d1, d2] => { results := [.lit (.bool false)], args := [d1, d2] }
  | _ => none }
def FnSpacesStopsAtTheFirstNonSpaceWrongFalsely : Prop := fnSpacesStopsAtTheFirstNonSpaceRow.holds Try.pinned (OpenSpec.ofChange fnSpacesStopsAtTheFirstNonSpaceWrong)

/-- 'zzlaws_pkg_form_b1.FnSpacesEndsTheRunFromAnywhereInIt': WHATEVER THE INPUT: true; the input reads as it did. -/
def fnSpacesEndsTheRunFromAnywhereInItSpec : ChangeSpec := { name := "fnSpacesEndsTheRunFromAnywhereInIt", fn := fun _ => fun
  | [d1, d2, d3] => { results := [.lit (.bool true)], args := [d1, d2, d3] }
  | _ => none }
def fnSpacesEndsTheRunFromAnywhereInItRow : OpenClaim := { program := "qxb6603575a", sum := "40e8bfcb390c83499c747d712bdcff4bbbd115ab0aac58d8d59bca1ae69de631", func := "example.com/vestline/vestline/zzlaws_pkg_form_b1.FnSpacesEndsTheRunFromAnywhereInIt", spec := "fnSpacesEndsTheRunFromAnywhereInIt", apart := false }
def FnSpacesEndsTheRunFromAnywhereInItSaid : Prop := fnSpacesEndsTheRunFromAnywhereInItRow.holds Try.pinned (OpenSpec.ofChange fnSpacesEndsTheRunFromAnywhereInItSpec)

/-- ITS FALSE NEIGHBOUR: 'it returns false'. Refute it at one input. -/
def fnSpacesEndsTheRunFromAnywhereInItWrong : ChangeSpec := { name := "fnSpacesEndsTheRunFromAnywhereInIt", fn := fun _ => fun
  | [d1, d2, d3] => { results := [.lit (.bool false)], args := [d1, d2, d3] }
  | _ => none }
def FnSpacesEndsTheRunFromAnywhereInItWrongFalsely : Prop := fnSpacesEndsTheRunFromAnywhereInItRow.holds Try.pinned (OpenSpec.ofChange fnSpacesEndsTheRunFromAnywhereInItWrong)

end Rows
end Go.Proofs.Qxb6603575a
