/-
  No cell of these rows narrows 'for every input' (looked for: loops, veiled, ifaces, maps, wideKeys, modest, calm, conditions, laid).
  DERIVED. THE GIVEN ROWS OF THIS SEAT. 6 by the template 'for every input the law returns true; each argument reads behind the call as it read before'; 0 by the template 'total and deterministic' (their statements: Qxb6602969aTotals.lean).
  GIVEN WITH THE SEED: the statements are not yours to turn. If you find one false, say at which input.
  Laid BY PROGRAM, IN A SANDBOX (cutbox-rows.mjs): the forced cells as the released guide's own fill.sh prints them over the translation 8fd5a2f33134975b… (all of the seat's roots in one cut). By AI agents, Wed Nov 11 2026. No macro, syntax, notation, axiom, sorry.
-/
import Derived.Test.Qxb6602969aChecked
import GoSem.Claim
import GoSem.ClaimJoined
import GoSem.ClaimMapViews
import Derived.JoinedTies
import Derived.KernelRfl
namespace Go.Proofs.Qxb6602969a
/- THE CELL 'sum', in the pinned program and in every row, IS THE sha256 OF THE DUMP (.gsa) THAT Qxb6602969aProg.lean LOADS. Nothing in Lean hashes anything: it is a label: what it is worth is what the hold of that sum in a sandbox is worth. -/
noncomputable def Try.pinned : Pinned := { name := "qxb6602969a", sum := "8fd5a2f33134975b51b26fc98ce0df5e0035f2c9698a93d6b1dffa560ebcd087", checked := Try.checked }
namespace Rows
def none {H : Type} : Left H := { results := [], args := [] }

/-- 'zzlaws_layout_b1.FnComponentsMatchesUnionFind': WHATEVER THE INPUT: true; the input reads as it did. -/
def fnComponentsMatchesUnionFindSpec : ChangeSpec := { name := "fnComponentsMatchesUnionFind", fn := fun _ => fun
  | [d] => { results := [.lit (.bool true)], args := [d] }
  | _ => none }
def fnComponentsMatchesUnionFindRow : OpenClaim := { program := "qxb6602969a", sum := "8fd5a2f33134975b51b26fc98ce0df5e0035f2c9698a93d6b1dffa560ebcd087", func := "example.com/spindrift/spindrift/zzlaws_layout_b1.FnComponentsMatchesUnionFind", spec := "fnComponentsMatchesUnionFind", apart := false }
def FnComponentsMatchesUnionFindSaid : Prop := fnComponentsMatchesUnionFindRow.holds Try.pinned (OpenSpec.ofChange fnComponentsMatchesUnionFindSpec)

/-- ITS FALSE NEIGHBOUR: 'it returns false'. Refute it at one input. -/
def fnComponentsMatchesUnionFindWrong : ChangeSpec := { name := "fnComponentsMatchesUnionFind", fn := fun _ => fun
  | [d] => { results := [.lit (.bool false)], args := [d] }
  | _ => none }
def FnComponentsMatchesUnionFindWrongFalsely : Prop := fnComponentsMatchesUnionFindRow.holds Try.pinned (OpenSpec.ofChange fnComponentsMatchesUnionFindWrong)

/-- 'zzlaws_layout_b1.FnComponentsLabelsClosedUnderEdges': WHATEVER THE INPUT: true; the input reads as it did. -/
def fnComponentsLabelsClosedUnderEdgesSpec : ChangeSpec := { name := "fnComponentsLabelsClosedUnderEdges", fn := fun _ => fun
  | [d] => { results := [.lit (.bool true)], args := [d] }
  | _ => none }
def fnComponentsLabelsClosedUnderEdgesRow : OpenClaim := { program := "qxb6602969a", sum := "8fd5a2f33134975b51b26fc98ce0df5e0035f2c9698a93d6b1dffa560ebcd087", func := "example.com/spindrift/spindrift/zzlaws_layout_b1.FnComponentsLabelsClosedUnderEdges", spec := "fnComponentsLabelsClosedUnderEdges", apart := false }
def FnComponentsLabelsClosedUnderEdgesSaid : Prop := fnComponentsLabelsClosedUnderEdgesRow.holds Try.pinned (OpenSpec.ofChange fnComponentsLabelsClosedUnderEdgesSpec)

/-- ITS FALSE NEIGHBOUR: 'it returns false'. Refute it at one input. -/
def fnComponentsLabelsClosedUnderEdgesWrong : ChangeSpec := { name := "fnComponentsLabelsClosedUnderEdges", fn := fun _ => fun
  | [d] => { results := [.lit (.bool false)], args := [d] }
  | _ => none }
def FnComponentsLabelsClosedUnderEdgesWrongFalsely : Prop := fnComponentsLabelsClosedUnderEdgesRow.holds Try.pinned (OpenSpec.ofChange fnComponentsLabelsClosedUnderEdgesWrong)

/-- 'zzlaws_layout_b1.FnComponentsStarGraphFixedPoint': WHATEVER THE INPUT: true; the input reads as it did. -/
def fnComponentsStarGraphFixedPointSpec : ChangeSpec := { name := "fnComponentsStarGraphFixedPoint", fn := fun _ => fun
  | [d] => { results := [.lit (.bool true)], args := [d] }
  | _ => none }
def fnComponentsStarGraphFixedPointRow : OpenClaim := { program := "qxb6602969a", sum := "8fd5a2f33134975b51b26fc98ce0df5e0035f2c9698a93d6b1dffa560ebcd087", func := "example.com/spindrift/spindrift/zzlaws_layout_b1.FnComponentsStarGraphFixedPoint", spec := "fnComponentsStarGraphFixedPoint", apart := false }
def FnComponentsStarGraphFixedPointSaid : Prop := fnComponentsStarGraphFixedPointRow.holds Try.pinned (OpenSpec.ofChange fnComponentsStarGraphFixedPointSpec)

/-- ITS FALSE NEIGHBOUR: 'it returns false'. Refute it at one input. -/
def fnComponentsStarGraphFixedPointWrong : ChangeSpec := { name := "fnComponentsStarGraphFixedPoint", fn := fun _ => fun
  | [d] => { results := [.lit (.bool false)], args := [d] }
  | _ => none }
def FnComponentsStarGraphFixedPointWrongFalsely : Prop := fnComponentsStarGraphFixedPointRow.holds Try.pinned (OpenSpec.ofChange fnComponentsStarGraphFixedPointWrong)

/-- 'zzlaws_layout_b1.FnLargestComponentMatchesSpec': WHATEVER THE INPUT: true; the input reads as it did. -/
def fnLargestComponentMatchesSpecSpec : ChangeSpec := { name := "fnLargestComponentMatchesSpec", fn := fun _ => fun
  | [d] => { results := [.lit (.bool true)], args := [d] }
  | _ => none }
def fnLargestComponentMatchesSpecRow : OpenClaim := { program := "qxb6602969a", sum := "8fd5a2f33134975b51b26fc98ce0df5e0035f2c9698a93d6b1dffa560ebcd087", func := "example.com/spindrift/spindrift/zzlaws_layout_b1.FnLargestComponentMatchesSpec", spec := "fnLargestComponentMatchesSpec", apart := false }
def FnLargestComponentMatchesSpecSaid : Prop := fnLargestComponentMatchesSpecRow.holds Try.pinned (OpenSpec.ofChange fnLargestComponentMatchesSpecSpec)

/-- ITS FALSE NEIGHBOUR: 'it returns false'. Refute it at one input. -/
def fnLargestComponentMatchesSpecWrong : ChangeSpec := { name := "fnLargestComponentMatchesSpec", fn := fun _ => fun
  | [d] => { results := [.lit (.bool false)], args := [d] }
  | _ => none }
def FnLargestComponentMatchesSpecWrongFalsely : Prop := fnLargestComponentMatchesSpecRow.holds Try.pinned (OpenSpec.ofChange fnLargestComponentMatchesSpecWrong)

/-- 'zzlaws_layout_b1.FnRowOrderSortsByLine': WHATEVER THE INPUT: true; the input reads as it did. -/
def fnRowOrderSortsByLineSpec : ChangeSpec := { name := "fnRowOrderSortsByLine", fn := fun _ => fun
  | [d1, d2, d3] => { results := [.lit (.bool true)], args := [d1, d2, d3] }
  | _ => none }
def fnRowOrderSortsByLineRow : OpenClaim := { program := "qxb6602969a", sum := "8fd5a2f33134975b51b26fc98ce0df5e0035f2c9698a93d6b1dffa560ebcd087", func := "example.com/spindrift/spindrift/zzlaws_layout_b1.FnRowOrderSortsByLine", spec := "fnRowOrderSortsByLine", unfollowed := true, recurses := true, apart := false }
def FnRowOrderSortsByLineSaid : Prop := fnRowOrderSortsByLineRow.holds Try.pinned (OpenSpec.ofChange fnRowOrderSortsByLineSpec)

/-- ITS FALSE NEIGHBOUR: 'it returns false'. Refute it at one input. -/
def fnRowOrderSortsByLineWrong : ChangeSpec := { name := "fnRowOrderSortsByLine", fn := fun _ => fun
  | [d1, d2, d3] => { results := [.lit (.bool false)], args := [d1, d2, d3] }
  | _ => none }
def FnRowOrderSortsByLineWrongFalsely : Prop := fnRowOrderSortsByLineRow.holds Try.pinned (OpenSpec.ofChange fnRowOrderSortsByLineWrong)

/-- 'zzlaws_layout_b1.FnRowOrderShiftInvariant': WHATEVER THE INPUT: true; the input reads as it did. -/
def fnRowOrderShiftInvariantSpec : ChangeSpec := { name := "fnRowOrderShiftInvariant", fn := fun _ => fun
  | [d1, d2, d3, d4] => { results := [.lit (.bool true)], args := [d1, d2, d3, d4] }
  | _ => none }
def fnRowOrderShiftInvariantRow : OpenClaim := { program := "qxb6602969a", sum := "8fd5a2f33134975b51b26fc98ce0df5e0035f2c9698a93d6b1dffa560ebcd087", func := "example.com/spindrift/spindrift/zzlaws_layout_b1.FnRowOrderShiftInvariant", spec := "fnRowOrderShiftInvariant", unfollowed := true, recurses := true, apart := false }
def FnRowOrderShiftInvariantSaid : Prop := fnRowOrderShiftInvariantRow.holds Try.pinned (OpenSpec.ofChange fnRowOrderShiftInvariantSpec)

/-- ITS FALSE NEIGHBOUR: 'it returns false'. Refute it at one input. -/
def fnRowOrderShiftInvariantWrong : ChangeSpec := { name := "fnRowOrderShiftInvariant", fn := fun _ => fun
  | [d1, d2, d3, d4] => { results := [.lit (.bool false)], args := [d1, d2, d3, d4] }
  | _ => none }
def FnRowOrderShiftInvariantWrongFalsely : Prop := fnRowOrderShiftInvariantRow.holds Try.pinned (OpenSpec.ofChange fnRowOrderShiftInvariantWrong)

end Rows
end Go.Proofs.Qxb6602969a
