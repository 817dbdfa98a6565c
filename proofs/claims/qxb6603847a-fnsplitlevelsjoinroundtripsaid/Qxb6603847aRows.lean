/-
  No cell of these rows narrows 'for every input' (looked for: loops, veiled, ifaces, maps, wideKeys, modest, calm, conditions, laid).
  DERIVED. THE GIVEN ROWS OF THIS SEAT. 3 by the template 'for every input the law returns true; each argument reads behind the call as it read before'; 0 by the template 'total and deterministic' (their statements: Qxb6603847aTotals.lean).
  GIVEN WITH THE SEED: the statements are not yours to turn. If you find one false, say at which input.
  Laid BY PROGRAM, IN A SANDBOX (cutbox-rows.mjs): the forced cells as the released guide's own fill.sh prints them over the translation 5e7dab4adb0a1c56… (all of the seat's roots in one cut). By AI agents, Wed Nov 11 2026. No macro, syntax, notation, axiom, sorry.
-/
import Derived.Test.Qxb6603847aChecked
import GoSem.Claim
import GoSem.ClaimJoined
import GoSem.ClaimMapViews
import Derived.JoinedTies
import Derived.KernelRfl
namespace Go.Proofs.Qxb6603847a
/- THE CELL 'sum', in the pinned program and in every row, IS THE sha256 OF THE DUMP (.gsa) THAT Qxb6603847aProg.lean LOADS. Nothing in Lean hashes anything: it is a label: what it is worth is what the hold of that sum in a sandbox is worth. -/
noncomputable def Try.pinned : Pinned := { name := "qxb6603847a", sum := "5e7dab4adb0a1c561f64894a687b49b615aa546e26df899654d6ac87c9a1cd71", checked := Try.checked }
namespace Rows
def none {H : Type} : Left H := { results := [], args := [] }

/-- 'zzlaws_root_b1.FnSplitLevelsJoinRoundTrip': WHATEVER THE INPUT: true; the input reads as it did. -/
def fnSplitLevelsJoinRoundTripSpec : ChangeSpec := { name := "fnSplitLevelsJoinRoundTrip", fn := fun _ => fun
  | [d] => { results := [.lit (.bool true)], args := [d] }
  | _ => none }
def fnSplitLevelsJoinRoundTripRow : OpenClaim := { program := "qxb6603847a", sum := "5e7dab4adb0a1c561f64894a687b49b615aa546e26df899654d6ac87c9a1cd71", func := "example.com/eurystheus/eurystheus/zzlaws_root_b1.FnSplitLevelsJoinRoundTrip", spec := "fnSplitLevelsJoinRoundTrip", inPlace := ["internal/bytealg.IndexByteString", "internal/bytealg.IndexString"], named := ["internal/bytealg.MaxLen"], apart := false }
def FnSplitLevelsJoinRoundTripSaid : Prop := fnSplitLevelsJoinRoundTripRow.holds Try.pinned (OpenSpec.ofChange fnSplitLevelsJoinRoundTripSpec)

/-- ITS FALSE NEIGHBOUR: 'it returns false'. Refute it at one input. -/
def fnSplitLevelsJoinRoundTripWrong : ChangeSpec := { name := "fnSplitLevelsJoinRoundTrip", fn := fun _ => fun
  | [d] => { results := [.lit (.bool false)], args := [d] }
  | _ => none }
def FnSplitLevelsJoinRoundTripWrongFalsely : Prop := fnSplitLevelsJoinRoundTripRow.holds Try.pinned (OpenSpec.ofChange fnSplitLevelsJoinRoundTripWrong)

/-- 'zzlaws_root_b1.FnClassEndShiftInvariant': WHATEVER THE INPUT: true; the input reads as it did. -/
def fnClassEndShiftInvariantSpec : ChangeSpec := { name := "fnClassEndShiftInvariant", fn := fun _ => fun
  | [d1, d2, d3] => { results := [.lit (.bool true)], args := [d1, d2, d3] }
  | _ => none }
def fnClassEndShiftInvariantRow : OpenClaim := { program := "qxb6603847a", sum := "5e7dab4adb0a1c561f64894a687b49b615aa546e26df899654d6ac87c9a1cd71", func := "example.com/eurystheus/eurystheus/zzlaws_root_b1.FnClassEndShiftInvariant", spec := "fnClassEndShiftInvariant", inPlace := ["internal/bytealg.IndexByteString", "internal/bytealg.IndexString"], named := ["internal/bytealg.MaxLen"], apart := false }
def FnClassEndShiftInvariantSaid : Prop := fnClassEndShiftInvariantRow.holds Try.pinned (OpenSpec.ofChange fnClassEndShiftInvariantSpec)

/-- ITS FALSE NEIGHBOUR: 'it returns false'. Refute it at one input. -/
def fnClassEndShiftInvariantWrong : ChangeSpec := { name := "fnClassEndShiftInvariant", fn := fun _ => fun
  | [d1, d2, d3] => { results := [.lit (.bool false)], args := [d1, d2, d3] }
  | _ => none }
def FnClassEndShiftInvariantWrongFalsely : Prop := fnClassEndShiftInvariantRow.holds Try.pinned (OpenSpec.ofChange fnClassEndShiftInvariantWrong)

/-- 'zzlaws_root_b1.FnClassEndBoundsAndShape': WHATEVER THE INPUT: true; the input reads as it did. -/
def fnClassEndBoundsAndShapeSpec : ChangeSpec := { name := "fnClassEndBoundsAndShape", fn := fun _ => fun
  | [d1, d2] => { results := [.lit (.bool true)], args := [d1, d2] }
  | _ => none }
def fnClassEndBoundsAndShapeRow : OpenClaim := { program := "qxb6603847a", sum := "5e7dab4adb0a1c561f64894a687b49b615aa546e26df899654d6ac87c9a1cd71", func := "example.com/eurystheus/eurystheus/zzlaws_root_b1.FnClassEndBoundsAndShape", spec := "fnClassEndBoundsAndShape", inPlace := ["internal/bytealg.IndexByteString", "internal/bytealg.IndexString"], named := ["internal/bytealg.MaxLen"], apart := false }
def FnClassEndBoundsAndShapeSaid : Prop := fnClassEndBoundsAndShapeRow.holds Try.pinned (OpenSpec.ofChange fnClassEndBoundsAndShapeSpec)

/-- ITS FALSE NEIGHBOUR: 'it returns false'. Refute it at one input. -/
def fnClassEndBoundsAndShapeWrong : ChangeSpec := { name := "fnClassEndBoundsAndShape", fn := fun _ => fun
  | [d1, d2] => { results := [.lit (.bool false)], args := [d1, d2] }
  | _ => none }
def FnClassEndBoundsAndShapeWrongFalsely : Prop := fnClassEndBoundsAndShapeRow.holds Try.pinned (OpenSpec.ofChange fnClassEndBoundsAndShapeWrong)

end Rows
end Go.Proofs.Qxb6603847a
