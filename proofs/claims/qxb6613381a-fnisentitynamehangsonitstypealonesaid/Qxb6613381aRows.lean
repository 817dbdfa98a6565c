/-
  No cell of these rows narrows 'for every input' (looked for: loops, veiled, ifaces, maps, wideKeys, modest, calm, conditions, laid).
  DERIVED. THE GIVEN ROWS OF THIS SEAT. 2 by the template 'for every input the law returns true; each argument reads behind the call as it read before'; 0 by the template 'total and deterministic' (their statements: Qxb6613381aTotals.lean).
  GIVEN WITH THE SEED: the statements are not yours to turn. If you find one false, say at which input.
  Laid BY PROGRAM, IN A SANDBOX (cutbox-rows.mjs): the forced cells as the released guide's own fill.sh prints them over the translation ba5c358984c73f48… (all of the seat's roots in one cut). By AI agents, Wed Nov 11 2026. No macro, syntax, notation, axiom, sorry.
-/
import Derived.Test.Qxb6613381aChecked
import GoSem.Claim
import GoSem.ClaimJoined
import GoSem.ClaimMapViews
import Derived.JoinedTies
import Derived.KernelRfl
namespace Go.Proofs.Qxb6613381a
/- THE CELL 'sum', in the pinned program and in every row, IS THE sha256 OF THE DUMP (.gsa) THAT Qxb6613381aProg.lean LOADS. Nothing in Lean hashes anything: it is a label: what it is worth is what the hold of that sum in a sandbox is worth. -/
noncomputable def Try.pinned : Pinned := { name := "qxb6613381a", sum := "ba5c358984c73f48a9d1d68ee70d1e725c1aeab11f6acb13d736f4adb64d6b4a", checked := Try.checked }
namespace Rows
def none {H : Type} : Left H := { results := [], args := [] }

/-- 'zzlaws_internal_manifest_b1.FnIsEntityNameHangsOnItsTypeAlone': WHATEVER THE INPUT: true; the input reads as it did. -/
def fnIsEntityNameHangsOnItsTypeAloneSpec : ChangeSpec := { name := "fnIsEntityNameHangsOnItsTypeAlone", fn := fun _ => fun
  | [d] => { results := [.lit (.bool true)], args := [d] }
  | _ => none }
def fnIsEntityNameHangsOnItsTypeAloneRow : OpenClaim := { program := "qxb6613381a", sum := "ba5c358984c73f48a9d1d68ee70d1e725c1aeab11f6acb13d736f4adb64d6b4a", func := "example.com/castellan/castellan/zzlaws_internal_manifest_b1.FnIsEntityNameHangsOnItsTypeAlone", spec := "fnIsEntityNameHangsOnItsTypeAlone", inPlace := ["internal/bytealg.IndexByteString", "internal/bytealg.IndexString"], named := ["internal/bytealg.MaxLen"], apart := false }
def FnIsEntityNameHangsOnItsTypeAloneSaid : Prop := fnIsEntityNameHangsOnItsTypeAloneRow.holds Try.pinned (OpenSpec.ofChange fnIsEntityNameHangsOnItsTypeAloneSpec)

/-- ITS FALSE NEIGHBOUR: 'it returns false'. Refute it at one input. -/
def fnIsEntityNameHangsOnItsTypeAloneWrong : ChangeSpec := { name := "fnIsEntityNameHangsOnItsTypeAlone", fn := fun _ => fun
  | [d] => { results := [.lit (.bool false)], args := [d] }
  | _ => none }
def FnIsEntityNameHangsOnItsTypeAloneWrongFalsely : Prop := fnIsEntityNameHangsOnItsTypeAloneRow.holds Try.pinned (OpenSpec.ofChange fnIsEntityNameHangsOnItsTypeAloneWrong)

/-- 'zzlaws_internal_manifest_b1.FnIsEntityNameTypeJoins': WHATEVER THE INPUT: true; the input reads as it did. -/
def fnIsEntityNameTypeJoinsSpec : ChangeSpec := { name := "fnIsEntityNameTypeJoins", fn := fun _ => fun
  | [d1, d2, d3] => { results := [.lit (.bool true)], args := [d1, d2, d3] }
  | _ => none }
def fnIsEntityNameTypeJoinsRow : OpenClaim := { program := "qxb6613381a", sum := "ba5c358984c73f48a9d1d68ee70d1e725c1aeab11f6acb13d736f4adb64d6b4a", func := "example.com/castellan/castellan/zzlaws_internal_manifest_b1.FnIsEntityNameTypeJoins", spec := "fnIsEntityNameTypeJoins", inPlace := ["internal/bytealg.IndexByteString", "internal/bytealg.IndexString"], named := ["internal/bytealg.MaxLen"], apart := false }
def FnIsEntityNameTypeJoinsSaid : Prop := fnIsEntityNameTypeJoinsRow.holds Try.pinned (OpenSpec.ofChange fnIsEntityNameTypeJoinsSpec)

/-- ITS FALSE NEIGHBOUR: 'it returns false'. Refute it at one input. -/
def fnIsEntityNameTypeJoinsWrong : ChangeSpec := { name := "fnIsEntityNameTypeJoins", fn := fun _ => fun
  | [d1, d2, d3] => { results := [.lit (.bool false)], args := [d1, d2, d3] }
  | _ => none }
def FnIsEntityNameTypeJoinsWrongFalsely : Prop := fnIsEntityNameTypeJoinsRow.holds Try.pinned (OpenSpec.ofChange fnIsEntityNameTypeJoinsWrong)

end Rows
end Go.Proofs.Qxb6613381a
