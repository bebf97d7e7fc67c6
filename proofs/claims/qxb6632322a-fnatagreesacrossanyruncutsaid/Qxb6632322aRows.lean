/-
  No cell of these rows narrows 'for every input' (looked for: loops, veiled, ifaces, maps, wideKeys, modest, calm, conditions, laid).
  DERIVED. THE GIVEN ROWS OF THIS SEAT. 2 by the template 'for every input the law returns true; each argument reads behind the call as it read before'; 0 by the template 'total and deterministic' (their statements: Qxb6632322aTotals.lean).
  GIVEN WITH THE SEED: the statements are not yours to turn. If you find one false, say at which input.
  Laid BY PROGRAM, IN A SANDBOX (cutbox-rows.mjs): the forced cells as the released guide's own fill.sh prints them over the translation 7ad2a4326ba5e9da… (all of the seat's roots in one cut). By AI agents, Wed Nov 11 2026. No macro, syntax, notation, axiom, sorry.
-/
import Derived.Test.Qxb6632322aChecked
import GoSem.Claim
import GoSem.ClaimJoined
import GoSem.ClaimMapViews
import Derived.JoinedTies
import Derived.KernelRfl
namespace Go.Proofs.Qxb6632322a
/- THE CELL 'sum', in the pinned program and in every row, IS THE sha256 OF THE DUMP (.gsa) THAT Qxb6632322aProg.lean LOADS. Nothing in Lean hashes anything: it is a label: what it is worth is what the hold of that sum in a sandbox is worth. -/
noncomputable def Try.pinned : Pinned := { name := "qxb6632322a", sum := "7ad2a4326ba5e9dae8e81357e6ca86b46c277836d502da52ff214245a0706d46", checked := Try.checked }
namespace Rows
def none {H : Type} : Left H := { results := [], args := [] }

/-- 'zzlaws_device_b1.FnAtGivesBackEveryDevice': WHATEVER THE INPUT: true; the input reads as it did. -/
def fnAtGivesBackEveryDeviceSpec : ChangeSpec := { name := "fnAtGivesBackEveryDevice", fn := fun _ => fun
  | [d1, d2, d3, d4] => { results := [.lit (.bool true)], args := [d1, d2, d3, d4] }
  | _ => none }
def fnAtGivesBackEveryDeviceRow : OpenClaim := { program := "qxb6632322a", sum := "7ad2a4326ba5e9dae8e81357e6ca86b46c277836d502da52ff214245a0706d46", func := "example.com/corebind/corebind/zzlaws_device_b1.FnAtGivesBackEveryDevice", spec := "fnAtGivesBackEveryDevice", apart := false }
def FnAtGivesBackEveryDeviceSaid : Prop := fnAtGivesBackEveryDeviceRow.holds Try.pinned (OpenSpec.ofChange fnAtGivesBackEveryDeviceSpec)

/-- ITS FALSE NEIGHBOUR: 'it returns false'. Refute it at one input. -/
def fnAtGivesBackEveryDeviceWrong : ChangeSpec := { name := "fnAtGivesBackEveryDevice", fn := fun _ => fun
  | [d1, d2, d3, d4] => { results := [.lit (.bool false)], args := [d1, d2, d3, d4] }
  | _ => none }
def FnAtGivesBackEveryDeviceWrongFalsely : Prop := fnAtGivesBackEveryDeviceRow.holds Try.pinned (OpenSpec.ofChange fnAtGivesBackEveryDeviceWrong)

/-- 'zzlaws_device_b1.FnAtAgreesAcrossAnyRunCut': WHATEVER THE INPUT: true; the input reads as it did. -/
def fnAtAgreesAcrossAnyRunCutSpec : ChangeSpec := { name := "fnAtAgreesAcrossAnyRunCut", fn := fun _ => fun
  | [d1, d2, d3, d4, d5] => { results := [.lit (.bool true)], args := [d1, d2, d3, d4, d5] }
  | _ => none }
def fnAtAgreesAcrossAnyRunCutRow : OpenClaim := { program := "qxb6632322a", sum := "7ad2a4326ba5e9dae8e81357e6ca86b46c277836d502da52ff214245a0706d46", func := "example.com/corebind/corebind/zzlaws_device_b1.FnAtAgreesAcrossAnyRunCut", spec := "fnAtAgreesAcrossAnyRunCut", apart := false }
def FnAtAgreesAcrossAnyRunCutSaid : Prop := fnAtAgreesAcrossAnyRunCutRow.holds Try.pinned (OpenSpec.ofChange fnAtAgreesAcrossAnyRunCutSpec)

/-- ITS FALSE NEIGHBOUR: 'it returns false'. Refute it at one input. -/
def fnAtAgreesAcrossAnyRunCutWrong : ChangeSpec := { name := "fnAtAgreesAcrossAnyRunCut", fn := fun _ => fun
  | [d1, d2, d3, d4, d5] => { results := [.lit (.bool false)], args := [d1, d2, d3, d4, d5] }
  | _ => none }
def FnAtAgreesAcrossAnyRunCutWrongFalsely : Prop := fnAtAgreesAcrossAnyRunCutRow.holds Try.pinned (OpenSpec.ofChange fnAtAgreesAcrossAnyRunCutWrong)

end Rows
end Go.Proofs.Qxb6632322a
