/-
  No cell of these rows narrows 'for every input' (looked for: loops, veiled, ifaces, maps, wideKeys, modest, calm, conditions, laid).
  DERIVED. THE GIVEN ROWS OF THIS SEAT. 2 by the template 'for every input the law returns true; each argument reads behind the call as it read before'; 0 by the template 'total and deterministic' (their statements: Qxb6632356aTotals.lean).
  GIVEN WITH THE SEED: the statements are not yours to turn. If you find one false, say at which input.
  Laid BY PROGRAM, IN A SANDBOX (cutbox-rows.mjs): the forced cells as the released guide's own fill.sh prints them over the translation 4ab69dc673524212… (all of the seat's roots in one cut). By AI agents, Wed Nov 11 2026. No macro, syntax, notation, axiom, sorry.
-/
import Derived.Test.Qxb6632356aChecked
import GoSem.Claim
import GoSem.ClaimJoined
import GoSem.ClaimMapViews
import Derived.JoinedTies
import Derived.KernelRfl
namespace Go.Proofs.Qxb6632356a
/- THE CELL 'sum', in the pinned program and in every row, IS THE sha256 OF THE DUMP (.gsa) THAT Qxb6632356aProg.lean LOADS. Nothing in Lean hashes anything: it is a label: what it is worth is what the hold of that sum in a sandbox is worth. -/
noncomputable def Try.pinned : Pinned := { name := "qxb6632356a", sum := "4ab69dc6735242125285bd2c54b25fe4369f2f99bab70a6904491e90facc1560", checked := Try.checked }
namespace Rows
def none {H : Type} : Left H := { results := [], args := [] }

/-- 'zzlaws_root_b1.FnTakeSplitCostAtOneInstant': WHATEVER THE INPUT: true; the input reads as it did. -/
def fnTakeSplitCostAtOneInstantSpec : ChangeSpec := { name := "fnTakeSplitCostAtOneInstant", fn := fun _ => fun
  | [d1, d2, d3, d4, d5, d6, d7, d8, d9] => { results := [.lit (.bool true)], args := [d1, d2, d3, d4, d5, d6, d7, d8, d9] }
  | _ => none }
def fnTakeSplitCostAtOneInstantRow : OpenClaim := { program := "qxb6632356a", sum := "4ab69dc6735242125285bd2c54b25fe4369f2f99bab70a6904491e90facc1560", func := "example.com/sluicegate/sluicegate/zzlaws_root_b1.FnTakeSplitCostAtOneInstant", spec := "fnTakeSplitCostAtOneInstant", apart := false }
def FnTakeSplitCostAtOneInstantSaid : Prop := fnTakeSplitCostAtOneInstantRow.holds Try.pinned (OpenSpec.ofChange fnTakeSplitCostAtOneInstantSpec)

/-- ITS FALSE NEIGHBOUR: 'it returns false'. Refute it at one input. -/
def fnTakeSplitCostAtOneInstantWrong : ChangeSpec := { name := "fnTakeSplitCostAtOneInstant", fn := fun _ => fun
  | [d1, d2, d3, d4, d5, d6, d7, d8, d9] => { results := [.lit (.bool false)], args := [d1, d2, d3, d4, d5, d6, d7, d8, d9] }
  | _ => none }
def FnTakeSplitCostAtOneInstantWrongFalsely : Prop := fnTakeSplitCostAtOneInstantRow.holds Try.pinned (OpenSpec.ofChange fnTakeSplitCostAtOneInstantWrong)

/-- 'zzlaws_root_b1.FnTakeRefusalLeavesNoTrace': WHATEVER THE INPUT: true; the input reads as it did. -/
def fnTakeRefusalLeavesNoTraceSpec : ChangeSpec := { name := "fnTakeRefusalLeavesNoTrace", fn := fun _ => fun
  | [d1, d2, d3, d4, d5, d6, d7, d8, d9, d10, d11] => { results := [.lit (.bool true)], args := [d1, d2, d3, d4, d5, d6, d7, d8, d9, d10, d11] }
  | _ => none }
def fnTakeRefusalLeavesNoTraceRow : OpenClaim := { program := "qxb6632356a", sum := "4ab69dc6735242125285bd2c54b25fe4369f2f99bab70a6904491e90facc1560", func := "example.com/sluicegate/sluicegate/zzlaws_root_b1.FnTakeRefusalLeavesNoTrace", spec := "fnTakeRefusalLeavesNoTrace", apart := false }
def FnTakeRefusalLeavesNoTraceSaid : Prop := fnTakeRefusalLeavesNoTraceRow.holds Try.pinned (OpenSpec.ofChange fnTakeRefusalLeavesNoTraceSpec)

/-- ITS FALSE NEIGHBOUR: 'it returns false'. Refute it at one input. -/
def fnTakeRefusalLeavesNoTraceWrong : ChangeSpec := { name := "fnTakeRefusalLeavesNoTrace", fn := fun _ => fun
  | [d1, d2, d3, d4, d5, d6, d7, d8, d9, d10, d11] => { results := [.lit (.bool false)], args := [d1, d2, d3, d4, d5, d6, d7, d8, d9, d10, d11] }
  | _ => none }
def FnTakeRefusalLeavesNoTraceWrongFalsely : Prop := fnTakeRefusalLeavesNoTraceRow.holds Try.pinned (OpenSpec.ofChange fnTakeRefusalLeavesNoTraceWrong)

end Rows
end Go.Proofs.Qxb6632356a
