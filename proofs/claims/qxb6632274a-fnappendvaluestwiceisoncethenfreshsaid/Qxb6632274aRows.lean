/-
  No cell of these rows narrows 'for every input' (looked for: loops, veiled, ifaces, maps, wideKeys, modest, calm, conditions, laid).
  DERIVED. THE GIVEN ROWS OF THIS SEAT. 2 by the template 'for every input the law returns true; each argument reads behind the call as it read before'; 0 by the template 'total and deterministic' (their statements: Qxb6632274aTotals.lean).
  GIVEN WITH THE SEED: the statements are not yours to turn. If you find one false, say at which input.
  Laid BY PROGRAM, IN A SANDBOX (cutbox-rows.mjs): the forced cells as the released guide's own fill.sh prints them over the translation 89ac25a889d9d1ac… (all of the seat's roots in one cut). By AI agents, Wed Nov 11 2026. No macro, syntax, notation, axiom, sorry.
-/
import Derived.Test.Qxb6632274aChecked
import GoSem.Claim
import GoSem.ClaimJoined
import GoSem.ClaimMapViews
import Derived.JoinedTies
import Derived.KernelRfl
namespace Go.Proofs.Qxb6632274a
/- THE CELL 'sum', in the pinned program and in every row, IS THE sha256 OF THE DUMP (.gsa) THAT Qxb6632274aProg.lean LOADS. Nothing in Lean hashes anything: it is a label: what it is worth is what the hold of that sum in a sandbox is worth. -/
noncomputable def Try.pinned : Pinned := { name := "qxb6632274a", sum := "89ac25a889d9d1ac25507b4cba36fa7a7e4fc265db39f746d1e0de6e0cf4acc1", checked := Try.checked }
namespace Rows
def none {H : Type} : Left H := { results := [], args := [] }

/-- 'zzlaws_internal_workload_b1.FnAppendValuesSplitsAtAnyCut': WHATEVER THE INPUT: true; the input reads as it did. -/
def fnAppendValuesSplitsAtAnyCutSpec : ChangeSpec := { name := "fnAppendValuesSplitsAtAnyCut", fn := fun _ => fun
  | [d1, d2] => { results := [.lit (.bool true)], args := [d1, d2] }
  | _ => none }
def fnAppendValuesSplitsAtAnyCutRow : OpenClaim := { program := "qxb6632274a", sum := "89ac25a889d9d1ac25507b4cba36fa7a7e4fc265db39f746d1e0de6e0cf4acc1", func := "example.com/tidework/tidework/zzlaws_internal_workload_b1.FnAppendValuesSplitsAtAnyCut", spec := "fnAppendValuesSplitsAtAnyCut", apart := false }
def FnAppendValuesSplitsAtAnyCutSaid : Prop := fnAppendValuesSplitsAtAnyCutRow.holds Try.pinned (OpenSpec.ofChange fnAppendValuesSplitsAtAnyCutSpec)

/-- ITS FALSE NEIGHBOUR: 'it returns false'. Refute it at one input. -/
def fnAppendValuesSplitsAtAnyCutWrong : ChangeSpec := { name := "fnAppendValuesSplitsAtAnyCut", fn := fun _ => fun
  | [d1, d2] => { results := [.lit (.bool false)], args := [d1, d2] }
  | _ => none }
def FnAppendValuesSplitsAtAnyCutWrongFalsely : Prop := fnAppendValuesSplitsAtAnyCutRow.holds Try.pinned (OpenSpec.ofChange fnAppendValuesSplitsAtAnyCutWrong)

/-- 'zzlaws_internal_workload_b1.FnAppendValuesTwiceIsOnceThenFresh': WHATEVER THE INPUT: true; the input reads as it did. -/
def fnAppendValuesTwiceIsOnceThenFreshSpec : ChangeSpec := { name := "fnAppendValuesTwiceIsOnceThenFresh", fn := fun _ => fun
  | [d] => { results := [.lit (.bool true)], args := [d] }
  | _ => none }
def fnAppendValuesTwiceIsOnceThenFreshRow : OpenClaim := { program := "qxb6632274a", sum := "89ac25a889d9d1ac25507b4cba36fa7a7e4fc265db39f746d1e0de6e0cf4acc1", func := "example.com/tidework/tidework/zzlaws_internal_workload_b1.FnAppendValuesTwiceIsOnceThenFresh", spec := "fnAppendValuesTwiceIsOnceThenFresh", apart := false }
def FnAppendValuesTwiceIsOnceThenFreshSaid : Prop := fnAppendValuesTwiceIsOnceThenFreshRow.holds Try.pinned (OpenSpec.ofChange fnAppendValuesTwiceIsOnceThenFreshSpec)

/-- ITS FALSE NEIGHBOUR: 'it returns false'. Refute it at one input. -/
def fnAppendValuesTwiceIsOnceThenFreshWrong : ChangeSpec := { name := "fnAppendValuesTwiceIsOnceThenFresh", fn := fun _ => fun
  | [d] => { results := [.lit (.bool false)], args := [d] }
  | _ => none }
def FnAppendValuesTwiceIsOnceThenFreshWrongFalsely : Prop := fnAppendValuesTwiceIsOnceThenFreshRow.holds Try.pinned (OpenSpec.ofChange fnAppendValuesTwiceIsOnceThenFreshWrong)

end Rows
end Go.Proofs.Qxb6632274a
