/-
  No cell of these rows narrows 'for every input' (looked for: loops, veiled, ifaces, maps, wideKeys, modest, calm, conditions, laid).
  DERIVED. THE GIVEN ROWS OF THIS SEAT. 2 by the template 'for every input the law returns true; each argument reads behind the call as it read before'; 0 by the template 'total and deterministic' (their statements: Qxb6631246aTotals.lean).
  GIVEN WITH THE SEED: the statements are not yours to turn. If you find one false, say at which input.
  Laid BY PROGRAM, IN A SANDBOX (cutbox-rows.mjs): the forced cells as the released guide's own fill.sh prints them over the translation e8e83e7a97af0e1e… (all of the seat's roots in one cut). By AI agents, Wed Nov 11 2026. No macro, syntax, notation, axiom, sorry.
-/
import Derived.Test.Qxb6631246aChecked
import GoSem.Claim
import GoSem.ClaimJoined
import GoSem.ClaimMapViews
import Derived.JoinedTies
import Derived.KernelRfl
namespace Go.Proofs.Qxb6631246a
/- THE CELL 'sum', in the pinned program and in every row, IS THE sha256 OF THE DUMP (.gsa) THAT Qxb6631246aProg.lean LOADS. Nothing in Lean hashes anything: it is a label: what it is worth is what the hold of that sum in a sandbox is worth. -/
noncomputable def Try.pinned : Pinned := { name := "qxb6631246a", sum := "e8e83e7a97af0e1efb555f1a0a407d3394d2bf1194a39fe72cab8b882930a7f6", checked := Try.checked }
namespace Rows
def none {H : Type} : Left H := { results := [], args := [] }

/-- 'zzlaws_internal_wire_b1.FnLatestSplitsAtAnyCut': WHATEVER THE INPUT: true; the input reads as it did. -/
def fnLatestSplitsAtAnyCutSpec : ChangeSpec := { name := "fnLatestSplitsAtAnyCut", fn := fun _ => fun
  | [d1, d2, d3, d4, d5] => { results := [.lit (.bool true)], args := [d1, d2, d3, d4, d5] }
  | _ => none }
def fnLatestSplitsAtAnyCutRow : OpenClaim := { program := "qxb6631246a", sum := "e8e83e7a97af0e1efb555f1a0a407d3394d2bf1194a39fe72cab8b882930a7f6", func := "example.com/sequorum/sequorum/zzlaws_internal_wire_b1.FnLatestSplitsAtAnyCut", spec := "fnLatestSplitsAtAnyCut", apart := false }
def FnLatestSplitsAtAnyCutSaid : Prop := fnLatestSplitsAtAnyCutRow.holds Try.pinned (OpenSpec.ofChange fnLatestSplitsAtAnyCutSpec)

/-- ITS FALSE NEIGHBOUR: 'it returns false'. Refute it at one input. -/
def fnLatestSplitsAtAnyCutWrong : ChangeSpec := { name := "fnLatestSplitsAtAnyCut", fn := fun _ => fun
  | [d1, d2, d3, d4, d5] => { results := [.lit (.bool false)], args := [d1, d2, d3, d4, d5] }
  | _ => none }
def FnLatestSplitsAtAnyCutWrongFalsely : Prop := fnLatestSplitsAtAnyCutRow.holds Try.pinned (OpenSpec.ofChange fnLatestSplitsAtAnyCutWrong)

/-- 'zzlaws_internal_wire_b1.FnLatestAfterReplacingOne': WHATEVER THE INPUT: true; the input reads as it did. -/
def fnLatestAfterReplacingOneSpec : ChangeSpec := { name := "fnLatestAfterReplacingOne", fn := fun _ => fun
  | [d1, d2, d3, d4, d5, d6] => { results := [.lit (.bool true)], args := [d1, d2, d3, d4, d5, d6] }
  | _ => none }
def fnLatestAfterReplacingOneRow : OpenClaim := { program := "qxb6631246a", sum := "e8e83e7a97af0e1efb555f1a0a407d3394d2bf1194a39fe72cab8b882930a7f6", func := "example.com/sequorum/sequorum/zzlaws_internal_wire_b1.FnLatestAfterReplacingOne", spec := "fnLatestAfterReplacingOne", apart := false }
def FnLatestAfterReplacingOneSaid : Prop := fnLatestAfterReplacingOneRow.holds Try.pinned (OpenSpec.ofChange fnLatestAfterReplacingOneSpec)

/-- ITS FALSE NEIGHBOUR: 'it returns false'. Refute it at one input. -/
def fnLatestAfterReplacingOneWrong : ChangeSpec := { name := "fnLatestAfterReplacingOne", fn := fun _ => fun
  | [d1, d2, d3, d4, d5, d6] => { results := [.lit (.bool false)], args := [d1, d2, d3, d4, d5, d6] }
  | _ => none }
def FnLatestAfterReplacingOneWrongFalsely : Prop := fnLatestAfterReplacingOneRow.holds Try.pinned (OpenSpec.ofChange fnLatestAfterReplacingOneWrong)

end Rows
end Go.Proofs.Qxb6631246a
