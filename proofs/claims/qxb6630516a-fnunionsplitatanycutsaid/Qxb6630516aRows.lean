/-
  No cell of these rows narrows 'for every input' (looked for: loops, veiled, ifaces, maps, wideKeys, modest, calm, conditions, laid).
  DERIVED. THE GIVEN ROWS OF THIS SEAT. 2 by the template 'for every input the law returns true; each argument reads behind the call as it read before'; 0 by the template 'total and deterministic' (their statements: Qxb6630516aTotals.lean).
  GIVEN WITH THE SEED: the statements are not yours to turn. If you find one false, say at which input.
  Laid BY PROGRAM, IN A SANDBOX (cutbox-rows.mjs): the forced cells as the released guide's own fill.sh prints them over the translation bbfe70c1a419ee22… (all of the seat's roots in one cut). By AI agents, Wed Nov 11 2026. No macro, syntax, notation, axiom, sorry.
-/
import Derived.Test.Qxb6630516aChecked
import GoSem.Claim
import GoSem.ClaimJoined
import GoSem.ClaimMapViews
import Derived.JoinedTies
import Derived.KernelRfl
namespace Go.Proofs.Qxb6630516a
/- THE CELL 'sum', in the pinned program and in every row, IS THE sha256 OF THE DUMP (.gsa) THAT Qxb6630516aProg.lean LOADS. Nothing in Lean hashes anything: it is a label: what it is worth is what the hold of that sum in a sandbox is worth. -/
noncomputable def Try.pinned : Pinned := { name := "qxb6630516a", sum := "bbfe70c1a419ee22b64d834cbf0bf81b8bbbe14d2c2d5463f77504cecc3de9cd", checked := Try.checked }
namespace Rows
def none {H : Type} : Left H := { results := [], args := [] }

/-- 'zzlaws_pkg_message_b1.FnUnionAssocCommutMembership': WHATEVER THE INPUT: true; the input reads as it did. -/
def fnUnionAssocCommutMembershipSpec : ChangeSpec := { name := "fnUnionAssocCommutMembership", fn := fun _ => fun
  | [d1, d2, d3] => { results := [.lit (.bool true)], args := [d1, d2, d3] }
  | _ => none }
def fnUnionAssocCommutMembershipRow : OpenClaim := { program := "qxb6630516a", sum := "bbfe70c1a419ee22b64d834cbf0bf81b8bbbe14d2c2d5463f77504cecc3de9cd", func := "example.com/pulsemesh/pulsemesh/zzlaws_pkg_message_b1.FnUnionAssocCommutMembership", spec := "fnUnionAssocCommutMembership", apart := false }
def FnUnionAssocCommutMembershipSaid : Prop := fnUnionAssocCommutMembershipRow.holds Try.pinned (OpenSpec.ofChange fnUnionAssocCommutMembershipSpec)

/-- ITS FALSE NEIGHBOUR: 'it returns false'. Refute it at one input. -/
def fnUnionAssocCommutMembershipWrong : ChangeSpec := { name := "fnUnionAssocCommutMembership", fn := fun _ => fun
  | [d1, d2, d3] => { results := [.lit (.bool false)], args := [d1, d2, d3] }
  | _ => none }
def FnUnionAssocCommutMembershipWrongFalsely : Prop := fnUnionAssocCommutMembershipRow.holds Try.pinned (OpenSpec.ofChange fnUnionAssocCommutMembershipWrong)

/-- 'zzlaws_pkg_message_b1.FnUnionSplitAtAnyCut': WHATEVER THE INPUT: true; the input reads as it did. -/
def fnUnionSplitAtAnyCutSpec : ChangeSpec := { name := "fnUnionSplitAtAnyCut", fn := fun _ => fun
  | [d1, d2, d3] => { results := [.lit (.bool true)], args := [d1, d2, d3] }
  | _ => none }
def fnUnionSplitAtAnyCutRow : OpenClaim := { program := "qxb6630516a", sum := "bbfe70c1a419ee22b64d834cbf0bf81b8bbbe14d2c2d5463f77504cecc3de9cd", func := "example.com/pulsemesh/pulsemesh/zzlaws_pkg_message_b1.FnUnionSplitAtAnyCut", spec := "fnUnionSplitAtAnyCut", apart := false }
def FnUnionSplitAtAnyCutSaid : Prop := fnUnionSplitAtAnyCutRow.holds Try.pinned (OpenSpec.ofChange fnUnionSplitAtAnyCutSpec)

/-- ITS FALSE NEIGHBOUR: 'it returns false'. Refute it at one input. -/
def fnUnionSplitAtAnyCutWrong : ChangeSpec := { name := "fnUnionSplitAtAnyCut", fn := fun _ => fun
  | [d1, d2, d3] => { results := [.lit (.bool false)], args := [d1, d2, d3] }
  | _ => none }
def FnUnionSplitAtAnyCutWrongFalsely : Prop := fnUnionSplitAtAnyCutRow.holds Try.pinned (OpenSpec.ofChange fnUnionSplitAtAnyCutWrong)

end Rows
end Go.Proofs.Qxb6630516a
