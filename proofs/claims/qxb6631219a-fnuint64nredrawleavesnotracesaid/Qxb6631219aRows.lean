/-
  No cell of these rows narrows 'for every input' (looked for: loops, veiled, ifaces, maps, wideKeys, modest, calm, conditions, laid).
  DERIVED. THE GIVEN ROWS OF THIS SEAT. 2 by the template 'for every input the law returns true; each argument reads behind the call as it read before'; 0 by the template 'total and deterministic' (their statements: Qxb6631219aTotals.lean).
  GIVEN WITH THE SEED: the statements are not yours to turn. If you find one false, say at which input.
  Laid BY PROGRAM, IN A SANDBOX (cutbox-rows.mjs): the forced cells as the released guide's own fill.sh prints them over the translation 22cfe556d5ac957c… (all of the seat's roots in one cut). By AI agents, Wed Nov 11 2026. No macro, syntax, notation, axiom, sorry.
-/
import Derived.Test.Qxb6631219aChecked
import GoSem.Claim
import GoSem.ClaimJoined
import GoSem.ClaimMapViews
import Derived.JoinedTies
import Derived.KernelRfl
namespace Go.Proofs.Qxb6631219a
/- THE CELL 'sum', in the pinned program and in every row, IS THE sha256 OF THE DUMP (.gsa) THAT Qxb6631219aProg.lean LOADS. Nothing in Lean hashes anything: it is a label: what it is worth is what the hold of that sum in a sandbox is worth. -/
noncomputable def Try.pinned : Pinned := { name := "qxb6631219a", sum := "22cfe556d5ac957cfdaa5338405d8ed3e5bcf8436de563463acda6dfde3e715e", checked := Try.checked }
namespace Rows
def none {H : Type} : Left H := { results := [], args := [] }

/-- 'zzlaws_random_b1.FnUint64NIsFirstWholeBlockDraw': WHATEVER THE INPUT: true; the input reads as it did. -/
def fnUint64NIsFirstWholeBlockDrawSpec : ChangeSpec := { name := "fnUint64NIsFirstWholeBlockDraw", fn := fun _ => fun
  | [d1, d2, d3] => { results := [.lit (.bool true)], args := [d1, d2, d3] }
  | _ => none }
def fnUint64NIsFirstWholeBlockDrawRow : OpenClaim := { program := "qxb6631219a", sum := "22cfe556d5ac957cfdaa5338405d8ed3e5bcf8436de563463acda6dfde3e715e", func := "example.com/tasksack/tasksack/zzlaws_random_b1.FnUint64NIsFirstWholeBlockDraw", spec := "fnUint64NIsFirstWholeBlockDraw", inPlace := ["math/bits.Add64"], apart := false }
def FnUint64NIsFirstWholeBlockDrawSaid : Prop := fnUint64NIsFirstWholeBlockDrawRow.holds Try.pinned (OpenSpec.ofChange fnUint64NIsFirstWholeBlockDrawSpec)

/-- ITS FALSE NEIGHBOUR: 'it returns false'. Refute it at one input. -/
def fnUint64NIsFirstWholeBlockDrawWrong : ChangeSpec := { name := "fnUint64NIsFirstWholeBlockDraw", fn := fun _ => fun
  | [d1, d2, d3] => { results := [.lit (.bool false)], args := [d1, d2, d3] }
  | _ => none }
def FnUint64NIsFirstWholeBlockDrawWrongFalsely : Prop := fnUint64NIsFirstWholeBlockDrawRow.holds Try.pinned (OpenSpec.ofChange fnUint64NIsFirstWholeBlockDrawWrong)

/-- 'zzlaws_random_b1.FnUint64NRedrawLeavesNoTrace': WHATEVER THE INPUT: true; the input reads as it did. -/
def fnUint64NRedrawLeavesNoTraceSpec : ChangeSpec := { name := "fnUint64NRedrawLeavesNoTrace", fn := fun _ => fun
  | [d1, d2, d3] => { results := [.lit (.bool true)], args := [d1, d2, d3] }
  | _ => none }
def fnUint64NRedrawLeavesNoTraceRow : OpenClaim := { program := "qxb6631219a", sum := "22cfe556d5ac957cfdaa5338405d8ed3e5bcf8436de563463acda6dfde3e715e", func := "example.com/tasksack/tasksack/zzlaws_random_b1.FnUint64NRedrawLeavesNoTrace", spec := "fnUint64NRedrawLeavesNoTrace", inPlace := ["math/bits.Add64"], apart := false }
def FnUint64NRedrawLeavesNoTraceSaid : Prop := fnUint64NRedrawLeavesNoTraceRow.holds Try.pinned (OpenSpec.ofChange fnUint64NRedrawLeavesNoTraceSpec)

/-- ITS FALSE NEIGHBOUR: 'it returns false'. Refute it at one input. -/
def fnUint64NRedrawLeavesNoTraceWrong : ChangeSpec := { name := "fnUint64NRedrawLeavesNoTrace", fn := fun _ => fun
  | [d1, d2, d3] => { results := [.lit (.bool false)], args := [d1, d2, d3] }
  | _ => none }
def FnUint64NRedrawLeavesNoTraceWrongFalsely : Prop := fnUint64NRedrawLeavesNoTraceRow.holds Try.pinned (OpenSpec.ofChange fnUint64NRedrawLeavesNoTraceWrong)

end Rows
end Go.Proofs.Qxb6631219a
