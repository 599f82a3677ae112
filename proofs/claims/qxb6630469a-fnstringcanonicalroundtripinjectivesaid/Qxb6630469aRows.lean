/-
  No cell of these rows narrows 'for every input' (looked for: loops, veiled, ifaces, maps, wideKeys, modest, calm, conditions, laid).
  DERIVED. THE GIVEN ROWS OF THIS SEAT. 2 by the template 'for every input the law returns true; each argument reads behind the call as it read before'; 0 by the template 'total and deterministic' (their statements: Qxb6630469aTotals.lean).
  GIVEN WITH THE SEED: the statements are not yours to turn. If you find one false, say at which input.
  Laid BY PROGRAM, IN A SANDBOX (cutbox-rows.mjs): the forced cells as the released guide's own fill.sh prints them over the translation 450bfaf255425458… (all of the seat's roots in one cut). By AI agents, Wed Nov 11 2026. No macro, syntax, notation, axiom, sorry.
-/
import Derived.Test.Qxb6630469aChecked
import GoSem.Claim
import GoSem.ClaimJoined
import GoSem.ClaimMapViews
import Derived.JoinedTies
import Derived.KernelRfl
namespace Go.Proofs.Qxb6630469a
/- THE CELL 'sum', in the pinned program and in every row, IS THE sha256 OF THE DUMP (.gsa) THAT Qxb6630469aProg.lean LOADS. Nothing in Lean hashes anything: it is a label: what it is worth is what the hold of that sum in a sandbox is worth. -/
noncomputable def Try.pinned : Pinned := { name := "qxb6630469a", sum := "450bfaf2554254586c5517e9bd3d1f8e309c1d64d6ec6a69761e15b47ed9154a", checked := Try.checked }
namespace Rows
def none {H : Type} : Left H := { results := [], args := [] }

/-- 'zzlaws_pkg_uuid_b1.FnStringCanonicalRoundTripInjective': WHATEVER THE INPUT: true; the input reads as it did. -/
def fnStringCanonicalRoundTripInjectiveSpec : ChangeSpec := { name := "fnStringCanonicalRoundTripInjective", fn := fun _ => fun
  | [d1, d2] => { results := [.lit (.bool true)], args := [d1, d2] }
  | _ => none }
def fnStringCanonicalRoundTripInjectiveRow : OpenClaim := { program := "qxb6630469a", sum := "450bfaf2554254586c5517e9bd3d1f8e309c1d64d6ec6a69761e15b47ed9154a", func := "example.com/palisade/palisade/zzlaws_pkg_uuid_b1.FnStringCanonicalRoundTripInjective", spec := "fnStringCanonicalRoundTripInjective", inPlace := ["internal/abi.NoEscape"], apart := false }
def FnStringCanonicalRoundTripInjectiveSaid : Prop := fnStringCanonicalRoundTripInjectiveRow.holds Try.pinned (OpenSpec.ofChange fnStringCanonicalRoundTripInjectiveSpec)

/-- ITS FALSE NEIGHBOUR: 'it returns false'. Refute it at one input. -/
def fnStringCanonicalRoundTripInjectiveWrong : ChangeSpec := { name := "fnStringCanonicalRoundTripInjective", fn := fun _ => fun
  | [d1, d2] => { results := [.lit (.bool false)], args := [d1, d2] }
  | _ => none }
def FnStringCanonicalRoundTripInjectiveWrongFalsely : Prop := fnStringCanonicalRoundTripInjectiveRow.holds Try.pinned (OpenSpec.ofChange fnStringCanonicalRoundTripInjectiveWrong)

/-- 'zzlaws_pkg_uuid_b1.FnStringOneByteChangeStaysInItsSlot': WHATEVER THE INPUT: true; the input reads as it did. -/
def fnStringOneByteChangeStaysInItsSlotSpec : ChangeSpec := { name := "fnStringOneByteChangeStaysInItsSlot", fn := fun _ => fun
  | [d1, d2, d3] => { results := [.lit (.bool true)], args := [d1, d2, d3] }
  | _ => none }
def fnStringOneByteChangeStaysInItsSlotRow : OpenClaim := { program := "qxb6630469a", sum := "450bfaf2554254586c5517e9bd3d1f8e309c1d64d6ec6a69761e15b47ed9154a", func := "example.com/palisade/palisade/zzlaws_pkg_uuid_b1.FnStringOneByteChangeStaysInItsSlot", spec := "fnStringOneByteChangeStaysInItsSlot", inPlace := ["internal/abi.NoEscape"], apart := false }
def FnStringOneByteChangeStaysInItsSlotSaid : Prop := fnStringOneByteChangeStaysInItsSlotRow.holds Try.pinned (OpenSpec.ofChange fnStringOneByteChangeStaysInItsSlotSpec)

/-- ITS FALSE NEIGHBOUR: 'it returns false'. Refute it at one input. -/
def fnStringOneByteChangeStaysInItsSlotWrong : ChangeSpec := { name := "fnStringOneByteChangeStaysInItsSlot", fn := fun _ => fun
  | [d1, d2, d3] => { results := [.lit (.bool false)], args := [d1, d2, d3] }
  | _ => none }
def FnStringOneByteChangeStaysInItsSlotWrongFalsely : Prop := fnStringOneByteChangeStaysInItsSlotRow.holds Try.pinned (OpenSpec.ofChange fnStringOneByteChangeStaysInItsSlotWrong)

end Rows
end Go.Proofs.Qxb6630469a
