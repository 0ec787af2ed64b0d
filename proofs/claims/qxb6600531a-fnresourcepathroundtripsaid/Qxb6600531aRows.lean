/-
  No cell of these rows narrows 'for every input' (looked for: loops, veiled, ifaces, maps, wideKeys, modest, calm, conditions, laid).
  DERIVED. THE GIVEN ROWS OF THIS SEAT. 2 by the template 'for every input the law returns true; each argument reads behind the call as it read before'; 0 by the template 'total and deterministic' (their statements: Qxb6600531aTotals.lean).
  GIVEN WITH THE SEED: the statements are not yours to turn. If you find one false, say at which input.
  Laid BY PROGRAM, IN A SANDBOX (cutbox-rows.mjs): the forced cells as the released guide's own fill.sh prints them over the translation fa6bed5847880c4e… (all of the seat's roots in one cut). By AI agents, Wed Nov 11 2026. No macro, syntax, notation, axiom, sorry.
-/
import Derived.Test.Qxb6600531aChecked
import GoSem.Claim
import GoSem.ClaimJoined
import GoSem.ClaimMapViews
import Derived.JoinedTies
import Derived.KernelRfl
namespace Go.Proofs.Qxb6600531a
/- THE CELL 'sum', in the pinned program and in every row, IS THE sha256 OF THE DUMP (.gsa) THAT Qxb6600531aProg.lean LOADS. Nothing in Lean hashes anything: it is a label: what it is worth is what the hold of that sum in a sandbox is worth. -/
noncomputable def Try.pinned : Pinned := { name := "qxb6600531a", sum := "fa6bed5847880c4e0b8bee061cf197439439edaf976cb71ca755a31ac1a2acf0", checked := Try.checked }
namespace Rows
def none {H : Type} : Left H := { results := [], args := [] }

/-- 'zzlaws_internal_request_b1.FnResourcePathRoundTrip': WHATEVER THE INPUT: true; the input reads as it did. -/
def fnResourcePathRoundTripSpec : ChangeSpec := { name := "fnResourcePathRoundTrip", fn := fun _ => fun
  | [d1, d2, d3, d4, d5, d6, d7] => { results := [.lit (.bool true)], args := [d1, d2, d3, d4, d5, d6, d7] }
  | _ => none }
def fnResourcePathRoundTripRow : OpenClaim := { program := "qxb6600531a", sum := "fa6bed5847880c4e0b8bee061cf197439439edaf976cb71ca755a31ac1a2acf0", func := "example.com/usher/usher/zzlaws_internal_request_b1.FnResourcePathRoundTrip", spec := "fnResourcePathRoundTrip", inPlace := ["internal/bytealg.IndexByteString", "internal/bytealg.IndexString"], named := ["internal/bytealg.MaxLen"], apart := false }
def FnResourcePathRoundTripSaid : Prop := fnResourcePathRoundTripRow.holds Try.pinned (OpenSpec.ofChange fnResourcePathRoundTripSpec)

/-- ITS FALSE NEIGHBOUR: 'it returns false'. Refute it at one input. -/
def fnResourcePathRoundTripWrong : ChangeSpec := { name := "fnResourcePathRoundTrip", fn := fun _ => fun
  | [d1, d2, d3, d4, d5, d6, d7] => { results := [.lit (.bool false)], args := [d1, d2, d3, d4, d5, d6, d7] }
  | _ => none }
def FnResourcePathRoundTripWrongFalsely : Prop := fnResourcePathRoundTripRow.holds Try.pinned (OpenSpec.ofChange fnResourcePathRoundTripWrong)

/-- 'zzlaws_internal_request_b1.FnResourcePathCoreAndGroupAgree': WHATEVER THE INPUT: true; the input reads as it did. -/
def fnResourcePathCoreAndGroupAgreeSpec : ChangeSpec := { name := "fnResourcePathCoreAndGroupAgree", fn := fun _ => fun
  | [d1, d2, d3] => { results := [.lit (.bool true)], args := [d1, d2, d3] }
  | _ => none }
def fnResourcePathCoreAndGroupAgreeRow : OpenClaim := { program := "qxb6600531a", sum := "fa6bed5847880c4e0b8bee061cf197439439edaf976cb71ca755a31ac1a2acf0", func := "example.com/usher/usher/zzlaws_internal_request_b1.FnResourcePathCoreAndGroupAgree", spec := "fnResourcePathCoreAndGroupAgree", inPlace := ["internal/bytealg.IndexByteString", "internal/bytealg.IndexString"], named := ["internal/bytealg.MaxLen"], apart := false }
def FnResourcePathCoreAndGroupAgreeSaid : Prop := fnResourcePathCoreAndGroupAgreeRow.holds Try.pinned (OpenSpec.ofChange fnResourcePathCoreAndGroupAgreeSpec)

/-- ITS FALSE NEIGHBOUR: 'it returns false'. Refute it at one input. -/
def fnResourcePathCoreAndGroupAgreeWrong : ChangeSpec := { name := "fnResourcePathCoreAndGroupAgree", fn := fun _ => fun
  | [d1, d2, d3] => { results := [.lit (.bool false)], args := [d1, d2, d3] }
  | _ => none }
def FnResourcePathCoreAndGroupAgreeWrongFalsely : Prop := fnResourcePathCoreAndGroupAgreeRow.holds Try.pinned (OpenSpec.ofChange fnResourcePathCoreAndGroupAgreeWrong)

end Rows
end Go.Proofs.Qxb6600531a
