/-
  No cell of these rows narrows 'for every input' (looked for: loops, veiled, ifaces, maps, wideKeys, modest, calm, conditions, laid).
  DERIVED. THE GIVEN ROWS OF THIS SEAT. 3 by the template 'for every input the law returns true; each argument reads behind the call as it read before'; 0 by the template 'total and deterministic' (their statements: Qxb6600537aTotals.lean).
  GIVEN WITH THE SEED: the statements are not yours to turn. If you find one false, say at which input.
  Laid BY PROGRAM, IN A SANDBOX (cutbox-rows.mjs): the forced cells as the released guide's own fill.sh prints them over the translation 6d2698bfe385b81a… (all of the seat's roots in one cut). By AI agents, Wed Nov 11 2026. No macro, syntax, notation, axiom, sorry.
-/
import Derived.Test.Qxb6600537aChecked
import GoSem.Claim
import GoSem.ClaimJoined
import GoSem.ClaimMapViews
import Derived.JoinedTies
import Derived.KernelRfl
namespace Go.Proofs.Qxb6600537a
/- THE CELL 'sum', in the pinned program and in every row, IS THE sha256 OF THE DUMP (.gsa) THAT Qxb6600537aProg.lean LOADS. Nothing in Lean hashes anything: it is a label: what it is worth is what the hold of that sum in a sandbox is worth. -/
noncomputable def Try.pinned : Pinned := { name := "qxb6600537a", sum := "6d2698bfe385b81aa88c0c8046d1fbaf75878dbda105e980516e8e040e444567", checked := Try.checked }
namespace Rows
def none {H : Type} : Left H := { results := [], args := [] }

/-- 'zzlaws_httpapi_b1.FnPlainStringExact': WHATEVER THE INPUT: true; the input reads as it did. -/
def fnPlainStringExactSpec : ChangeSpec := { name := "fnPlainStringExact", fn := fun _ => fun
  | [d1, d2] => { results := [.lit (.bool true)], args := [d1, d2] }
  | _ => none }
def fnPlainStringExactRow : OpenClaim := { program := "qxb6600537a", sum := "6d2698bfe385b81aa88c0c8046d1fbaf75878dbda105e980516e8e040e444567", func := "example.com/lockstep/lockstep/zzlaws_httpapi_b1.FnPlainStringExact", spec := "fnPlainStringExact", inPlace := ["internal/bytealg.IndexByte"], apart := false }
def FnPlainStringExactSaid : Prop := fnPlainStringExactRow.holds Try.pinned (OpenSpec.ofChange fnPlainStringExactSpec)

/-- ITS FALSE NEIGHBOUR: 'it returns false'. Refute it at one input. -/
def fnPlainStringExactWrong : ChangeSpec := { name := "fnPlainStringExact", fn := fun _ => fun
  | [d1, d2] => { results := [.lit (.bool false)], args := [d1, d2] }
  | _ => none }
def FnPlainStringExactWrongFalsely : Prop := fnPlainStringExactRow.holds Try.pinned (OpenSpec.ofChange fnPlainStringExactWrong)

/-- 'zzlaws_httpapi_b1.FnPlainStringReadsBackQuotedText': WHATEVER THE INPUT: true; the input reads as it did. -/
def fnPlainStringReadsBackQuotedTextSpec : ChangeSpec := { name := "fnPlainStringReadsBackQuotedText", fn := fun _ => fun
  | [d1, d2, d3] => { results := [.lit (.bool true)], args := [d1, d2, d3] }
  | _ => none }
def fnPlainStringReadsBackQuotedTextRow : OpenClaim := { program := "qxb6600537a", sum := "6d2698bfe385b81aa88c0c8046d1fbaf75878dbda105e980516e8e040e444567", func := "example.com/lockstep/lockstep/zzlaws_httpapi_b1.FnPlainStringReadsBackQuotedText", spec := "fnPlainStringReadsBackQuotedText", inPlace := ["internal/bytealg.IndexByte"], apart := false }
def FnPlainStringReadsBackQuotedTextSaid : Prop := fnPlainStringReadsBackQuotedTextRow.holds Try.pinned (OpenSpec.ofChange fnPlainStringReadsBackQuotedTextSpec)

/-- ITS FALSE NEIGHBOUR: 'it returns false'. Refute it at one input. -/
def fnPlainStringReadsBackQuotedTextWrong : ChangeSpec := { name := "fnPlainStringReadsBackQuotedText", fn := fun _ => fun
  | [d1, d2, d3] => { results := [.lit (.bool false)], args := [d1, d2, d3] }
  | _ => none }
def FnPlainStringReadsBackQuotedTextWrongFalsely : Prop := fnPlainStringReadsBackQuotedTextRow.holds Try.pinned (OpenSpec.ofChange fnPlainStringReadsBackQuotedTextWrong)

/-- 'zzlaws_httpapi_b1.FnTakeScriptFollowsCommonPrefix': WHATEVER THE INPUT: true; the input reads as it did. -/
def fnTakeScriptFollowsCommonPrefixSpec : ChangeSpec := { name := "fnTakeScriptFollowsCommonPrefix", fn := fun _ => fun
  | [d1, d2, d3] => { results := [.lit (.bool true)], args := [d1, d2, d3] }
  | _ => none }
def fnTakeScriptFollowsCommonPrefixRow : OpenClaim := { program := "qxb6600537a", sum := "6d2698bfe385b81aa88c0c8046d1fbaf75878dbda105e980516e8e040e444567", func := "example.com/lockstep/lockstep/zzlaws_httpapi_b1.FnTakeScriptFollowsCommonPrefix", spec := "fnTakeScriptFollowsCommonPrefix", apart := false }
def FnTakeScriptFollowsCommonPrefixSaid : Prop := fnTakeScriptFollowsCommonPrefixRow.holds Try.pinned (OpenSpec.ofChange fnTakeScriptFollowsCommonPrefixSpec)

/-- ITS FALSE NEIGHBOUR: 'it returns false'. Refute it at one input. -/
def fnTakeScriptFollowsCommonPrefixWrong : ChangeSpec := { name := "fnTakeScriptFollowsCommonPrefix", fn := fun _ => fun
  | [d1, d2, d3] => { results := [.lit (.bool false)], args := [d1, d2, d3] }
  | _ => none }
def FnTakeScriptFollowsCommonPrefixWrongFalsely : Prop := fnTakeScriptFollowsCommonPrefixRow.holds Try.pinned (OpenSpec.ofChange fnTakeScriptFollowsCommonPrefixWrong)

end Rows
end Go.Proofs.Qxb6600537a
