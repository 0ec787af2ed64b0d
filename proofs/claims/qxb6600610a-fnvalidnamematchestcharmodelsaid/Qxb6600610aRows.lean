/-
  No cell of these rows narrows 'for every input' (looked for: loops, veiled, ifaces, maps, wideKeys, modest, calm, conditions, laid).
  DERIVED. THE GIVEN ROWS OF THIS SEAT. 3 by the template 'for every input the law returns true; each argument reads behind the call as it read before'; 0 by the template 'total and deterministic' (their statements: Qxb6600610aTotals.lean).
  GIVEN WITH THE SEED: the statements are not yours to turn. If you find one false, say at which input.
  Laid BY PROGRAM, IN A SANDBOX (cutbox-rows.mjs): the forced cells as the released guide's own fill.sh prints them over the translation cc1286e5869a41b9… (all of the seat's roots in one cut). By AI agents, Wed Nov 11 2026. No macro, syntax, notation, axiom, sorry.
-/
import Derived.Test.Qxb6600610aChecked
import GoSem.Claim
import GoSem.ClaimJoined
import GoSem.ClaimMapViews
import Derived.JoinedTies
import Derived.KernelRfl
namespace Go.Proofs.Qxb6600610a
/- THE CELL 'sum', in the pinned program and in every row, IS THE sha256 OF THE DUMP (.gsa) THAT Qxb6600610aProg.lean LOADS. Nothing in Lean hashes anything: it is a label: what it is worth is what the hold of that sum in a sandbox is worth. -/
noncomputable def Try.pinned : Pinned := { name := "qxb6600610a", sum := "cc1286e5869a41b92acff88b95542d56bbe4136be16e10117bd2cd9036eee2d3", checked := Try.checked }
namespace Rows
def none {H : Type} : Left H := { results := [], args := [] }

/-- 'zzlaws_pkg_oracle_b1.FnValidNameMatchesTcharModel': WHATEVER THE INPUT: true; the input reads as it did. -/
def fnValidNameMatchesTcharModelSpec : ChangeSpec := { name := "fnValidNameMatchesTcharModel", fn := fun _ => fun
  | [d] => { results := [.lit (.bool true)], args := [d] }
  | _ => none }
def fnValidNameMatchesTcharModelRow : OpenClaim := { program := "qxb6600610a", sum := "cc1286e5869a41b92acff88b95542d56bbe4136be16e10117bd2cd9036eee2d3", func := "example.com/tenjo/tenjo/zzlaws_pkg_oracle_b1.FnValidNameMatchesTcharModel", spec := "fnValidNameMatchesTcharModel", inPlace := ["internal/bytealg.IndexByteString", "internal/bytealg.IndexString"], unfollowed := true, recurses := true, named := ["internal/bytealg.MaxLen"], apart := false }
def FnValidNameMatchesTcharModelSaid : Prop := fnValidNameMatchesTcharModelRow.holds Try.pinned (OpenSpec.ofChange fnValidNameMatchesTcharModelSpec)

/-- ITS FALSE NEIGHBOUR: 'it returns false'. Refute it at one input. -/
def fnValidNameMatchesTcharModelWrong : ChangeSpec := { name := "fnValidNameMatchesTcharModel", fn := fun _ => fun
  | [d] => { results := [.lit (.bool false)], args := [d] }
  | _ => none }
def FnValidNameMatchesTcharModelWrongFalsely : Prop := fnValidNameMatchesTcharModelRow.holds Try.pinned (OpenSpec.ofChange fnValidNameMatchesTcharModelWrong)

/-- 'zzlaws_pkg_oracle_b1.FnValidNameConcat': WHATEVER THE INPUT: true; the input reads as it did. -/
def fnValidNameConcatSpec : ChangeSpec := { name := "fnValidNameConcat", fn := fun _ => fun
  | [d1, d2] => { results := [.lit (.bool true)], args := [d1, d2] }
  | _ => none }
def fnValidNameConcatRow : OpenClaim := { program := "qxb6600610a", sum := "cc1286e5869a41b92acff88b95542d56bbe4136be16e10117bd2cd9036eee2d3", func := "example.com/tenjo/tenjo/zzlaws_pkg_oracle_b1.FnValidNameConcat", spec := "fnValidNameConcat", inPlace := ["internal/bytealg.IndexByteString", "internal/bytealg.IndexString"], unfollowed := true, recurses := true, named := ["internal/bytealg.MaxLen"], apart := false }
def FnValidNameConcatSaid : Prop := fnValidNameConcatRow.holds Try.pinned (OpenSpec.ofChange fnValidNameConcatSpec)

/-- ITS FALSE NEIGHBOUR: 'it returns false'. Refute it at one input. -/
def fnValidNameConcatWrong : ChangeSpec := { name := "fnValidNameConcat", fn := fun _ => fun
  | [d1, d2] => { results := [.lit (.bool false)], args := [d1, d2] }
  | _ => none }
def FnValidNameConcatWrongFalsely : Prop := fnValidNameConcatRow.holds Try.pinned (OpenSpec.ofChange fnValidNameConcatWrong)

/-- 'zzlaws_pkg_oracle_b1.FnValidNameASCIICaseFree': WHATEVER THE INPUT: true; the input reads as it did. -/
def fnValidNameASCIICaseFreeSpec : ChangeSpec := { name := "fnValidNameASCIICaseFree", fn := fun _ => fun
  | [d] => { results := [.lit (.bool true)], args := [d] }
  | _ => none }
def fnValidNameASCIICaseFreeRow : OpenClaim := { program := "qxb6600610a", sum := "cc1286e5869a41b92acff88b95542d56bbe4136be16e10117bd2cd9036eee2d3", func := "example.com/tenjo/tenjo/zzlaws_pkg_oracle_b1.FnValidNameASCIICaseFree", spec := "fnValidNameASCIICaseFree", inPlace := ["internal/bytealg.IndexByteString", "internal/bytealg.IndexString"], unfollowed := true, recurses := true, named := ["internal/bytealg.MaxLen"], apart := false }
def FnValidNameASCIICaseFreeSaid : Prop := fnValidNameASCIICaseFreeRow.holds Try.pinned (OpenSpec.ofChange fnValidNameASCIICaseFreeSpec)

/-- ITS FALSE NEIGHBOUR: 'it returns false'. Refute it at one input. -/
def fnValidNameASCIICaseFreeWrong : ChangeSpec := { name := "fnValidNameASCIICaseFree", fn := fun _ => fun
  | [d] => { results := [.lit (.bool false)], args := [d] }
  | _ => none }
def FnValidNameASCIICaseFreeWrongFalsely : Prop := fnValidNameASCIICaseFreeRow.holds Try.pinned (OpenSpec.ofChange fnValidNameASCIICaseFreeWrong)

end Rows
end Go.Proofs.Qxb6600610a
