/-
  DERIVED. GIVEN WITH THE SEED: THE CARDS: each row of Qxb6601408aDoorRows.lean that lists a variable, with what it lists TIED to the program's text (the seventh form; the later family's looks); each row that meets fmt, with fmt's text TOLD by the authors' own Lean function (tested against real Go, not proved from fmt's source: count such statements apart). THE CARD IS WHAT COUNTS. Prove the row's statement (the work); the ties are given (Qxb6601408aDoorTie.lean); close each card by the builder's one call (the guide's Derived/Test/ToyasCard.lean, 'card_holds'). Laid BY PROGRAM, IN A SANDBOX (cutbox-door.mjs). By AI agents, Wed Nov 11 2026. No macro, syntax, notation, axiom, sorry.
-/
import Derived.Test.Qxb6601408aDoorRows
import GoSem.ClaimSeven
namespace Go.Proofs.Qxb6601408aDoor
namespace Rows

/-- THE TIED CARD OF 'zzlaws_root_b1.FnUnescapeMountPathUndoesKernelEscape'. -/
def fnUnescapeMountPathUndoesKernelEscapeCard : Claim7 := { stood := { row := fnUnescapeMountPathUndoesKernelEscapeRow, standIns := [], harness := (true, "354231ec88bb699523f76277e231907172ad064b38e0701da55f391366b7aa09"), looks := true }, kinds := [], alts := [], laidByText := true, laidKinds := [.data, .data, .data, .sentinel, .sentinel], laidTests := true, laidLooks := .later }
def FnUnescapeMountPathUndoesKernelEscapeCardSaid : Prop := Claim7.holds Tryd.pinned (.plain (OpenSpec.ofChange fnUnescapeMountPathUndoesKernelEscapeSpec)) fnUnescapeMountPathUndoesKernelEscapeCard
end Rows
end Go.Proofs.Qxb6601408aDoor
