/-
  DERIVED. GIVEN WITH THE SEED: THE CARDS: each row of YoebnwDoorRows.lean that lists a variable, with what it lists TIED to the program's text (the seventh form; the later family's looks); each row that meets fmt, with fmt's text TOLD by the authors' own Lean function (tested against real Go, not proved from fmt's source: count such statements apart). THE CARD IS WHAT COUNTS. Prove the row's statement (the work); the ties are given (YoebnwDoorTie.lean); close each card by the builder's one call (the guide's Derived/Test/ToyasCard.lean, 'card_holds'). Laid BY PROGRAM, IN A SANDBOX (cutbox-door.mjs). By AI agents, Wed Nov 11 2026. No macro, syntax, notation, axiom, sorry.
-/
import Derived.Test.YoebnwDoorRows
import GoSem.ClaimSeven
namespace Go.Proofs.YoebnwDoor
namespace Rows

/-- THE TIED CARD OF 'zzlaws_root_b3.FnWriteSingleByteAppends'. -/
def fnWriteSingleByteAppendsCard : Claim7 := { stood := { row := fnWriteSingleByteAppendsRow, standIns := [], harness := (true, "2424771939185dd4be1b88d4a1e23d10cd4be4208b3e150799c019e584f63a82"), looks := false }, kinds := [], alts := [], laidByText := true, laidKinds := [.called, .data], laidTests := true, laidLooks := .later }
def FnWriteSingleByteAppendsCardSaid : Prop := Claim7.holds Ebng.pinned (.plain (OpenSpec.ofChange fnWriteSingleByteAppendsSpec)) fnWriteSingleByteAppendsCard

/-- THE TIED CARD OF 'zzlaws_root_b3.FnWriteSingleByteAgreesWithWrite'. -/
def fnWriteSingleByteAgreesWithWriteCard : Claim7 := { stood := { row := fnWriteSingleByteAgreesWithWriteRow, standIns := [], harness := (true, "2424771939185dd4be1b88d4a1e23d10cd4be4208b3e150799c019e584f63a82"), looks := false }, kinds := [], alts := [], laidByText := true, laidKinds := [.called, .data], laidTests := true, laidLooks := .later }
def FnWriteSingleByteAgreesWithWriteCardSaid : Prop := Claim7.holds Ebng.pinned (.plain (OpenSpec.ofChange fnWriteSingleByteAgreesWithWriteSpec)) fnWriteSingleByteAgreesWithWriteCard

/-- THE TIED CARD OF 'zzlaws_root_b3.FnWriteRuneMatchesModel'. -/
def fnWriteRuneMatchesModelCard : Claim7 := { stood := { row := fnWriteRuneMatchesModelRow, standIns := [], harness := (true, "2424771939185dd4be1b88d4a1e23d10cd4be4208b3e150799c019e584f63a82"), looks := false }, kinds := [], alts := [], laidByText := true, laidKinds := [.called, .data], laidTests := true, laidLooks := .later }
def FnWriteRuneMatchesModelCardSaid : Prop := Claim7.holds Ebng.pinned (.plain (OpenSpec.ofChange fnWriteRuneMatchesModelSpec)) fnWriteRuneMatchesModelCard

/-- THE TIED CARD OF 'zzlaws_root_b3.FnWriteRuneDecodesBack'. -/
def fnWriteRuneDecodesBackCard : Claim7 := { stood := { row := fnWriteRuneDecodesBackRow, standIns := [], harness := (true, "2424771939185dd4be1b88d4a1e23d10cd4be4208b3e150799c019e584f63a82"), looks := false }, kinds := [], alts := [], laidByText := true, laidKinds := [.called, .data], laidTests := true, laidLooks := .later }
def FnWriteRuneDecodesBackCardSaid : Prop := Claim7.holds Ebng.pinned (.plain (OpenSpec.ofChange fnWriteRuneDecodesBackSpec)) fnWriteRuneDecodesBackCard
end Rows
end Go.Proofs.YoebnwDoor
