/-
  DERIVED. GIVEN WITH THE SEED: THE PROGRAM's TIES (one call each: nine closed facts by the kernel) AND EACH ROW's TIE, after the 31st guide's Derived/Test/Toyas{Tie, Card}.lean. No idea stands in it: it is a product of the set-up. Laid BY PROGRAM, IN A SANDBOX (cutbox-door.mjs). By AI agents, Wed Nov 11 2026. No macro, syntax, notation, axiom, sorry.
-/
import Derived.Test.YoebnwDoorRows
import Derived.LaidByTextLater
import Derived.SevenTiedAt
import Derived.LaidSub
import Derived.LaidOnce
namespace Go.Proofs.YoebnwDoor
open Go
set_option maxRecDepth 100000
theorem seatTie1 : Ebng.prog.laidByTextLater [("github.com/d5/tengo/v2.ErrStringLimit", Rows.laid_github_com_d5_tengo_v2_ErrStringLimit), ("github.com/d5/tengo/v2.MaxStringLen", Rows.laid_github_com_d5_tengo_v2_MaxStringLen)] [.called, .data] true :=
  Program.laidByTextLater_by_one 32 8 2 (by kernel_rfl) (by kernel_rfl) (by kernel_rfl) (by kernel_rfl) (by kernel_rfl) (by kernel_rfl) (fun _ _ => by kernel_rfl)
theorem noOwnUnsafe : Ebng.pinned.checked.prog.headLifts.contains "ownunsafe" = false := by kernel_rfl
theorem tie : Ebng.prog.laidByTextLater [("github.com/d5/tengo/v2.ErrStringLimit", Rows.laid_github_com_d5_tengo_v2_ErrStringLimit), ("github.com/d5/tengo/v2.MaxStringLen", Rows.laid_github_com_d5_tengo_v2_MaxStringLen)] [.called, .data] true :=
  Program.laidByTextLater.sub seatTie1 ["github.com/d5/tengo/v2.ErrStringLimit", "github.com/d5/tengo/v2.MaxStringLen"] (by kernel_rfl) (by kernel_rfl)
theorem fnWriteSingleByteAppends_row_tie : Rows.fnWriteSingleByteAppendsRow.laidByTextAt .later Ebng.pinned [.called, .data] true :=
  OpenClaim.laidByTextAt_later rfl rfl tie noOwnUnsafe
theorem fnWriteSingleByteAgreesWithWrite_row_tie : Rows.fnWriteSingleByteAgreesWithWriteRow.laidByTextAt .later Ebng.pinned [.called, .data] true :=
  OpenClaim.laidByTextAt_later rfl rfl tie noOwnUnsafe
theorem fnWriteRuneMatchesModel_row_tie : Rows.fnWriteRuneMatchesModelRow.laidByTextAt .later Ebng.pinned [.called, .data] true :=
  OpenClaim.laidByTextAt_later rfl rfl tie noOwnUnsafe
theorem fnWriteRuneDecodesBack_row_tie : Rows.fnWriteRuneDecodesBackRow.laidByTextAt .later Ebng.pinned [.called, .data] true :=
  OpenClaim.laidByTextAt_later rfl rfl tie noOwnUnsafe
end Go.Proofs.YoebnwDoor
