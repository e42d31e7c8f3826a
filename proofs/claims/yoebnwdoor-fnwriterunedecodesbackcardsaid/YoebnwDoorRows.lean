/-
  NARROWER THAN 'FOR EVERY INPUT', by the rows' own cells (each row's printed sentence says how): FnWriteSingleByteAppends: ifaces, laid · FnWriteSingleByteAgreesWithWrite: ifaces, laid · FnWriteRuneMatchesModel: ifaces, laid · FnWriteRuneDecodesBack: ifaces, laid.
  DERIVED. THE GIVEN ROWS OF THIS SEAT. 4 by the template 'for every input the law returns true; each argument reads behind the call as it read before'; 0 by the template 'total and deterministic' (their statements: YoebnwDoorTotals.lean).
  GIVEN WITH THE SEED: the statements are not yours to turn. If you find one false, say at which input.
  Laid BY PROGRAM, IN A SANDBOX (cutbox-rows.mjs): the forced cells as the released guide's own fill.sh prints them over the translation e047e4463ad5a16f… (all of the seat's roots in one cut). By AI agents, Wed Nov 11 2026. No macro, syntax, notation, axiom, sorry.
-/
import Derived.Test.YoebnwDoorChecked
import GoSem.Claim
import GoSem.ClaimJoined
import GoSem.ClaimMapViews
import Derived.JoinedTies
import Derived.KernelRfl
namespace Go.Proofs.YoebnwDoor
/- THE CELL 'sum', in the pinned program and in every row, IS THE sha256 OF THE DUMP (.gsa) THAT YoebnwDoorProg.lean LOADS. Nothing in Lean hashes anything: it is a label: what it is worth is what the hold of that sum in a sandbox is worth. -/
noncomputable def Ebng.pinned : Pinned := { name := "yoebnwdoor", sum := "e047e4463ad5a16ffe78127c1edb7b1ccdf0b5cdef54bbf499498dfd8c4069af", checked := Ebng.checked }
namespace Rows
def none {H : Type} : Left H := { results := [], args := [] }

/- WHAT THE LISTED PACKAGE-LEVEL VARIABLES READ AS WHEN THE CALL BEGINS. Each datum BY PROGRAM (the guide's laid-datum.mjs) off the statement by which the dump's own 'gosem.cut.vars' lays the variable. In a bare row this is a premise. The card (YoebnwDoorCards.lean) ties it to the program's text. -/
def laid_github_com_d5_tengo_v2_ErrStringLimit {H : Type} : DataW H := .iface "*errors.errorString" (.ptr (.agg [.lit (.string [101, 120, 99, 101, 101, 100, 105, 110, 103, 32, 115, 116, 114, 105, 110, 103, 32, 115, 105, 122, 101, 32, 108, 105, 109, 105, 116])]))
def laid_github_com_d5_tengo_v2_MaxStringLen {H : Type} : DataW H := .lit (.int .i64 2147483647)

/-- 'zzlaws_root_b3.FnWriteSingleByteAppends': WHATEVER THE INPUT: true; the input reads as it did. -/
def fnWriteSingleByteAppendsSpec : ChangeSpec := { name := "fnWriteSingleByteAppends", vars := ["github.com/d5/tengo/v2.MaxStringLen", "github.com/d5/tengo/v2.ErrStringLimit"], fn := fun _ => fun
  | [d1, d2, g1, g2] => { results := [.lit (.bool true)], args := [d1, d2], vars := [g1, g2] }
  | _ => none }
def fnWriteSingleByteAppendsRow : OpenClaim := { program := "yoebnwdoor", sum := "e047e4463ad5a16ffe78127c1edb7b1ccdf0b5cdef54bbf499498dfd8c4069af", func := "github.com/d5/tengo/v2/zzlaws_root_b3.FnWriteSingleByteAppends", spec := "fnWriteSingleByteAppends", named := ["github.com/d5/tengo/v2.MaxStringLen", "github.com/d5/tengo/v2.ErrStringLimit"], ifaces := true, apart := false, laid := [("github.com/d5/tengo/v2.ErrStringLimit", laid_github_com_d5_tengo_v2_ErrStringLimit), ("github.com/d5/tengo/v2.MaxStringLen", laid_github_com_d5_tengo_v2_MaxStringLen)] }
def FnWriteSingleByteAppendsSaid : Prop := fnWriteSingleByteAppendsRow.holds Ebng.pinned (OpenSpec.ofChange fnWriteSingleByteAppendsSpec)

/-- ITS FALSE NEIGHBOUR: 'it returns false'. Refute it at one input. -/
def fnWriteSingleByteAppendsWrong : ChangeSpec := { name := "fnWriteSingleByteAppends", vars := ["github.com/d5/tengo/v2.MaxStringLen", "github.com/d5/tengo/v2.ErrStringLimit"], fn := fun _ => fun
  | [d1, d2, g1, g2] => { results := [.lit (.bool false)], args := [d1, d2], vars := [g1, g2] }
  | _ => none }
def FnWriteSingleByteAppendsWrongFalsely : Prop := fnWriteSingleByteAppendsRow.holds Ebng.pinned (OpenSpec.ofChange fnWriteSingleByteAppendsWrong)

/-- 'zzlaws_root_b3.FnWriteSingleByteAgreesWithWrite': WHATEVER THE INPUT: true; the input reads as it did. -/
def fnWriteSingleByteAgreesWithWriteSpec : ChangeSpec := { name := "fnWriteSingleByteAgreesWithWrite", vars := ["github.com/d5/tengo/v2.MaxStringLen", "github.com/d5/tengo/v2.ErrStringLimit"], fn := fun _ => fun
  | [d1, d2, g1, g2] => { results := [.lit (.bool true)], args := [d1, d2], vars := [g1, g2] }
  | _ => none }
def fnWriteSingleByteAgreesWithWriteRow : OpenClaim := { program := "yoebnwdoor", sum := "e047e4463ad5a16ffe78127c1edb7b1ccdf0b5cdef54bbf499498dfd8c4069af", func := "github.com/d5/tengo/v2/zzlaws_root_b3.FnWriteSingleByteAgreesWithWrite", spec := "fnWriteSingleByteAgreesWithWrite", named := ["github.com/d5/tengo/v2.MaxStringLen", "github.com/d5/tengo/v2.ErrStringLimit"], ifaces := true, apart := false, laid := [("github.com/d5/tengo/v2.ErrStringLimit", laid_github_com_d5_tengo_v2_ErrStringLimit), ("github.com/d5/tengo/v2.MaxStringLen", laid_github_com_d5_tengo_v2_MaxStringLen)] }
def FnWriteSingleByteAgreesWithWriteSaid : Prop := fnWriteSingleByteAgreesWithWriteRow.holds Ebng.pinned (OpenSpec.ofChange fnWriteSingleByteAgreesWithWriteSpec)

/-- ITS FALSE NEIGHBOUR: 'it returns false'. Refute it at one input. -/
def fnWriteSingleByteAgreesWithWriteWrong : ChangeSpec := { name := "fnWriteSingleByteAgreesWithWrite", vars := ["github.com/d5/tengo/v2.MaxStringLen", "github.com/d5/tengo/v2.ErrStringLimit"], fn := fun _ => fun
  | [d1, d2, g1, g2] => { results := [.lit (.bool false)], args := [d1, d2], vars := [g1, g2] }
  | _ => none }
def FnWriteSingleByteAgreesWithWriteWrongFalsely : Prop := fnWriteSingleByteAgreesWithWriteRow.holds Ebng.pinned (OpenSpec.ofChange fnWriteSingleByteAgreesWithWriteWrong)

/-- 'zzlaws_root_b3.FnWriteRuneMatchesModel': WHATEVER THE INPUT: true; the input reads as it did. -/
def fnWriteRuneMatchesModelSpec : ChangeSpec := { name := "fnWriteRuneMatchesModel", vars := ["github.com/d5/tengo/v2.MaxStringLen", "github.com/d5/tengo/v2.ErrStringLimit"], fn := fun _ => fun
  | [d1, d2, g1, g2] => { results := [.lit (.bool true)], args := [d1, d2], vars := [g1, g2] }
  | _ => none }
def fnWriteRuneMatchesModelRow : OpenClaim := { program := "yoebnwdoor", sum := "e047e4463ad5a16ffe78127c1edb7b1ccdf0b5cdef54bbf499498dfd8c4069af", func := "github.com/d5/tengo/v2/zzlaws_root_b3.FnWriteRuneMatchesModel", spec := "fnWriteRuneMatchesModel", named := ["github.com/d5/tengo/v2.MaxStringLen", "github.com/d5/tengo/v2.ErrStringLimit"], ifaces := true, apart := false, laid := [("github.com/d5/tengo/v2.ErrStringLimit", laid_github_com_d5_tengo_v2_ErrStringLimit), ("github.com/d5/tengo/v2.MaxStringLen", laid_github_com_d5_tengo_v2_MaxStringLen)] }
def FnWriteRuneMatchesModelSaid : Prop := fnWriteRuneMatchesModelRow.holds Ebng.pinned (OpenSpec.ofChange fnWriteRuneMatchesModelSpec)

/-- ITS FALSE NEIGHBOUR: 'it returns false'. Refute it at one input. -/
def fnWriteRuneMatchesModelWrong : ChangeSpec := { name := "fnWriteRuneMatchesModel", vars := ["github.com/d5/tengo/v2.MaxStringLen", "github.com/d5/tengo/v2.ErrStringLimit"], fn := fun _ => fun
  | [d1, d2, g1, g2] => { results := [.lit (.bool false)], args := [d1, d2], vars := [g1, g2] }
  | _ => none }
def FnWriteRuneMatchesModelWrongFalsely : Prop := fnWriteRuneMatchesModelRow.holds Ebng.pinned (OpenSpec.ofChange fnWriteRuneMatchesModelWrong)

/-- 'zzlaws_root_b3.FnWriteRuneDecodesBack': WHATEVER THE INPUT: true; the input reads as it did. -/
def fnWriteRuneDecodesBackSpec : ChangeSpec := { name := "fnWriteRuneDecodesBack", vars := ["github.com/d5/tengo/v2.MaxStringLen", "github.com/d5/tengo/v2.ErrStringLimit"], fn := fun _ => fun
  | [d1, d2, g1, g2] => { results := [.lit (.bool true)], args := [d1, d2], vars := [g1, g2] }
  | _ => none }
def fnWriteRuneDecodesBackRow : OpenClaim := { program := "yoebnwdoor", sum := "e047e4463ad5a16ffe78127c1edb7b1ccdf0b5cdef54bbf499498dfd8c4069af", func := "github.com/d5/tengo/v2/zzlaws_root_b3.FnWriteRuneDecodesBack", spec := "fnWriteRuneDecodesBack", named := ["github.com/d5/tengo/v2.MaxStringLen", "github.com/d5/tengo/v2.ErrStringLimit"], ifaces := true, apart := false, laid := [("github.com/d5/tengo/v2.ErrStringLimit", laid_github_com_d5_tengo_v2_ErrStringLimit), ("github.com/d5/tengo/v2.MaxStringLen", laid_github_com_d5_tengo_v2_MaxStringLen)] }
def FnWriteRuneDecodesBackSaid : Prop := fnWriteRuneDecodesBackRow.holds Ebng.pinned (OpenSpec.ofChange fnWriteRuneDecodesBackSpec)

/-- ITS FALSE NEIGHBOUR: 'it returns false'. Refute it at one input. -/
def fnWriteRuneDecodesBackWrong : ChangeSpec := { name := "fnWriteRuneDecodesBack", vars := ["github.com/d5/tengo/v2.MaxStringLen", "github.com/d5/tengo/v2.ErrStringLimit"], fn := fun _ => fun
  | [d1, d2, g1, g2] => { results := [.lit (.bool false)], args := [d1, d2], vars := [g1, g2] }
  | _ => none }
def FnWriteRuneDecodesBackWrongFalsely : Prop := fnWriteRuneDecodesBackRow.holds Ebng.pinned (OpenSpec.ofChange fnWriteRuneDecodesBackWrong)

end Rows
end Go.Proofs.YoebnwDoor
