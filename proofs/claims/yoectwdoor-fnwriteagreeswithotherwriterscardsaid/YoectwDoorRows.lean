/-
  NARROWER THAN 'FOR EVERY INPUT', by the rows' own cells (each row's printed sentence says how): FnWriteConcatenates: ifaces, laid · FnWriteAgreesWithOtherWriters: ifaces, laid.
  DERIVED. THE GIVEN ROWS OF THIS SEAT. 2 by the template 'for every input the law returns true; each argument reads behind the call as it read before'; 0 by the template 'total and deterministic' (their statements: YoectwDoorTotals.lean).
  GIVEN WITH THE SEED: the statements are not yours to turn. If you find one false, say at which input.
  Laid BY PROGRAM, IN A SANDBOX (cutbox-rows.mjs): the forced cells as the released guide's own fill.sh prints them over the translation daa95e9c3f954380… (all of the seat's roots in one cut). By AI agents, Wed Nov 11 2026. No macro, syntax, notation, axiom, sorry.
-/
import Derived.Test.YoectwDoorChecked
import GoSem.Claim
import GoSem.ClaimJoined
import GoSem.ClaimMapViews
import Derived.JoinedTies
import Derived.KernelRfl
namespace Go.Proofs.YoectwDoor
/- THE CELL 'sum', in the pinned program and in every row, IS THE sha256 OF THE DUMP (.gsa) THAT YoectwDoorProg.lean LOADS. Nothing in Lean hashes anything: it is a label: what it is worth is what the hold of that sum in a sandbox is worth. -/
noncomputable def Ectg.pinned : Pinned := { name := "yoectwdoor", sum := "daa95e9c3f95438038349c2b6e3d7ab2ab475300fa7c44677aa5b5a27f9f0d97", checked := Ectg.checked }
namespace Rows
def none {H : Type} : Left H := { results := [], args := [] }

/- WHAT THE LISTED PACKAGE-LEVEL VARIABLES READ AS WHEN THE CALL BEGINS. Each datum BY PROGRAM (the guide's laid-datum.mjs) off the statement by which the dump's own 'gosem.cut.vars' lays the variable. In a bare row this is a premise. The card (YoectwDoorCards.lean) ties it to the program's text. -/
def laid_github_com_d5_tengo_v2_ErrStringLimit {H : Type} : DataW H := .iface "*errors.errorString" (.ptr (.agg [.lit (.string [101, 120, 99, 101, 101, 100, 105, 110, 103, 32, 115, 116, 114, 105, 110, 103, 32, 115, 105, 122, 101, 32, 108, 105, 109, 105, 116])]))
def laid_github_com_d5_tengo_v2_MaxStringLen {H : Type} : DataW H := .lit (.int .i64 2147483647)

/-- 'zzlaws_root_b1.FnWriteConcatenates': WHATEVER THE INPUT: true; the input reads as it did. -/
def fnWriteConcatenatesSpec : ChangeSpec := { name := "fnWriteConcatenates", vars := ["github.com/d5/tengo/v2.MaxStringLen", "github.com/d5/tengo/v2.ErrStringLimit"], fn := fun _ => fun
  | [d1, d2, g1, g2] => { results := [.lit (.bool true)], args := [d1, d2], vars := [g1, g2] }
  | _ => none }
def fnWriteConcatenatesRow : OpenClaim := { program := "yoectwdoor", sum := "daa95e9c3f95438038349c2b6e3d7ab2ab475300fa7c44677aa5b5a27f9f0d97", func := "github.com/d5/tengo/v2/zzlaws_root_b1.FnWriteConcatenates", spec := "fnWriteConcatenates", named := ["github.com/d5/tengo/v2.MaxStringLen", "github.com/d5/tengo/v2.ErrStringLimit"], ifaces := true, apart := false, laid := [("github.com/d5/tengo/v2.ErrStringLimit", laid_github_com_d5_tengo_v2_ErrStringLimit), ("github.com/d5/tengo/v2.MaxStringLen", laid_github_com_d5_tengo_v2_MaxStringLen)] }
def FnWriteConcatenatesSaid : Prop := fnWriteConcatenatesRow.holds Ectg.pinned (OpenSpec.ofChange fnWriteConcatenatesSpec)

/-- ITS FALSE NEIGHBOUR: 'it returns false'. Refute it at one input. -/
def fnWriteConcatenatesWrong : ChangeSpec := { name := "fnWriteConcatenates", vars := ["github.com/d5/tengo/v2.MaxStringLen", "github.com/d5/tengo/v2.ErrStringLimit"], fn := fun _ => fun
  | [d1, d2, g1, g2] => { results := [.lit (.bool false)], args := [d1, d2], vars := [g1, g2] }
  | _ => none }
def FnWriteConcatenatesWrongFalsely : Prop := fnWriteConcatenatesRow.holds Ectg.pinned (OpenSpec.ofChange fnWriteConcatenatesWrong)

/-- 'zzlaws_root_b1.FnWriteAgreesWithOtherWriters': WHATEVER THE INPUT: true; the input reads as it did. -/
def fnWriteAgreesWithOtherWritersSpec : ChangeSpec := { name := "fnWriteAgreesWithOtherWriters", vars := ["github.com/d5/tengo/v2.MaxStringLen", "github.com/d5/tengo/v2.ErrStringLimit"], fn := fun _ => fun
  | [d, g1, g2] => { results := [.lit (.bool true)], args := [d], vars := [g1, g2] }
  | _ => none }
def fnWriteAgreesWithOtherWritersRow : OpenClaim := { program := "yoectwdoor", sum := "daa95e9c3f95438038349c2b6e3d7ab2ab475300fa7c44677aa5b5a27f9f0d97", func := "github.com/d5/tengo/v2/zzlaws_root_b1.FnWriteAgreesWithOtherWriters", spec := "fnWriteAgreesWithOtherWriters", named := ["github.com/d5/tengo/v2.MaxStringLen", "github.com/d5/tengo/v2.ErrStringLimit"], ifaces := true, apart := false, laid := [("github.com/d5/tengo/v2.ErrStringLimit", laid_github_com_d5_tengo_v2_ErrStringLimit), ("github.com/d5/tengo/v2.MaxStringLen", laid_github_com_d5_tengo_v2_MaxStringLen)] }
def FnWriteAgreesWithOtherWritersSaid : Prop := fnWriteAgreesWithOtherWritersRow.holds Ectg.pinned (OpenSpec.ofChange fnWriteAgreesWithOtherWritersSpec)

/-- ITS FALSE NEIGHBOUR: 'it returns false'. Refute it at one input. -/
def fnWriteAgreesWithOtherWritersWrong : ChangeSpec := { name := "fnWriteAgreesWithOtherWriters", vars := ["github.com/d5/tengo/v2.MaxStringLen", "github.com/d5/tengo/v2.ErrStringLimit"], fn := fun _ => fun
  | [d, g1, g2] => { results := [.lit (.bool false)], args := [d], vars := [g1, g2] }
  | _ => none }
def FnWriteAgreesWithOtherWritersWrongFalsely : Prop := fnWriteAgreesWithOtherWritersRow.holds Ectg.pinned (OpenSpec.ofChange fnWriteAgreesWithOtherWritersWrong)

end Rows
end Go.Proofs.YoectwDoor
