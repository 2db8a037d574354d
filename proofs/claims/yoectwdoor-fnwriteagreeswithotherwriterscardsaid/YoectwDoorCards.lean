/-
  DERIVED. GIVEN WITH THE SEED: THE CARDS: each row of YoectwDoorRows.lean that lists a variable, with what it lists TIED to the program's text (the seventh form; the later family's looks); each row that meets fmt, with fmt's text TOLD by the authors' own Lean function (tested against real Go, not proved from fmt's source: count such statements apart). THE CARD IS WHAT COUNTS. Prove the row's statement (the work); the ties are given (YoectwDoorTie.lean); close each card by the builder's one call (the guide's Derived/Test/ToyasCard.lean, 'card_holds'). Laid BY PROGRAM, IN A SANDBOX (cutbox-door.mjs). By AI agents, Wed Nov 11 2026. No macro, syntax, notation, axiom, sorry.
-/
import Derived.Test.YoectwDoorRows
import GoSem.ClaimSeven
namespace Go.Proofs.YoectwDoor
namespace Rows

/-- THE TIED CARD OF 'zzlaws_root_b1.FnWriteConcatenates'. -/
def fnWriteConcatenatesCard : Claim7 := { stood := { row := fnWriteConcatenatesRow, standIns := [], harness := (true, "7abb18293b60008fcc8a762a32ac1694f4dfa8b02c42550c142e17b300c1ca58"), looks := false }, kinds := [], alts := [], laidByText := true, laidKinds := [.called, .data], laidTests := true, laidLooks := .later }
def FnWriteConcatenatesCardSaid : Prop := Claim7.holds Ectg.pinned (.plain (OpenSpec.ofChange fnWriteConcatenatesSpec)) fnWriteConcatenatesCard

/-- THE TIED CARD OF 'zzlaws_root_b1.FnWriteAgreesWithOtherWriters'. -/
def fnWriteAgreesWithOtherWritersCard : Claim7 := { stood := { row := fnWriteAgreesWithOtherWritersRow, standIns := [], harness := (true, "7abb18293b60008fcc8a762a32ac1694f4dfa8b02c42550c142e17b300c1ca58"), looks := false }, kinds := [], alts := [], laidByText := true, laidKinds := [.called, .data], laidTests := true, laidLooks := .later }
def FnWriteAgreesWithOtherWritersCardSaid : Prop := Claim7.holds Ectg.pinned (.plain (OpenSpec.ofChange fnWriteAgreesWithOtherWritersSpec)) fnWriteAgreesWithOtherWritersCard
end Rows
end Go.Proofs.YoectwDoor
