/-
  DERIVED. GIVEN WITH THE SEED: THE CARDS: each row of YbulkbppmFmtRows.lean that lists a variable, with what it lists TIED to the program's text (the seventh form; the later family's looks); each row that meets fmt, with fmt's text TOLD by the authors' own Lean function (tested against real Go, not proved from fmt's source: count such statements apart). THE CARD IS WHAT COUNTS. Prove the row's statement (the work); the ties are given (YbulkbppmFmtTie.lean); close each card by the builder's one call (the guide's Derived/Test/ToyasCard.lean, 'card_holds'). Laid BY PROGRAM, IN A SANDBOX (cutbox-door.mjs). By AI agents, Wed Nov 11 2026. No macro, syntax, notation, axiom, sorry.
-/
import Derived.Test.YbulkbppmFmtRows
import GoSem.ClaimSeven
namespace Go.Proofs.YbulkbppmFmt
namespace Rows

/-- THE TOLD AND TIED CARD OF 'sealed-stream.LawS3314BKinds'. -/
def lawS3314BKindsCard : Claim7 := { stood := { row := lawS3314BKindsRow, standIns := [], harness := (true, "7e8a8b8746e37f12fe2be5b1ed80167627325de0b25a94849232e8bf9e03e79f"), looks := false }, told := true, laidByText := true, laidKinds := [.mapped], laidTests := true, laidLooks := .later, goes := false }
def LawS3314BKindsToldSaid : Prop := Claim7.holds Ybaf.pinned (.plain (OpenSpec.ofChange lawS3314BKindsSpec)) lawS3314BKindsCard
/-- ITS FALSE NEIGHBOUR. Refute it at one input. -/
def LawS3314BKindsToldWrongFalsely : Prop := Claim7.holds Ybaf.pinned (.plain (OpenSpec.ofChange lawS3314BKindsWrong)) lawS3314BKindsCard

/-- THE TOLD AND TIED CARD OF 'sealed-stream.LawS3314BNilWrap'. -/
def lawS3314BNilWrapCard : Claim7 := { stood := { row := lawS3314BNilWrapRow, standIns := [], harness := (true, "7e8a8b8746e37f12fe2be5b1ed80167627325de0b25a94849232e8bf9e03e79f"), looks := false }, told := true, laidByText := true, laidKinds := [.mapped], laidTests := true, laidLooks := .later, goes := false }
def LawS3314BNilWrapToldSaid : Prop := Claim7.holds Ybaf.pinned (.plain (OpenSpec.ofChange lawS3314BNilWrapSpec)) lawS3314BNilWrapCard
/-- ITS FALSE NEIGHBOUR. Refute it at one input. -/
def LawS3314BNilWrapToldWrongFalsely : Prop := Claim7.holds Ybaf.pinned (.plain (OpenSpec.ofChange lawS3314BNilWrapWrong)) lawS3314BNilWrapCard
end Rows
end Go.Proofs.YbulkbppmFmt
