/-
  NARROWER THAN 'FOR EVERY INPUT', by the rows' own cells (each row's printed sentence says how): LawS3314BKinds: maps, laid · LawS3314BNilWrap: maps, laid.
  DERIVED. THE GIVEN ROWS OF THIS SEAT. 2 by the template 'for every input the law returns true; each argument reads behind the call as it read before'; 0 by the template 'total and deterministic' (their statements: YbulkbppmFmtTotals.lean).
  GIVEN WITH THE SEED: the statements are not yours to turn. If you find one false, say at which input.
  Laid BY PROGRAM, IN A SANDBOX (cutbox-rows.mjs): the forced cells as the released guide's own fill.sh prints them over the translation 3fe1ab586e720067… (all of the seat's roots in one cut). By AI agents, Wed Nov 11 2026. No macro, syntax, notation, axiom, sorry.
-/
import Derived.Test.YbulkbppmFmtChecked
import GoSem.Claim
import GoSem.ClaimJoined
import GoSem.ClaimMapViews
import Derived.JoinedTies
import Derived.KernelRfl
namespace Go.Proofs.YbulkbppmFmt
/- THE CELL 'sum', in the pinned program and in every row, IS THE sha256 OF THE DUMP (.gsa) THAT YbulkbppmFmtProg.lean LOADS. Nothing in Lean hashes anything: it is a label: what it is worth is what the hold of that sum in a sandbox is worth. -/
noncomputable def Ybaf.pinned : Pinned := { name := "ybulkbppmfmt", sum := "3fe1ab586e7200675cadcdb11332be9238c5eb16534fbd2d9eed0c3caaf03a62", checked := Ybaf.checked }
namespace Rows
def none {H : Type} : Left H := { results := [], args := [] }

/- WHAT THE LISTED PACKAGE-LEVEL VARIABLES READ AS WHEN THE CALL BEGINS. Each datum BY PROGRAM (the guide's laid-datum.mjs) off the statement by which the dump's own 'gosem.cut.vars' lays the variable. In a bare row this is a premise. The card (YbulkbppmFmtCards.lean) ties it to the program's text. -/
def laid_example_com_sealed_stream_sealed_stream_stanzaSizes {H : Type} : DataW H := .map [(.int .i64 1, .agg [.lit (.int .i64 40), .lit (.int .i64 40), .lit (.int .i64 0)]), (.int .i64 5, .agg [.lit (.int .i64 256), .lit (.int .i64 2048), .lit (.int .i64 0)]), (.int .i64 6, .agg [.lit (.int .i64 40), .lit (.int .i64 40), .lit (.int .i64 32)])]

/-- 'sealed-stream.LawS3314BKinds': WHATEVER THE INPUT: true; the input reads as it did. -/
def lawS3314BKindsSpec : ChangeSpec := { name := "lawS3314BKinds", vars := ["example.com/sealed-stream/sealed-stream.stanzaSizes"], fn := fun _ => fun
  | [d1, d2, d3, d4, g1] => { results := [.lit (.bool true)], args := [d1, d2, d3, d4], vars := [g1] }
  | _ => none }
def lawS3314BKindsRow : OpenClaim := { program := "ybulkbppmfmt", sum := "3fe1ab586e7200675cadcdb11332be9238c5eb16534fbd2d9eed0c3caaf03a62", func := "example.com/sealed-stream/sealed-stream.LawS3314BKinds", spec := "lawS3314BKinds", stops := ["fmt.errorf"], inPlace := ["fmt.errorf"], unfollowed := true, recurses := true, named := ["example.com/sealed-stream/sealed-stream.stanzaSizes"], maps := true, apart := false, laid := [("example.com/sealed-stream/sealed-stream.stanzaSizes", laid_example_com_sealed_stream_sealed_stream_stanzaSizes)] }
/-- NO THEOREM (fmt's text is open here; it may be false): for the released tool's asking of the row's closed facts alone. THE STATEMENT IS 'LawS3314BKindsToldSaid' (YbulkbppmFmtCards.lean). -/
def LawS3314BKindsFormAsk : Prop := lawS3314BKindsRow.holds Ybaf.pinned (OpenSpec.ofChange lawS3314BKindsSpec)

/-- ITS FALSE NEIGHBOUR: 'it returns false'. Refute it at one input. -/
def lawS3314BKindsWrong : ChangeSpec := { name := "lawS3314BKinds", vars := ["example.com/sealed-stream/sealed-stream.stanzaSizes"], fn := fun _ => fun
  | [d1, d2, d3, d4, g1] => { results := [.lit (.bool false)], args := [d1, d2, d3, d4], vars := [g1] }
  | _ => none }
def LawS3314BKindsWrongFormAsk : Prop := lawS3314BKindsRow.holds Ybaf.pinned (OpenSpec.ofChange lawS3314BKindsWrong)

/-- 'sealed-stream.LawS3314BNilWrap': WHATEVER THE INPUT: true; the input reads as it did. -/
def lawS3314BNilWrapSpec : ChangeSpec := { name := "lawS3314BNilWrap", vars := ["example.com/sealed-stream/sealed-stream.stanzaSizes"], fn := fun _ => fun
  | [d1, d2, g1] => { results := [.lit (.bool true)], args := [d1, d2], vars := [g1] }
  | _ => none }
def lawS3314BNilWrapRow : OpenClaim := { program := "ybulkbppmfmt", sum := "3fe1ab586e7200675cadcdb11332be9238c5eb16534fbd2d9eed0c3caaf03a62", func := "example.com/sealed-stream/sealed-stream.LawS3314BNilWrap", spec := "lawS3314BNilWrap", stops := ["fmt.errorf"], inPlace := ["fmt.errorf"], named := ["example.com/sealed-stream/sealed-stream.stanzaSizes"], maps := true, apart := false, laid := [("example.com/sealed-stream/sealed-stream.stanzaSizes", laid_example_com_sealed_stream_sealed_stream_stanzaSizes)] }
/-- NO THEOREM (fmt's text is open here; it may be false): for the released tool's asking of the row's closed facts alone. THE STATEMENT IS 'LawS3314BNilWrapToldSaid' (YbulkbppmFmtCards.lean). -/
def LawS3314BNilWrapFormAsk : Prop := lawS3314BNilWrapRow.holds Ybaf.pinned (OpenSpec.ofChange lawS3314BNilWrapSpec)

/-- ITS FALSE NEIGHBOUR: 'it returns false'. Refute it at one input. -/
def lawS3314BNilWrapWrong : ChangeSpec := { name := "lawS3314BNilWrap", vars := ["example.com/sealed-stream/sealed-stream.stanzaSizes"], fn := fun _ => fun
  | [d1, d2, g1] => { results := [.lit (.bool false)], args := [d1, d2], vars := [g1] }
  | _ => none }
def LawS3314BNilWrapWrongFormAsk : Prop := lawS3314BNilWrapRow.holds Ybaf.pinned (OpenSpec.ofChange lawS3314BNilWrapWrong)

end Rows
end Go.Proofs.YbulkbppmFmt
