/-
  No cell of these rows narrows 'for every input' (looked for: loops, veiled, ifaces, maps, wideKeys, modest, calm, conditions, laid).
  DERIVED. THE GIVEN ROWS OF THIS SEAT. 2 by the template 'for every input the law returns true; each argument reads behind the call as it read before'; 0 by the template 'total and deterministic' (their statements: YbulkbpmuTotals.lean).
  GIVEN WITH THE SEED: the statements are not yours to turn. If you find one false, say at which input.
  Laid BY PROGRAM, IN A SANDBOX (cutbox-rows.mjs): the forced cells as the released guide's own fill.sh prints them over the translation 0b8c18fd5b12dcd0… (all of the seat's roots in one cut). By AI agents, Wed Nov 11 2026. No macro, syntax, notation, axiom, sorry.
-/
import Derived.Test.YbulkbpmuChecked
import GoSem.Claim
import GoSem.ClaimJoined
import GoSem.ClaimMapViews
import Derived.JoinedTies
import Derived.KernelRfl
namespace Go.Proofs.Ybulkbpmu
/- THE CELL 'sum', in the pinned program and in every row, IS THE sha256 OF THE DUMP (.gsa) THAT YbulkbpmuProg.lean LOADS. Nothing in Lean hashes anything: it is a label: what it is worth is what the hold of that sum in a sandbox is worth. -/
noncomputable def Yba.pinned : Pinned := { name := "ybulkbpmu", sum := "0b8c18fd5b12dcd07af46814bd650b5b964853fc7cd79c0b2d0b56cdde08e194", checked := Yba.checked }
namespace Rows
def none {H : Type} : Left H := { results := [], args := [] }

/-- 'store.LawS3309BModel': WHATEVER THE INPUT: true; the input reads as it did. -/
def lawS3309BModelSpec : ChangeSpec := { name := "lawS3309BModel", fn := fun _ => fun
  | [d] => { results := [.lit (.bool true)], args := [d] }
  | _ => none }
def lawS3309BModelRow : OpenClaim := { program := "ybulkbpmu", sum := "0b8c18fd5b12dcd07af46814bd650b5b964853fc7cd79c0b2d0b56cdde08e194", func := "example.com/circlet/circlet/internal/store.LawS3309BModel", spec := "lawS3309BModel", unfollowed := true, recurses := true, apart := false }
def LawS3309BModelSaid : Prop := lawS3309BModelRow.holds Yba.pinned (OpenSpec.ofChange lawS3309BModelSpec)

/-- ITS FALSE NEIGHBOUR: 'it returns false'. Refute it at one input. -/
def lawS3309BModelWrong : ChangeSpec := { name := "lawS3309BModel", fn := fun _ => fun
  | [d] => { results := [.lit (.bool false)], args := [d] }
  | _ => none }
def LawS3309BModelWrongFalsely : Prop := lawS3309BModelRow.holds Yba.pinned (OpenSpec.ofChange lawS3309BModelWrong)

/-- 'store.LawS3309BRange': WHATEVER THE INPUT: true; the input reads as it did. -/
def lawS3309BRangeSpec : ChangeSpec := { name := "lawS3309BRange", fn := fun _ => fun
  | [d1, d2] => { results := [.lit (.bool true)], args := [d1, d2] }
  | _ => none }
def lawS3309BRangeRow : OpenClaim := { program := "ybulkbpmu", sum := "0b8c18fd5b12dcd07af46814bd650b5b964853fc7cd79c0b2d0b56cdde08e194", func := "example.com/circlet/circlet/internal/store.LawS3309BRange", spec := "lawS3309BRange", unfollowed := true, recurses := true, apart := false }
def LawS3309BRangeSaid : Prop := lawS3309BRangeRow.holds Yba.pinned (OpenSpec.ofChange lawS3309BRangeSpec)

/-- ITS FALSE NEIGHBOUR: 'it returns false'. Refute it at one input. -/
def lawS3309BRangeWrong : ChangeSpec := { name := "lawS3309BRange", fn := fun _ => fun
  | [d1, d2] => { results := [.lit (.bool false)], args := [d1, d2] }
  | _ => none }
def LawS3309BRangeWrongFalsely : Prop := lawS3309BRangeRow.holds Yba.pinned (OpenSpec.ofChange lawS3309BRangeWrong)

end Rows
end Go.Proofs.Ybulkbpmu
