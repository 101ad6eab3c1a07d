/-
  No cell of these rows narrows 'for every input' (looked for: loops, veiled, ifaces, maps, wideKeys, modest, calm, conditions, laid).
  DERIVED. THE GIVEN ROWS OF THIS SEAT. 1 by the template 'for every input the law returns true; each argument reads behind the call as it read before'; 0 by the template 'total and deterministic' (their statements: YbulkbpnwTotals.lean).
  GIVEN WITH THE SEED: the statements are not yours to turn. If you find one false, say at which input.
  Laid BY PROGRAM, IN A SANDBOX (cutbox-rows.mjs): the forced cells as the released guide's own fill.sh prints them over the translation f589a1bdbdf41fa9… (all of the seat's roots in one cut). By AI agents, Wed Nov 11 2026. No macro, syntax, notation, axiom, sorry.
-/
import Derived.Test.YbulkbpnwChecked
import GoSem.Claim
import GoSem.ClaimJoined
import GoSem.ClaimMapViews
import Derived.JoinedTies
import Derived.KernelRfl
namespace Go.Proofs.Ybulkbpnw
/- THE CELL 'sum', in the pinned program and in every row, IS THE sha256 OF THE DUMP (.gsa) THAT YbulkbpnwProg.lean LOADS. Nothing in Lean hashes anything: it is a label: what it is worth is what the hold of that sum in a sandbox is worth. -/
noncomputable def Yba.pinned : Pinned := { name := "ybulkbpnw", sum := "f589a1bdbdf41fa95c37e13e3515c658dc0dd4245bc393a2ccfb40807735f1b1", checked := Yba.checked }
namespace Rows
def none {H : Type} : Left H := { results := [], args := [] }

/-- 'quill.LawS3311AExact': WHATEVER THE INPUT: true; the input reads as it did. -/
def lawS3311AExactSpec : ChangeSpec := { name := "lawS3311AExact", fn := fun _ => fun
  | [d1, d2, d3] => { results := [.lit (.bool true)], args := [d1, d2, d3] }
  | _ => none }
def lawS3311AExactRow : OpenClaim := { program := "ybulkbpnw", sum := "f589a1bdbdf41fa95c37e13e3515c658dc0dd4245bc393a2ccfb40807735f1b1", func := "quillforge.example/quill.LawS3311AExact", spec := "lawS3311AExact", unfollowed := true, recurses := true, apart := false }
def LawS3311AExactSaid : Prop := lawS3311AExactRow.holds Yba.pinned (OpenSpec.ofChange lawS3311AExactSpec)

/-- ITS FALSE NEIGHBOUR: 'it returns false'. Refute it at one input. -/
def lawS3311AExactWrong : ChangeSpec := { name := "lawS3311AExact", fn := fun _ => fun
  | [d1, d2, d3] => { results := [.lit (.bool false)], args := [d1, d2, d3] }
  | _ => none }
def LawS3311AExactWrongFalsely : Prop := lawS3311AExactRow.holds Yba.pinned (OpenSpec.ofChange lawS3311AExactWrong)

end Rows
end Go.Proofs.Ybulkbpnw
