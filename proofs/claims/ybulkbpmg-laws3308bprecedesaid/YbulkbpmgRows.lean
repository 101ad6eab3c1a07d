/-
  No cell of these rows narrows 'for every input' (looked for: loops, veiled, ifaces, maps, wideKeys, modest, calm, conditions, laid).
  DERIVED. THE GIVEN ROWS OF THIS SEAT. 3 by the template 'for every input the law returns true; each argument reads behind the call as it read before'; 0 by the template 'total and deterministic' (their statements: YbulkbpmgTotals.lean).
  GIVEN WITH THE SEED: the statements are not yours to turn. If you find one false, say at which input.
  Laid BY PROGRAM, IN A SANDBOX (cutbox-rows.mjs): the forced cells as the released guide's own fill.sh prints them over the translation 939e149e5afd4d11… (all of the seat's roots in one cut). By AI agents, Wed Nov 11 2026. No macro, syntax, notation, axiom, sorry.
-/
import Derived.Test.YbulkbpmgChecked
import GoSem.Claim
import GoSem.ClaimJoined
import GoSem.ClaimMapViews
import Derived.JoinedTies
import Derived.KernelRfl
namespace Go.Proofs.Ybulkbpmg
/- THE CELL 'sum', in the pinned program and in every row, IS THE sha256 OF THE DUMP (.gsa) THAT YbulkbpmgProg.lean LOADS. Nothing in Lean hashes anything: it is a label: what it is worth is what the hold of that sum in a sandbox is worth. -/
noncomputable def Yba.pinned : Pinned := { name := "ybulkbpmg", sum := "939e149e5afd4d118f88e97cf3952035fb73a298f0a0d9595cb3880c281db37e", checked := Yba.checked }
namespace Rows
def none {H : Type} : Left H := { results := [], args := [] }

/-- 'sim.LawS3308ALooks': WHATEVER THE INPUT: true; the input reads as it did. -/
def lawS3308ALooksSpec : ChangeSpec := { name := "lawS3308ALooks", fn := fun _ => fun
  | [d1, d2, d3, d4, d5, d6, d7, d8] => { results := [.lit (.bool true)], args := [d1, d2, d3, d4, d5, d6, d7, d8] }
  | _ => none }
def lawS3308ALooksRow : OpenClaim := { program := "ybulkbpmg", sum := "939e149e5afd4d118f88e97cf3952035fb73a298f0a0d9595cb3880c281db37e", func := "example.com/ringwise/ringwise/internal/sim.LawS3308ALooks", spec := "lawS3308ALooks", inPlace := ["(*internal/sync.Mutex).Lock", "internal/race.Disable", "sync/atomic.CompareAndSwapInt32", "internal/race.Enable", "internal/race.Acquire", "(*internal/sync.Mutex).lockSlow", "internal/sync.runtime_canSpin", "internal/sync.runtime_doSpin", "internal/sync.throw", "internal/sync.runtime_nanotime", "internal/sync.runtime_SemacquireMutex", "sync/atomic.AddInt32", "(*internal/sync.Mutex).Unlock", "internal/race.ReleaseMerge", "(*internal/sync.Mutex).unlockSlow", "internal/sync.fatal", "internal/sync.runtime_Semrelease"], unfollowed := true, recurses := true, plainKeys := false, apart := false }
def LawS3308ALooksSaid : Prop := lawS3308ALooksRow.holds Yba.pinned (OpenSpec.ofChange lawS3308ALooksSpec)

/-- ITS FALSE NEIGHBOUR: 'it returns false'. Refute it at one input. -/
def lawS3308ALooksWrong : ChangeSpec := { name := "lawS3308ALooks", fn := fun _ => fun
  | [d1, d2, d3, d4, d5, d6, d7, d8] => { results := [.lit (.bool false)], args := [d1, d2, d3, d4, d5, d6, d7, d8] }
  | _ => none }
def LawS3308ALooksWrongFalsely : Prop := lawS3308ALooksRow.holds Yba.pinned (OpenSpec.ofChange lawS3308ALooksWrong)

/-- 'sim.LawS3308AConfirm': WHATEVER THE INPUT: true; the input reads as it did. -/
def lawS3308AConfirmSpec : ChangeSpec := { name := "lawS3308AConfirm", fn := fun _ => fun
  | [d1, d2, d3, d4, d5, d6, d7] => { results := [.lit (.bool true)], args := [d1, d2, d3, d4, d5, d6, d7] }
  | _ => none }
def lawS3308AConfirmRow : OpenClaim := { program := "ybulkbpmg", sum := "939e149e5afd4d118f88e97cf3952035fb73a298f0a0d9595cb3880c281db37e", func := "example.com/ringwise/ringwise/internal/sim.LawS3308AConfirm", spec := "lawS3308AConfirm", inPlace := ["(*internal/sync.Mutex).Lock", "internal/race.Disable", "sync/atomic.CompareAndSwapInt32", "internal/race.Enable", "internal/race.Acquire", "(*internal/sync.Mutex).lockSlow", "internal/sync.runtime_canSpin", "internal/sync.runtime_doSpin", "internal/sync.throw", "internal/sync.runtime_nanotime", "internal/sync.runtime_SemacquireMutex", "sync/atomic.AddInt32", "(*internal/sync.Mutex).Unlock", "internal/race.ReleaseMerge", "(*internal/sync.Mutex).unlockSlow", "internal/sync.fatal", "internal/sync.runtime_Semrelease"], unfollowed := true, recurses := true, plainKeys := false, apart := false }
def LawS3308AConfirmSaid : Prop := lawS3308AConfirmRow.holds Yba.pinned (OpenSpec.ofChange lawS3308AConfirmSpec)

/-- ITS FALSE NEIGHBOUR: 'it returns false'. Refute it at one input. -/
def lawS3308AConfirmWrong : ChangeSpec := { name := "lawS3308AConfirm", fn := fun _ => fun
  | [d1, d2, d3, d4, d5, d6, d7] => { results := [.lit (.bool false)], args := [d1, d2, d3, d4, d5, d6, d7] }
  | _ => none }
def LawS3308AConfirmWrongFalsely : Prop := lawS3308AConfirmRow.holds Yba.pinned (OpenSpec.ofChange lawS3308AConfirmWrong)

/-- 'ringwise.LawS3308BPrecede': WHATEVER THE INPUT: true; the input reads as it did. -/
def lawS3308BPrecedeSpec : ChangeSpec := { name := "lawS3308BPrecede", fn := fun _ => fun
  | [d1, d2, d3, d4, d5, d6, d7, d8] => { results := [.lit (.bool true)], args := [d1, d2, d3, d4, d5, d6, d7, d8] }
  | _ => none }
def lawS3308BPrecedeRow : OpenClaim := { program := "ybulkbpmg", sum := "939e149e5afd4d118f88e97cf3952035fb73a298f0a0d9595cb3880c281db37e", func := "example.com/ringwise/ringwise.LawS3308BPrecede", spec := "lawS3308BPrecede", inPlace := ["(*internal/sync.Mutex).Lock", "internal/race.Disable", "sync/atomic.CompareAndSwapInt32", "internal/race.Enable", "internal/race.Acquire", "(*internal/sync.Mutex).lockSlow", "internal/sync.runtime_canSpin", "internal/sync.runtime_doSpin", "internal/sync.throw", "internal/sync.runtime_nanotime", "internal/sync.runtime_SemacquireMutex", "sync/atomic.AddInt32", "(*internal/sync.Mutex).Unlock", "internal/race.ReleaseMerge", "(*internal/sync.Mutex).unlockSlow", "internal/sync.fatal", "internal/sync.runtime_Semrelease", "internal/bytealg.Compare"], unfollowed := true, recurses := true, plainKeys := false, apart := false }
def LawS3308BPrecedeSaid : Prop := lawS3308BPrecedeRow.holds Yba.pinned (OpenSpec.ofChange lawS3308BPrecedeSpec)

/-- ITS FALSE NEIGHBOUR: 'it returns false'. Refute it at one input. -/
def lawS3308BPrecedeWrong : ChangeSpec := { name := "lawS3308BPrecede", fn := fun _ => fun
  | [d1, d2, d3, d4, d5, d6, d7, d8] => { results := [.lit (.bool false)], args := [d1, d2, d3, d4, d5, d6, d7, d8] }
  | _ => none }
def LawS3308BPrecedeWrongFalsely : Prop := lawS3308BPrecedeRow.holds Yba.pinned (OpenSpec.ofChange lawS3308BPrecedeWrong)

end Rows
end Go.Proofs.Ybulkbpmg
