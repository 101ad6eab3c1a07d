import Derived.Test.YbulkbpmgRows
import Derived.WalkKit
import Derived.WalkSpells
import Derived.WalkLawsBesides
import Derived.Handy
import Derived.BigQuiet
import Derived.BigRegion
import Derived.Deep.QuietTactic
namespace Go.Proofs.Ybulkbpmg
open Go.RowKit
set_option linter.unusedVariables false

theorem setCell_drewN (w : World) (n : Nat) (a : Addr) (v : Value) : (w.drewN n).setCell a v = (w.setCell a v).drewN n := rfl
theorem alloc_drewN (w : World) (n : Nat) (o : Obj) : (w.drewN n).alloc o = (w.alloc o).drewN n := rfl

set_option maxHeartbeats 400000 in
theorem saw_any (b o rb n : Nat) (i : Nat) (look now : Int) (w : World) (hi : i < n)
    (h1 : w.cell? ⟨b, o + 1, none⟩ = some (.slice (some ⟨rb, 0, none⟩) n n))
    (hr : w.cell? ⟨rb, i, none⟩ = some (.bool false))
    (h2 : w.cell? ⟨b, o + 2, none⟩ = some (.int .i64 0))
    (h3 : w.cell? ⟨b, o + 3, none⟩ = some (.bool false))
    (h4 : ∃ v, w.cell? ⟨b, o + 4, none⟩ = some v)
    (h5 : ∃ v, w.cell? ⟨b, o + 5, none⟩ = some v)
    (h7 : ∃ v, w.cell? ⟨b, o + 7, none⟩ = some v)
    (h8 : w.cell? ⟨b, o + 8, none⟩ = some (.bool false))
    (hf : ∀ k, w.frozen? ⟨b, o + k, none⟩ = false) :
    Calls Yba.prog 32 #[.pointer (some ⟨b, o, none⟩), .int .i64 i, .bool false, .int .u64 look, .int .i64 now] w fun e w' => e = .returned (.tuple #[]) ∧
      w' = (((w.setCell ⟨b, o + 3, none⟩ (.bool true)).setCell ⟨b, o + 4, none⟩ (.int .i64 now)).setCell ⟨b, o + 5, none⟩ (.int .u64 look)).setCell ⟨b, o + 7, none⟩ (.int .i64 0) := by
  obtain ⟨v4, h4⟩ := h4
  obtain ⟨v5, h5⟩ := h5
  obtain ⟨v7, h7⟩ := h7
  have i0 : (0 : Int) ≤ (i : Int) := by omega
  have i1 : (i : Int) < (n : Int) := by omega
  go_enter Yba.func32, Yba.ntmps32
  go_wp2
  go_end0
  exact ⟨rfl, rfl⟩
end Go.Proofs.Ybulkbpmg
