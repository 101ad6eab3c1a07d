import Derived.Test.YbulkbpmgKit
namespace Go.Proofs.Ybulkbpmg
open Go.RowKit
set_option linter.unusedVariables false
attribute [local go_sem] setCell_drewN alloc_drewN setCells_drewN setCells_drew setCells_alloc_at setCells_alloc_past there_new there_past stateArr_size run_load67 run_store67
attribute [local go_sem ↓] load67_in store67_in

set_option maxHeartbeats 400000 in
theorem onRing_yes (b wb n xb : Nat) (i : Nat) (w : World) (hi : i < n)
    (h2 : w.cell? ⟨b, 2, none⟩ = some (.slice (some ⟨wb, 0, none⟩) n n))
    (hw : w.cell? ⟨wb, i * 23, none⟩ = some (.slice (some ⟨xb, 0, none⟩) 1 1)) :
    Calls Yba.prog 23 #[.pointer (some ⟨b, 0, none⟩), .int .i64 i] w fun e w' => e = .returned (.bool true) ∧ w' = w := by
  have i0 : (0 : Int) ≤ (i : Int) := by omega
  have i1 : (i : Int) < (n : Int) := by omega
  go_enter Yba.func23, Yba.ntmps23
  go_wp2
  go_ret
  exact ⟨rfl, rfl⟩

theorem keep_hold {w wx : World} {a0 a1 a2 a3 : Addr} {v0 v1 v2 v3 : Value} {b o : Nat} (h0 : w.cell? a0 = some v0) (h1 : w.cell? a1 = some v1) (h2 : w.cell? a2 = some v2) (h3 : w.cell? a3 = some v3) (h : restZero w b o) (hb : Below w.heap.size w wx) :
    Below w.heap.size w wx ∧ wx.cell? a0 = some v0 ∧ wx.cell? a1 = some v1 ∧ wx.cell? a2 = some v2 ∧ wx.cell? a3 = some v3 ∧ restZero wx b o :=
  ⟨hb, cell_later hb h0, cell_later hb h1, cell_later hb h2, cell_later hb h3, h.elim fun c h => ⟨c, range_later hb h⟩⟩

set_option maxRecDepth 100000 in
set_option maxHeartbeats 1600000 in
theorem holds_nil (b nb wb n : Nat) (i : Nat) (w : World) (hi : i < n) (xb : Nat)
    (h0 : w.cell? ⟨b, 0, none⟩ = some (.slice (some ⟨nb, 0, none⟩) n n))
    (h2 : w.cell? ⟨b, 2, none⟩ = some (.slice (some ⟨wb, 0, none⟩) n n))
    (hn : w.cell? ⟨nb, i, none⟩ = some (.pointer none))
    (hw : w.cell? ⟨wb, i * 23, none⟩ = some (.slice (some ⟨xb, 0, none⟩) 1 1))
    (hz : restZero w wb (i * 23)) :
    Calls Yba.prog 31 #[.pointer (some ⟨b, 0, none⟩), .int .i64 i] w fun e w' => e = .returned (.tuple #[.bool false, .bool false]) ∧ Below w.heap.size w w' := by
  have i0 : (0 : Int) ≤ (i : Int) := by omega
  have i1 : (i : Int) < (n : Int) := by omega
  go_enter Yba.func31, Yba.ntmps31
  go_wp2
  go_region_held3 (fun w' => Below w.heap.size w w' ∧ w'.cell? ⟨b, 0, none⟩ = some (.slice (some ⟨nb, 0, none⟩) n n) ∧ w'.cell? ⟨b, 2, none⟩ = some (.slice (some ⟨wb, 0, none⟩) n n) ∧ w'.cell? ⟨nb, i, none⟩ = some (.pointer none) ∧ w'.cell? ⟨wb, i * 23, none⟩ = some (.slice (some ⟨xb, 0, none⟩) 1 1) ∧ restZero w' wb (i * 23))
    ((go_split_ands; refine keep_hold h0 h2 hn hw hz ?_; go_grown)) (fail)
  all_goals go_wp2
  all_goals (refine bodyPost_ret (v := .tuple #[.bool false, .bool false]) (by simp [results, Yba.results31, go_sem]) rfl ⟨rfl, ?_⟩; go_grown)
end Go.Proofs.Ybulkbpmg
