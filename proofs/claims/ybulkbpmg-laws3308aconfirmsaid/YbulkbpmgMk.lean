import Derived.Test.YbulkbpmgKit
import Derived.Deep.OwnRows
namespace Go.Proofs.Ybulkbpmg
open Go.RowKit
set_option linter.unusedVariables false
set_option linter.unusedSimpArgs false
attribute [local go_sem] setCell_drewN alloc_drewN

theorem made_get (z : Value) (n k : Nat) (h : k < n) : (madeCells #[z] n)[k]? = some z := by
  rw [← Array.getElem?_toList, toList_madeCells_one]
  simp [h]

theorem info24 : (Yba.prog.info? 24).map (fun i => (i.zero, i.size, i.bytes)) = some (some (.int .u64 0), 1, 8) := by kernel_rfl
theorem info4 : (Yba.prog.info? 4).map (fun i => (i.zero, i.size, i.bytes)) = some (some (.bool false), 1, 1) := by kernel_rfl

theorem keep_two {w wx : World} {a0 a1 : Addr} {v0 v1 : Value} (h0 : w.cell? a0 = some v0) (h1 : w.cell? a1 = some v1) (hb : Below w.heap.size w wx) :
    Below w.heap.size w wx ∧ wx.cell? a0 = some v0 ∧ wx.cell? a1 = some v1 := ⟨hb, cell_later hb h0, cell_later hb h1⟩

/-- A settling that 'mk' makes, as a value. -/
def settleV (size : Int) (n rt rb : Nat) : Value :=
  .agg #[.int .i64 size, .slice (some ⟨rt, 0, none⟩) n n, .int .i64 0, .bool false, .int .i64 0, .int .u64 0, .slice (some ⟨rb, 0, none⟩) n n, .int .i64 0, .bool false, .int .i64 0]

/-- The two rows that 'mk' makes. -/
structure MkRows (w : World) (n i rt rb : Nat) (r0 : Int) : Prop where
  ne : rt ≠ rb
  rt0 : ∀ k, k < n → w.cell? ⟨rt, k, none⟩ = some (.bool false)
  rb0 : ∀ k, k < n → w.cell? ⟨rb, k, none⟩ = some (.int .u64 (if k = i then r0 else 0))
  fz : w.frozen? ⟨rb, i, none⟩ = false

theorem MkRows.later {w w' : World} {n i rt rb : Nat} {r0 : Int} (h : MkRows w n i rt rb r0) (hi : i < n) (hb : Below w.heap.size w w') : MkRows w' n i rt rb r0 :=
  ⟨h.ne, fun k hk => cell_later hb (h.rt0 k hk), fun k hk => cell_later hb (h.rb0 k hk), (hb.frozen (World.block_lt_of_cell? _ _ (h.rb0 i hi))).trans h.fz⟩

set_option maxRecDepth 100000 in
set_option maxHeartbeats 800000 in
theorem mk_any {w : World} {nc ric ic sc n i : Nat} {r0 size : Int} (hi : i < n) (hn : n ≤ 8)
    (h0 : w.cell? ⟨nc, 0, none⟩ = some (.int .i64 n)) (h1 : w.cell? ⟨ric, 0, none⟩ = some (.int .u64 r0)) (h2 : w.cell? ⟨ic, 0, none⟩ = some (.int .i64 i)) (h3 : w.cell? ⟨sc, 0, none⟩ = some (.int .i64 size)) :
    Calls Yba.prog 9 #[.pointer (some ⟨nc, 0, none⟩), .pointer (some ⟨ric, 0, none⟩), .pointer (some ⟨ic, 0, none⟩), .pointer (some ⟨sc, 0, none⟩)] w fun e w' => ∃ rt rb, e = .returned (settleV size n rt rb) ∧ Below w.heap.size w w' ∧ w.heap.size ≤ rt ∧ w.heap.size ≤ rb ∧ MkRows w' n i rt rb r0 := by
  have i0 : (0 : Int) ≤ (i : Int) := by omega
  have i1 : (i : Int) < (n : Int) := by omega
  have m1 := run_make_row' (P := Yba.prog) 69 24 (.int .u64 0) 8 Yba.underlying69 info24 rfl .i64 .i64 n (by omega) (by omega)
  have m2 := run_make_row' (P := Yba.prog) 22 4 (.bool false) 1 Yba.underlying22 info4 rfl .i64 .i64 n (by omega) (by omega)
  have mg := made_get (.int .u64 0) n i hi
  have b0 := World.block_lt_of_cell? _ _ h0
  have b1 := World.block_lt_of_cell? _ _ h1
  have b2 := World.block_lt_of_cell? _ _ h2
  have b3 := World.block_lt_of_cell? _ _ h3
  simp only at b0 b1 b2 b3
  go_enter Yba.func9, Yba.ntmps9
  go_wp2
  go_region_held3 (fun w' => Below w.heap.size w w' ∧ w'.cell? ⟨nc, 0, none⟩ = some (.int .i64 n) ∧ w'.cell? ⟨sc, 0, none⟩ = some (.int .i64 size)) ((go_split_ands; refine keep_two h0 h3 ?_; go_grown)) (fail)
  go_wp2
  refine bodyPost_ret (v := settleV size n (w.heap.size + 1 + 1) (w.heap.size + 1)) (by simp [results, Yba.results9, go_sem, settleV]) rfl ⟨w.heap.size + 1 + 1, w.heap.size + 1, rfl, by go_grown, by omega, by omega, ⟨by omega, fun k hk => ?_, fun k hk => ?_, ?_⟩⟩
  · have := made_get (.bool false) n k hk
    simp [go_sem, this]
  · by_cases e : k = i
    · subst e
      simp [go_sem, size_madeCells, hk]
    · have := made_get (.int .u64 0) n k hk
      have e' : i ≠ k := fun h => e h.symm
      simp [go_sem, e, Array.getElem?_setIfInBounds_ne e', this]
  · simp [go_sem]
end Go.Proofs.Ybulkbpmg
