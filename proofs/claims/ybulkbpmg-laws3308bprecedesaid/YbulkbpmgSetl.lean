import Derived.Test.YbulkbpmgSaw
import Derived.Deep.RegionHeld3
import Derived.Deep.DrawnRows
namespace Go.Proofs.Ybulkbpmg
open Go.RowKit
set_option linter.unusedVariables false
attribute [local go_sem] setCell_drewN alloc_drewN

set_option maxHeartbeats 400000 in
theorem re_early (b o : Nat) (i : Nat) (look started : Int) (w : World) (hlt : started < look)
    (h3 : w.cell? ⟨b, o + 3, none⟩ = some (.bool true))
    (h5 : w.cell? ⟨b, o + 5, none⟩ = some (.int .u64 look)) :
    Calls Yba.prog 16 #[.pointer (some ⟨b, o, none⟩), .int .i64 i, .int .u64 started] w fun e w' => e = .returned (.tuple #[]) ∧ ∃ m, w' = w.drewN m := by
  go_enter Yba.func16, Yba.ntmps16
  go_wp2
  go_quiet (fail)
  go_wp2
  go_returns
  exact ⟨rfl, _, rfl⟩

set_option maxHeartbeats 400000 in
theorem re_had (b o rb n : Nat) (i : Nat) (look started : Int) (w : World) (hi : i < n) (hlt : ¬ started < look)
    (h3 : w.cell? ⟨b, o + 3, none⟩ = some (.bool true))
    (h5 : w.cell? ⟨b, o + 5, none⟩ = some (.int .u64 look))
    (h6 : w.cell? ⟨b, o + 6, none⟩ = some (.slice (some ⟨rb, 0, none⟩) n n))
    (hr : w.cell? ⟨rb, i, none⟩ = some (.int .u64 look)) :
    Calls Yba.prog 16 #[.pointer (some ⟨b, o, none⟩), .int .i64 i, .int .u64 started] w fun e w' => e = .returned (.tuple #[]) ∧ ∃ m, w' = w.drewN m := by
  have i0 : (0 : Int) ≤ (i : Int) := by omega
  have i1 : (i : Int) < (n : Int) := by omega
  have hd : decide (started < look) = false := by simpa using hlt
  go_enter Yba.func16, Yba.ntmps16
  go_wp2
  go_quiet (fail)
  go_wp2
  go_returns
  exact ⟨rfl, _, rfl⟩

set_option maxHeartbeats 400000 in
theorem re_new (b o rb n : Nat) (i : Nat) (look started r0 size now : Int) (w : World) (hi : i < n) (hlt : ¬ started < look) (hne : (r0 == look) = false) (hb : b ≠ rb)
    (h0 : w.cell? ⟨b, o, none⟩ = some (.int .i64 size)) (hsz : (1 == size) = false)
    (h3 : w.cell? ⟨b, o + 3, none⟩ = some (.bool true))
    (h5 : w.cell? ⟨b, o + 5, none⟩ = some (.int .u64 look))
    (h6 : w.cell? ⟨b, o + 6, none⟩ = some (.slice (some ⟨rb, 0, none⟩) n n))
    (h7 : w.cell? ⟨b, o + 7, none⟩ = some (.int .i64 0))
    (hr : w.cell? ⟨rb, i, none⟩ = some (.int .u64 r0))
    (hf : ∀ k, w.frozen? ⟨b, o + k, none⟩ = false) (hfr : w.frozen? ⟨rb, i, none⟩ = false) :
    Calls Yba.prog 16 #[.pointer (some ⟨b, o, none⟩), .int .i64 i, .int .u64 started] w fun e w' => e = .returned (.tuple #[]) ∧
      ∃ m, w' = ((w.setCell ⟨rb, i, none⟩ (.int .u64 look)).setCell ⟨b, o + 7, none⟩ (.int .i64 1)).drewN m := by
  have i0 : (0 : Int) ≤ (i : Int) := by omega
  have i1 : (i : Int) < (n : Int) := by omega
  have hd : decide (started < look) = false := by simpa using hlt
  go_enter Yba.func16, Yba.ntmps16
  go_wp2
  go_quiet (fail)
  go_wp2
  go_region
  go_wp2
  go_quiet (fail)
  go_wp2
  go_end0
  exact ⟨rfl, _, World.drewN_drewN ..⟩

set_option maxHeartbeats 400000 in
theorem re_done (b o rb n : Nat) (i : Nat) (look started r0 now : Int) (w : World) (hi : i < n) (hlt : ¬ started < look) (hne : (r0 == look) = false) (hb : b ≠ rb)
    (h0 : w.cell? ⟨b, o, none⟩ = some (.int .i64 1))
    (h3 : w.cell? ⟨b, o + 3, none⟩ = some (.bool true))
    (h4 : w.cell? ⟨b, o + 4, none⟩ = some (.int .i64 now))
    (h5 : w.cell? ⟨b, o + 5, none⟩ = some (.int .u64 look))
    (h6 : w.cell? ⟨b, o + 6, none⟩ = some (.slice (some ⟨rb, 0, none⟩) n n))
    (h7 : w.cell? ⟨b, o + 7, none⟩ = some (.int .i64 0))
    (h8 : ∃ v, w.cell? ⟨b, o + 8, none⟩ = some v)
    (h9 : ∃ v, w.cell? ⟨b, o + 9, none⟩ = some v)
    (hr : w.cell? ⟨rb, i, none⟩ = some (.int .u64 r0))
    (hf : ∀ k, w.frozen? ⟨b, o + k, none⟩ = false) (hfr : w.frozen? ⟨rb, i, none⟩ = false) :
    Calls Yba.prog 16 #[.pointer (some ⟨b, o, none⟩), .int .i64 i, .int .u64 started] w fun e w' => e = .returned (.tuple #[]) ∧
      ∃ m, w' = (((((w.setCell ⟨rb, i, none⟩ (.int .u64 look)).setCell ⟨b, o + 7, none⟩ (.int .i64 1)).setCell ⟨b, o + 3, none⟩ (.bool false)).setCell ⟨b, o + 8, none⟩ (.bool true)).setCell ⟨b, o + 9, none⟩ (.int .i64 now)).drewN m := by
  obtain ⟨v8, h8⟩ := h8
  obtain ⟨v9, h9⟩ := h9
  have i0 : (0 : Int) ≤ (i : Int) := by omega
  have i1 : (i : Int) < (n : Int) := by omega
  have hd : decide (started < look) = false := by simpa using hlt
  go_enter Yba.func16, Yba.ntmps16
  go_wp2
  go_quiet (fail)
  go_wp2
  go_region
  go_wp2
  go_quiet (fail)
  go_wp2
  go_end0
  exact ⟨rfl, _, rfl⟩
end Go.Proofs.Ybulkbpmg
