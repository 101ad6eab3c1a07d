import Derived.Test.YbulkbpmgRend
namespace Go.Proofs.Ybulkbpmg
open Go.RowKit
set_option linter.unusedVariables false
set_option linter.unusedSimpArgs false
attribute [local go_sem] setCell_drewN alloc_drewN

set_option maxRecDepth 100000 in
set_option maxHeartbeats 800000 in
theorem settled_any {w : World} {b o n rt rb i : Nat} {size since lk after confirmed ri : Int} {pending reached : Bool} {row : Nat → Int} (hn : n ≤ 8) (h : Settled w b o n rt rb size pending reached since lk after confirmed row)
    (hrow : ∀ k, k < n → row k = if k = i then ri else 0) :
    Calls Yba.prog 8 #[.pointer (some ⟨b, o, none⟩), .int .i64 n, .int .i64 size, .int .i64 i, .int .u64 ri, .int .u64 lk, .bool pending, .bool reached, .int .i64 since, .int .i64 after, .int .i64 confirmed, .int .i64 0] w fun e w' =>
      e = .returned (.bool true) ∧ w' = w := by
  obtain ⟨s0, s1, s2, s3, s4, s5, s6, s7, s8, s9, rt0, rb0⟩ := h
  have RT : Hid (∀ k, k < n → w.cell? ⟨rt, k, none⟩ = some (.bool false)) := rt0
  have RB : Hid (∀ k, k < n → w.cell? ⟨rb, k, none⟩ = some (.int .u64 (row k))) := rb0
  have HR : Hid (∀ k, k < n → row k = if k = i then ri else 0) := hrow
  clear rt0 rb0 hrow
  go_enter Yba.func8, Yba.ntmps8
  go_wp2
  go_loop [25] (fun t => ∃ k : Nat, k ≤ n ∧ t = .int .i64 k) (fun t => n - (intOf t).toNat)
  case atStart => exact ⟨0, Nat.zero_le _, rfl⟩
  case round =>
    obtain ⟨k, hk, rfl⟩ := hrel
    by_cases hlt : k < n
    · have c1 := RT.out k hlt
      have c2 := RB.out k hlt
      have c3 := HR.out k hlt
      by_cases he : k = i
      · rw [if_pos he] at c3
        subst he
        rw [c3] at c2
        clear c3
        go_wp2
        go_round
        case rel => exact ⟨k + 1, by omega, by go_num⟩
        case measure => simp [intOf]; omega
      · rw [if_neg he] at c3
        rw [c3] at c2
        clear c3
        have hd : ((k : Int) == (i : Int)) = false := by simp; omega
        go_wp2
        go_round
        case rel => exact ⟨k + 1, by omega, by go_num⟩
        case measure => simp [intOf]; omega
    · go_wp2
      go_ret
      exact ⟨rfl, rfl⟩

theorem Settled.drewN {w : World} {b o n rt rb : Nat} {size since lk after confirmed : Int} {pending reached : Bool} {row : Nat → Int} (h : Settled w b o n rt rb size pending reached since lk after confirmed row) (m : Nat) :
    Settled (w.drewN m) b o n rt rb size pending reached since lk after confirmed row := ⟨h.s0, h.s1, h.s2, h.s3, h.s4, h.s5, h.s6, h.s7, h.s8, h.s9, h.rt0, h.rb0⟩
theorem Ended.drewN {w : World} {b o n rt rb i : Nat} {size started lk r0 now : Int} (E : Ended w b o n rt rb i size started lk r0 now) (m : Nat) : Ended (w.drewN m) b o n rt rb i size started lk r0 now := Settled.drewN E m

theorem fin_no {w : World} {b o n rt rb i : Nat} {size started lk r0 now : Int} (hn : n ≤ 8) (E : Ended w b o n rt rb i size started lk r0 now) (hC : outC started lk r0 = false) :
    Calls Yba.prog 8 #[.pointer (some ⟨b, o, none⟩), .int .i64 n, .int .i64 size, .int .i64 i, .int .u64 r0, .int .u64 lk, .bool true, .bool false, .int .i64 now, .int .i64 0, .int .i64 0, .int .i64 0] w fun e w' =>
      e = .returned (.bool true) ∧ w' = w := by
  have hD : outD started lk r0 size = false := by unfold outD; rw [hC]; rfl
  unfold Ended at E
  rw [hD, hC] at E
  exact settled_any hn E (fun k hk => by simp [rowOut, hC])

theorem fin_new {w : World} {b o n rt rb i : Nat} {size started lk r0 now : Int} (hn : n ≤ 8) (E : Ended w b o n rt rb i size started lk r0 now) (hC : outC started lk r0 = true) (hs : size ≠ 1) :
    Calls Yba.prog 8 #[.pointer (some ⟨b, o, none⟩), .int .i64 n, .int .i64 size, .int .i64 i, .int .u64 lk, .int .u64 lk, .bool true, .bool false, .int .i64 now, .int .i64 0, .int .i64 1, .int .i64 0] w fun e w' =>
      e = .returned (.bool true) ∧ w' = w := by
  have hD : outD started lk r0 size = false := by unfold outD; simp [hC, hs]
  unfold Ended at E
  rw [hD, hC] at E
  exact settled_any hn E (fun k hk => by simp [rowOut, hC])

theorem fin_done {w : World} {b o n rt rb i : Nat} {started lk r0 now : Int} (hn : n ≤ 8) (E : Ended w b o n rt rb i 1 started lk r0 now) (hC : outC started lk r0 = true) :
    Calls Yba.prog 8 #[.pointer (some ⟨b, o, none⟩), .int .i64 n, .int .i64 1, .int .i64 i, .int .u64 lk, .int .u64 lk, .bool false, .bool true, .int .i64 now, .int .i64 now, .int .i64 1, .int .i64 0] w fun e w' =>
      e = .returned (.bool true) ∧ w' = w := by
  have hD : outD started lk r0 1 = true := by unfold outD; simp [hC]
  unfold Ended at E
  rw [hD, hC] at E
  exact settled_any hn E (fun k hk => by simp [rowOut, hC])
end Go.Proofs.Ybulkbpmg
