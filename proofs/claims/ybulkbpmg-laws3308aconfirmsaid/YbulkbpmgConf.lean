import Derived.Test.YbulkbpmgReady
import Derived.Test.YbulkbpmgSettled
import Derived.Deep.DeepCutAuto
namespace Go.Proofs.Ybulkbpmg
open Go.RowKit
set_option linter.unusedVariables false
set_option linter.unusedSimpArgs false
attribute [local go_sem] setCell_drewN alloc_drewN settleV

set_option maxRecDepth 100000 in
set_option maxHeartbeats 4000000 in
theorem conf_walk (a0 : Int) (a1 : Int) (a2 : Int) (a3 : Int) (a4 : Int) (a5 : Int) (a6 : Int) (w0 : 0 ≤ a0 ∧ a0 ≤ 255) (w1 : 0 ≤ a1 ∧ a1 ≤ 255) (w : World) :
    Calls Yba.prog 4 #[.int .u8 a0, .int .u8 a1, .int .u64 a2, .int .u64 a3, .int .u64 a4, .int .i64 a5, .int .i64 a6] w fun e w' => e = .returned (.bool true) ∧ Below w.heap.size w w' := by
  obtain ⟨w00, w01⟩ := w0
  obtain ⟨w10, w11⟩ := w1
  obtain ⟨N, hN⟩ : ∃ N : Nat, 1 + a0 % 8 = (N : Int) := ⟨(1 + a0 % 8).toNat, by omega⟩
  have N1 : 1 ≤ N := by omega
  have N8 : N ≤ 8 := by omega
  obtain ⟨I, hI⟩ : ∃ I : Nat, a1 % (N : Int) = (I : Int) := ⟨(a1 % (N : Int)).toNat, by have := Int.emod_nonneg a1 (show (N : Int) ≠ 0 by omega); omega⟩
  have IN : I < N := by have := Int.emod_lt_of_pos a1 (show (0 : Int) < N by omega); omega
  have m26 := make26 N N8
  go_enter Yba.func4, Yba.ntmps4
  go_wp2
  go_loopw [18] (fun t wr => ∃ k : Nat, k ≤ N ∧ t = .int .i64 k ∧ Below (w.heap.size + 1 + 1 + 1 + 1) (W0 w a4 a6 N I) wr ∧ w.heap.size + 1 + 1 + 1 + 1 < wr.heap.size ∧ Want wr (w.heap.size + 1 + 1 + 1 + 1) N k) (fun t _ => N - (intOf t).toNat)
  case atStart =>
    refine ⟨0, Nat.zero_le _, rfl, ?_, by simp, ?_⟩
    · try rw [hI]
      exact (Below.refl _ _).alloc (by simp [W0]) _
    · exact Want.made _ N _ (by simp)
  case round =>
    obtain ⟨k, hk, rfl, hB, hZ, hW⟩ := hrel
    obtain ⟨c1, c2, c3, c4⟩ := W0_cells hB
    by_cases hlt : k < N
    · have k0 : (0 : Int) ≤ (k : Int) := by omega
      have k1 : (k : Int) < (N : Int) := by omega
      obtain ⟨v0, hv⟩ := hW.rest k hlt
      have hv0 := hv 0 v0 rfl
      simp only [Nat.add_zero] at hv0
      have hfz := hW.fz k hlt
      clear hv
      go_wp2
      go_roundw
      case rel =>
        refine ⟨k + 1, by omega, by go_num, (hB.setCell (by simp) _).alloc (by simp; omega) _, by simp; omega, hW.step (xb := wr.heap.size) hlt ?_ ?_ ?_⟩
        · rw [World.cell?_alloc_past _ _ _ (by simpa using hZ), World.cell?_setCell_same _ _ _ hv0]
        · intro o v ho hc
          rw [World.cell?_alloc_past _ _ _ (by simpa using hZ), World.cell?_setCell_other _ _ _ _ (by simp <;> omega)]; exact hc
        · intro o
          rw [World.frozen?_alloc_past _ _ _ (by simpa using hZ), World.frozen?_setCell]
      case measure => simp [intOf]; omega
    · have hkN : k = N := by omega
      subst hkN
      have m25 := run_make_row' (P := Yba.prog) 25 27 (.pointer none) 8 Yba.underlying25 info27 rfl .i64 .i64 k (by omega) (by omega)
      go_wp2_with fail
      go_cut [20] (fun v wx => ∃ b nb xb rt1 rb1 rt2 rb2, v = .pointer (some ⟨b, 0, none⟩) ∧ JReady w wx k I b nb (w.heap.size + 1 + 1 + 1 + 1) xb rt1 rb1 rt2 rb2 a2 a6 a4)
      case first =>
        go_region_held3 (fun w' => Below wr.heap.size wr w' ∧ w'.cell? ⟨w.heap.size, 0, none⟩ = some (.int .u64 a4) ∧ w'.cell? ⟨w.heap.size + 1, 0, none⟩ = some (.int .i64 a6) ∧ w'.cell? ⟨w.heap.size + 1 + 1, 0, none⟩ = some (.int .i64 k) ∧ w'.cell? ⟨w.heap.size + 1 + 1 + 1, 0, none⟩ = some (.int .i64 I))
          ((go_split_ands; refine keep_four c1 c2 c3 c4 ?_; first | (go_grown; done) | exact below_new (by assumption) | exact below_call (by assumption) (by assumption)))
          (first | (go_at_call 9; go_split_ands; refine (mk_any (n := k) (i := I) (r0 := a4) (size := a6) IN N8 ?h0 ?h1 ?h2 ?h3).mono ?_; (case h0 => assumption); (case h1 => assumption); (case h2 => assumption); (case h3 => assumption); rintro e w' ⟨rt, rb, rfl, hb, g1, g2, hm⟩))
        all_goals rename_i q5 q6 q7 q8 q9 wa rta rba hba g1a g2a hma p1 p2 p3 p4 p5 hH
        all_goals go_wp2_with fail
        all_goals have za := World.block_lt_of_cell? _ _ (hma.rt0 I IN)
        all_goals have zb := World.block_lt_of_cell? _ _ (hma.rb0 I IN)
        all_goals have zc := World.block_lt_of_cell? _ _ (hm.rt0 I IN)
        all_goals have zd := World.block_lt_of_cell? _ _ (hm.rb0 I IN)
        all_goals simp only at za zb zc zd
        all_goals simp at g1a g2a g1 g2
        · go_meet
          case rel =>
            obtain ⟨xb, hr⟩ := ready_of (looks := a2) (size := a6) (nb := wr.heap.size) IN hB hZ (below_call hb p1) hW (cell_later hb (cell_later hba (by simp [go_sem, made_get _ _ _ IN]))) (hma.later IN hb) hm
              (by omega) (by omega) (by omega) (by omega) (by have := p1.size; omega)
            exact ⟨_, _, xb, _, _, _, _, rfl, hr⟩
        · go_meet
          case rel =>
            have hx : Below wa.heap.size wa (wa.alloc (.cells (madeCells #[.pointer none] k) 27)) := (Below.refl _ _).alloc (Nat.le_refl _) _
            obtain ⟨xb, hr⟩ := ready_of (looks := a2) (size := a6) (nb := wa.heap.size) IN hB hZ (below_call hb p1) hW (cell_later hb (by simp [go_sem, made_get _ _ _ IN])) ((hma.later IN hx).later IN hb) hm
              (by omega) (by omega) (by omega) (by omega) (by have := p1.size; simp at this; omega)
            exact ⟨_, _, xb, _, _, _, _, rfl, hr⟩
        · go_meet
          case rel =>
            have hx : Below w'.heap.size w' (w'.alloc (.cells (madeCells #[.pointer none] k) 27)) := (Below.refl _ _).alloc (Nat.le_refl _) _
            obtain ⟨xb, hr⟩ := ready_of (looks := a2) (size := a6) (nb := w'.heap.size) IN hB hZ (below_new (below_call hb p1)) hW (by simp [go_sem, made_get _ _ _ IN]) ((hma.later IN hb).later IN hx) (hm.later IN hx)
              (by omega) (by omega) (by omega) (by omega) (by have := p1.size; omega)
            rw [World.size_alloc] at hr
            exact ⟨_, _, xb, _, _, _, _, rfl, hr⟩
      case rest =>
        obtain ⟨b, nb, xb, rt1, rb1, rt2, rb2, rfl, R⟩ := hcut
        obtain ⟨d1, d2, d3, d4⟩ := W0_cells R.bel
        go_wp2_with fail
        refine (jend_any a5 a3 R.js R.m1.rt0 R.m2.rt0 R.m1.rb0 R.m2.rb0 R.m1.ne R.e12 R.e21 R.m2.ne).mono ?_
        rintro e w2 ⟨rfl, L3, E1, E2, O⟩
        have hb1 := R.lb
        have hb2 := R.l1
        have hb3 := R.l2
        have f1 := O.cell (a := ⟨w.heap.size, 0, none⟩) (by simp; omega) d1
        have f2 := O.cell (a := ⟨w.heap.size + 1, 0, none⟩) (by simp; omega) d2
        have f3 := O.cell (a := ⟨w.heap.size + 1 + 1, 0, none⟩) (by simp; omega) d3
        have f4 := O.cell (a := ⟨w.heap.size + 1 + 1 + 1, 0, none⟩) (by simp; omega) d4
        have HB : Hid (Below w.heap.size w w2) := (W0_below R.bel).trans (O.below (fun k hk => by rcases hk with h | h | h <;> omega) (W0_below R.bel).size)
        clear d1 d2 d3 d4 c1 c2 c3 c4 O R hB hW m25 m26
        by_cases q1 : IntKind.u64.wrap (a2 + 1) ≤ a3
        · by_cases q2 : a4 = IntKind.u64.wrap (a2 + 1)
          · have hC : outC a3 (IntKind.u64.wrap (a2 + 1)) a4 = false := by unfold outC; simp [q2]
            have q2' : (a4 != IntKind.u64.wrap (a2 + 1)) = false := by simp [q2]
            have F1 : Hid (∀ m, _) := fun m => fin_no N8 (E1.drewN m) hC
            have F2 : Hid (∀ m, _) := fun m => fin_no N8 (E2.drewN m) hC
            clear E1 E2 hC q2
            go_wp2_with fail
            go_quiet ((first | (go_at_call_of 8 (Value.pointer (some { block := b, off := 6 })); exact Calls.quiet_of_same (F1.out _)) | (go_at_call_of 8 (Value.pointer (some { block := b, off := 16 })); exact Calls.quiet_of_same (F2.out _))))
            go_wp2
            go_ret
            exact ⟨rfl, below_drewN HB.out _⟩
          · have hC : outC a3 (IntKind.u64.wrap (a2 + 1)) a4 = true := by unfold outC; simp [q1, q2]
            have q2' : (a4 != IntKind.u64.wrap (a2 + 1)) = true := by simp [q2]
            clear q2
            by_cases q3 : a6 = 1
            · subst q3
              have F1 : Hid (∀ m, _) := fun m => fin_done N8 (E1.drewN m) hC
              have F2 : Hid (∀ m, _) := fun m => fin_done N8 (E2.drewN m) hC
              clear E1 E2 hC
              go_wp2_with fail
              go_quiet ((first | (go_at_call_of 8 (Value.pointer (some { block := b, off := 6 })); exact Calls.quiet_of_same (F1.out _)) | (go_at_call_of 8 (Value.pointer (some { block := b, off := 16 })); exact Calls.quiet_of_same (F2.out _))))
              go_wp2
              go_ret
              exact ⟨rfl, below_drewN HB.out _⟩
            · have F1 : Hid (∀ m, _) := fun m => fin_new N8 (E1.drewN m) hC q3
              have F2 : Hid (∀ m, _) := fun m => fin_new N8 (E2.drewN m) hC q3
              clear E1 E2 hC
              have q3' : (a6 == 1) = false := by simp [q3]
              clear q3
              go_wp2_with fail
              go_quiet ((first | (go_at_call_of 8 (Value.pointer (some { block := b, off := 6 })); exact Calls.quiet_of_same (F1.out _)) | (go_at_call_of 8 (Value.pointer (some { block := b, off := 16 })); exact Calls.quiet_of_same (F2.out _))))
              go_wp2
              go_ret
              exact ⟨rfl, below_drewN HB.out _⟩
        · have hC : outC a3 (IntKind.u64.wrap (a2 + 1)) a4 = false := by unfold outC; simp [q1]
          have q1' : decide (IntKind.u64.wrap (a2 + 1) ≤ a3) = false := by simp [q1]
          have F1 : Hid (∀ m, _) := fun m => fin_no N8 (E1.drewN m) hC
          have F2 : Hid (∀ m, _) := fun m => fin_no N8 (E2.drewN m) hC
          clear E1 E2 hC
          go_wp2_with fail
          go_quiet ((first | (go_at_call_of 8 (Value.pointer (some { block := b, off := 6 })); exact Calls.quiet_of_same (F1.out _)) | (go_at_call_of 8 (Value.pointer (some { block := b, off := 16 })); exact Calls.quiet_of_same (F2.out _))))
          go_wp2
          go_ret
          exact ⟨rfl, below_drewN HB.out _⟩
end Go.Proofs.Ybulkbpmg
