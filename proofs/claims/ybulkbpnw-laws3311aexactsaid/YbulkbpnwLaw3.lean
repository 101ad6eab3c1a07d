import Derived.Test.YbulkbpnwLaw2
namespace Go.Proofs.Ybulkbpnw
open Go.RowKit
set_option linter.unusedVariables false
set_option linter.unusedSimpArgs false
attribute [local go_sem] neq23 neq36 neq40 neq34 assert36

theorem last_fail {w w5 : World} {ao : Option Addr} {n sb gs : Nat} {zs : List Int} (hA : OpsA w ao n zs) (hB : Below w.heap.size w w5) (hS : Stm w5 sb gs n (itemsOf (zs.take n))) (lcs : (itemsOf (zs.take n)).length = n * 3) :
    ∀ j, j < n → ∃ b off z o6 cap6, ao = .some ⟨b, off, none⟩ ∧ 0 ≤ z ∧ z ≤ 255 ∧ w5.cell? ⟨sb, 0, none⟩ = .some (.slice (.some ⟨gs, o6, none⟩) n cap6) ∧ w5.cell? ⟨b, off + j, none⟩ = .some (.int .u8 z) ∧ w5.cell? ⟨gs, o6 + j * 3, none⟩ = .some (.int .u8 1) ∧
      w5.cell? ⟨gs, o6 + j * 3 + 1, none⟩ = .some (.string (wordOf (z % 4))) ∧ w5.cell? ⟨gs, o6 + j * 3 + 2, none⟩ = .some .nilIface := by
  intro j hj
  obtain ⟨o6, cap6, hs, hR, _⟩ := hS.some (by omega)
  have hR' : Row w5 gs o6 n cap6 3 (itemsOf (zs.take n) ++ []) := by rw [List.append_nil]; exact hR
  obtain ⟨b, off, z, h1, h2, h3, h4, h5, h6, h7⟩ := last_facts hA hB hR' lcs j hj
  exact ⟨b, off, z, o6, cap6, h1, h2, h3, hs, h4, h5, h6, h7⟩

set_option maxRecDepth 100000 in
set_option maxHeartbeats 2000000 in
theorem law_fail {w : World} {ao : Option Addr} {n cap : Nat} {zs : List Int} (hA : OpsA w ao n zs) (hn : n ≤ 512) (N : Nat) (hN : N ≤ 255) :
    Calls Yba.prog 3 #[.slice ao n cap, .int .u8 N, .bool true] w fun e w' => e = .returned (.bool true) ∧ Below w.heap.size w w' := by
  have hAw : OpsA (w.alloc (.cells #[.bool true] 4)) ao n zs := by
    rcases hA with h | ⟨b, off, h1, h2⟩
    · exact .inl h
    · exact .inr ⟨b, off, h1, ⟨h2.len, h2.small, fun k hk => cell_later ((Below.refl _ _).alloc (Nat.le_refl _) _) (h2.cell k hk), h2.rng⟩⟩
  have m32 := run_make_row' (P := Yba.prog) 32 23 (.pointer none) 8 Yba.underlying32 info23 rfl .i64 .i64 N (by omega) (by omega)
  have hn' : ¬ (512 : Int) < (n : Int) := by omega
  go_enter Yba.func3, Yba.ntmps3
  go_wp2_with fail
  refine (build_all hAw).mono ?_
  rintro e w2 ⟨rfl, gs, hS, hgs, hB⟩
  obtain ⟨av, hcap, hhead⟩ := hS.head
  have hfb := cell_later hB (World.cell?_alloc_at #[.bool true] 4 w.heap.size 0 rfl)
  rw [World.size_alloc] at hS hgs hhead
  go_wp2_with fail
  go_loopw [9] (fun t wr => ∃ k : Nat, k ≤ N ∧ t = .int .i64 k ∧ Pre wr w2.heap.size N (w2.heap.size + 1 + 1) k ∧ wr.heap.size = w2.heap.size + 1 + 1 + k ∧ Only (fun q => q = w2.heap.size) (W2 w2 N) wr) (fun t _ => N - (intOf t).toNat)
  case atStart => exact ⟨0, Nat.zero_le _, rfl, pre_start w2 N, by simp, Only.refl _ _⟩
  case round =>
    obtain ⟨k, hk, rfl, hP, hsz, hO⟩ := hrel
    have hpb : wr.cell? ⟨w2.heap.size + 1, 0, none⟩ = some (.slice (some ⟨w2.heap.size, 0, none⟩) N N) := hO.cell (by simp) (by simp [W2, go_sem])
    have z1 : w2.heap.size < wr.heap.size := by omega
    have z2 : w2.heap.size + 1 < wr.heap.size := by omega
    have HSZ := hide hsz
    clear hsz
    by_cases hlt : k < N
    · have k0 : (0 : Int) ≤ (k : Int) := by omega
      have k1 : (k : Int) < (N : Int) := by omega
      obtain ⟨v0, hv0⟩ := hP.there k hlt
      have hf0 := hP.fz k hlt
      go_wp2
      go_roundw
      case rel => exact ⟨k + 1, by omega, by go_num, pre_step hP HSZ.out z1 hlt _, by have := HSZ.out; simp; omega, (hO.setCell (q := ⟨w2.heap.size, k, none⟩) rfl _).alloc _⟩
      case measure => simp [intOf]; omega
    · have hkN : k = N := by omega
      subst hkN
      go_wp2_with fail
      refine (new_any _ _).mono ?_
      rintro e w3 ⟨rfl, rfl⟩
      go_wp2_with fail
      have hfr : wr.cell? ⟨w.heap.size, 0, none⟩ = some (.bool true) := hO.cell (by simp; have := hS.sb_lt; omega) ((W2_only w2 k).cell (fun h => h) hfb)
      have V := vars_of hfr hpb hP z1 hN
      have hSr : Stm (W3 wr) (w.heap.size + 1) gs n (itemsOf (zs.take n)) := (((hS.later (W2_only w2 k) (fun h => h) (fun h => h)).later hO (fun e => by have := hS.sb_lt; omega) (fun e => by have := hS.lt; omega))).later (W3_only wr) (fun h => h) (fun h => h)
      have y1 := hS.sb_lt
      have y2 := hS.lt
      refine (del_fail (sb := w.heap.size + 1) V).mono ?_
      rintro e w5 ⟨rfl, c5, O5⟩
      have S5 : Stm w5 (w.heap.size + 1) gs n (itemsOf (zs.take n)) := hSr.later O5 (by simp; omega) (by simp; omega)
      have lcs : (itemsOf (zs.take n)).length = n * 3 := hS.len
      have o5 := O5.cell (a := ⟨wr.heap.size + 1 + 1 + 1, 0, none⟩) (by simp) V.caps.o
      have f5 := O5.cell (a := ⟨w.heap.size, 0, none⟩) (by simp; omega) V.caps.f
      have e5 := O5.cell (a := ⟨wr.heap.size + 1, 0, none⟩) (by simp) V.caps.e
      obtain ⟨av5, cap5, hs6⟩ := S5.head
      have y8 := World.block_lt_of_cell? _ _ f5
      have y9 := O5.size
      rw [W3_size] at y9
      simp only at y8
      have HB5 : Hid (Below w.heap.size w w5) := (((((Below.refl _ w).alloc (Nat.le_refl _) _).trans (hB.mono (by simp))).trans (((W2_only w2 k).below (fun _ _ h => h.elim) (by omega)))).trans (hO.below (fun q _ h => by omega) (by rw [show (W2 w2 k).heap.size = w2.heap.size + 1 + 1 by simp [W2]]; omega))).trans
        (((W3_only wr).below (fun _ _ h => h.elim) (by omega)).trans (O5.below (fun q _ h => by omega) (by rw [W3_size]; omega)))
      have LA := hide (fun j hj => last_fail hA HB5.out S5 lcs j hj)
      clear V O5 S5 m32 hSr hO hP hS hA hAw hhead hfb hfr hpb
      go_wp2_with fail
      go_loopw [193] (fun t wq => ∃ j : Nat, j ≤ n ∧ t = .int .i64 j ∧ Only (fun _ => False) w5 wq) (fun t _ => n - (intOf t).toNat)
      case atStart => exact ⟨0, Nat.zero_le _, rfl, Only.refl _ _⟩
      case round =>
        obtain ⟨j, hj, rfl, hQ⟩ := hrel
        by_cases hjn : j < n
        · have j0 : (0 : Int) ≤ (j : Int) := by omega
          have j1 : (j : Int) < (n : Int) := by omega
          have j2 : (j : Int) < (n : Int) + 2 := by omega
          obtain ⟨b, off, z, o6, cap6, hao, z0, z1', hs7, hzc, e0, e1, e2⟩ := LA.out j hjn
          subst hao
          have s6 := hQ.cell (fun h => h) hs7
          have zc := hQ.cell (fun h => h) hzc
          have f0 := hQ.cell (fun h => h) e0
          have f1 := hQ.cell (fun h => h) e1
          have f2 := hQ.cell (fun h => h) e2
          go_wp2
          go_quiet ((go_at_call 9; exact Calls.quiet_of_same (wordf_any _ _)))
          go_wp2
          go_roundw
          case rel => exact ⟨j + 1, by omega, by go_num, (hQ.alloc _).drewN _⟩
          case measure => simp [intOf]; omega
        · go_wp2
          go_ret
          exact ⟨rfl, HB5.out.trans (hQ.below (fun _ _ h => h.elim) (by omega))⟩
end Go.Proofs.Ybulkbpnw
