import Derived.Test.YbulkbpnwLaw
import Derived.Deep.DeepCutAuto
namespace Go.Proofs.Ybulkbpnw
open Go.RowKit
set_option linter.unusedVariables false
set_option linter.unusedSimpArgs false
attribute [local go_sem] neq23 neq36 neq40 neq34 assert36

/-- The row of statements that the law makes: the first k are there. -/
structure Pre (w : World) (pr N h0 k : Nat) : Prop where
  row : ∀ j, j < k → w.cell? ⟨pr, j, none⟩ = some (.pointer (some ⟨h0 + j, 0, none⟩))
  there : ∀ j, j < N → ∃ v, w.cell? ⟨pr, j, none⟩ = some v
  fz : ∀ j, j < N → w.frozen? ⟨pr, j, none⟩ = false

theorem Stm.len {w : World} {sb g n : Nat} {cs : List Value} (h : Stm w sb g n cs) : cs.length = n * 3 := by
  rcases h.st with ⟨_, rfl, _, rfl, _⟩ | ⟨o, cap, _, hr, _⟩
  · rfl
  · exact hr.len
theorem Stm.some {w : World} {sb g n : Nat} {cs : List Value} (h : Stm w sb g n cs) (hn : 0 < n) : ∃ o cap, w.cell? ⟨sb, 0, none⟩ = .some (.slice (.some ⟨g, o, none⟩) n cap) ∧ Row w g o n cap 3 cs ∧ ((g = sb ∧ o = 1 ∧ cap = 3) ∨ g ≠ sb) := by
  rcases h.st with ⟨_, rfl, _⟩ | h
  · omega
  · exact h
theorem Grp.head {w : World} {gb g n : Nat} {cs : List Value} (h : Grp w gb g n cs) : ∃ av cap, w.cell? ⟨gb, 2, none⟩ = .some (.slice av n cap) := by
  rcases h.st with ⟨c, rfl, _⟩ | ⟨o, cap, c, _⟩
  · exact ⟨_, _, c⟩
  · exact ⟨_, _, c⟩

theorem Grp.some {w : World} {gb g n : Nat} {cs : List Value} (h : Grp w gb g n cs) (hn : 0 < n) : ∃ o cap, w.cell? ⟨gb, 2, none⟩ = .some (.slice (.some ⟨g, o, none⟩) n cap) ∧ Row w g o n cap 1 cs ∧ ((g = gb ∧ o = 3 ∧ cap = 2) ∨ g ≠ gb) := by
  rcases h.st with ⟨_, rfl, _⟩ | h
  · omega
  · exact h

/-- What the last loop reads in its round j. -/
theorem last_facts {w w5 : World} {ao : Option Addr} {n m cap6 gs o6 : Nat} {zs : List Int} {ds : List Value} (hA : OpsA w ao n zs) (hB : Below w.heap.size w w5) (hR : Row w5 gs o6 m cap6 3 (itemsOf (zs.take n) ++ ds)) (lcs : (itemsOf (zs.take n)).length = n * 3) :
    ∀ j, j < n → ∃ b off z, ao = .some ⟨b, off, none⟩ ∧ 0 ≤ z ∧ z ≤ 255 ∧ w5.cell? ⟨b, off + j, none⟩ = .some (.int .u8 z) ∧ w5.cell? ⟨gs, o6 + j * 3, none⟩ = .some (.int .u8 1) ∧
      w5.cell? ⟨gs, o6 + j * 3 + 1, none⟩ = .some (.string (wordOf (z % 4))) ∧ w5.cell? ⟨gs, o6 + j * 3 + 2, none⟩ = .some .nilIface := by
  intro j hj
  rcases hA with ⟨h, _⟩ | ⟨b, off, hao, hZ⟩
  · omega
  · have hl := hZ.len
    obtain ⟨i0, i1, i2⟩ := itemsOf_get (zs.take n) j (by simp; omega)
    have hg : (zs.take n).getD j 0 = zs.getD j 0 := by simp [List.getElem?_take, hj]
    rw [hg] at i1
    refine ⟨b, off, zs.getD j 0, hao, (hZ.rng j).1, (hZ.rng j).2, cell_later hB (hZ.cell j hj), ?_, ?_, ?_⟩
    · exact hR.at' _ _ (by rw [List.getElem?_append_left (by omega)]; exact i0)
    · exact hR.at' (j * 3 + 1) _ (by rw [List.getElem?_append_left (by omega)]; exact i1)
    · exact hR.at' (j * 3 + 2) _ (by rw [List.getElem?_append_left (by omega)]; exact i2)

/-- The world ahead of the loop that makes the statements. -/
def W2 (w2 : World) (N : Nat) : World := (w2.alloc (.cells (madeCells #[.pointer none] N) 23)).alloc (.cells #[.slice (some ⟨w2.heap.size, 0, none⟩) N N] 32)

theorem pre_start (w2 : World) (N : Nat) : Pre (W2 w2 N) w2.heap.size N (w2.heap.size + 1 + 1) 0 := by
  refine ⟨fun j hj => by omega, fun j hj => ⟨.pointer none, ?_⟩, fun j hj => ?_⟩
  · unfold W2
    rw [World.cell?_alloc_past _ _ _ (by simp), World.cell?_alloc_at _ _ _ _ rfl]
    exact made_get _ _ _ hj
  · unfold W2
    rw [World.frozen?_alloc_past _ _ _ (by simp), World.frozen?_alloc_at _ _ _ _ rfl]

theorem W2_only (w2 : World) (N : Nat) : Only (fun _ => False) w2 (W2 w2 N) := ((Only.refl _ _).alloc _).alloc _

theorem pre_step {wr : World} {pr N h0 k : Nat} (hP : Pre wr pr N h0 k) (hsz : wr.heap.size = h0 + k) (hpr : pr < wr.heap.size) (hk : k < N) (o : Obj) :
    Pre ((wr.setCell ⟨pr, k, none⟩ (.pointer (some ⟨wr.heap.size, 0, none⟩))).alloc o) pr N h0 (k + 1) := by
  have hpr' : pr < (wr.setCell ⟨pr, k, none⟩ (.pointer (some ⟨wr.heap.size, 0, none⟩))).heap.size := by simpa using hpr
  obtain ⟨v, hv⟩ := hP.there k hk
  refine ⟨fun j hj => ?_, fun j hj => ?_, fun j hj => ?_⟩
  · rw [World.cell?_alloc_past _ _ _ hpr']
    by_cases e : j = k
    · subst e; rw [World.cell?_setCell_same _ _ _ hv, hsz]
    · rw [World.cell?_setCell_other _ _ _ _ (by simp <;> omega)]; exact hP.row j (by omega)
  · rw [World.cell?_alloc_past _ _ _ hpr']
    by_cases e : j = k
    · subst e; exact ⟨_, World.cell?_setCell_same _ _ _ hv⟩
    · rw [World.cell?_setCell_other _ _ _ _ (by simp <;> omega)]; exact hP.there j hj
  · rw [World.frozen?_alloc_past _ _ _ hpr', World.frozen?_setCell]; exact hP.fz j hj

/-- The world ahead of the call of DeleteFuncErr: the error, four variables. -/
def W3 (wr : World) : World :=
  ((((wr.alloc (.cells #[.string ⟨#[114, 101, 102, 117, 115, 101, 100]⟩] 55)).alloc (.cells #[.iface 53 (.pointer (some ⟨wr.heap.size, 0, none⟩))] 34)).alloc (.cells #[.int .i64 0] 3)).alloc (.cells #[.bool true] 4)).alloc (.cells #[.pointer none] 36)
theorem W3_only (wr : World) : Only (fun _ => False) wr (W3 wr) := (((((Only.refl _ _).alloc _).alloc _).alloc _).alloc _).alloc _
theorem W3_size (wr : World) : (W3 wr).heap.size = wr.heap.size + 1 + 1 + 1 + 1 + 1 := by simp [W3]

theorem vars_of {wr : World} {fb pb pr N h0 : Nat} {fl : Bool} (hfb : wr.cell? ⟨fb, 0, none⟩ = some (.bool fl)) (hpb : wr.cell? ⟨pb, 0, none⟩ = some (.slice (some ⟨pr, 0, none⟩) N N)) (hP : Pre wr pr N h0 N) (hpr : pr < wr.heap.size) (hN : N ≤ 255) :
    Vars (W3 wr) (wr.heap.size + 1 + 1) (wr.heap.size + 1 + 1 + 1) (wr.heap.size + 1 + 1 + 1 + 1) pb fb (wr.heap.size + 1) pr N (fun j => h0 + j) fl 53 (.pointer (some ⟨wr.heap.size, 0, none⟩)) := by
  have O := W3_only wr
  have z1 := World.block_lt_of_cell? _ _ hfb
  have z2 := World.block_lt_of_cell? _ _ hpb
  simp only at z1 z2
  refine ⟨⟨?_, O.cell (fun h => h) hpb, O.cell (fun h => h) hfb, ?_, fun k hk => O.cell (fun h => h) (hP.row k hk)⟩, hN, ?_, ?_, ?_, ?_, Nat.lt_of_lt_of_le hpr O.size, by omega, by omega, by omega, by omega, by omega, by omega, by omega, by omega, by omega, by omega, by omega⟩
  all_goals simp [W3, go_sem]

set_option maxRecDepth 100000 in
set_option maxHeartbeats 2000000 in
theorem law_ok {w : World} {ao : Option Addr} {n cap : Nat} {zs : List Int} (hA : OpsA w ao n zs) (hn : n ≤ 512) (N : Nat) (hN : N ≤ 255) :
    Calls Yba.prog 3 #[.slice ao n cap, .int .u8 N, .bool false] w fun e w' => e = .returned (.bool true) ∧ Below w.heap.size w w' := by
  have hAw : OpsA (w.alloc (.cells #[.bool false] 4)) ao n zs := by
    rcases hA with h | ⟨b, off, h1, h2⟩
    · exact .inl h
    · exact .inr ⟨b, off, h1, ⟨h2.len, h2.small, fun k hk => cell_later ((Below.refl _ _).alloc (Nat.le_refl _) _) (h2.cell k hk), h2.rng⟩⟩
  have m32 := run_make_row' (P := Yba.prog) 32 23 (.pointer none) 8 Yba.underlying32 info23 rfl .i64 .i64 N (by omega) (by omega)
  have hn' : ¬ (512 : Int) < (n : Int) := by omega
  go_enter Yba.func3, Yba.ntmps3
  go_wp2_with fail
  refine (build_all hAw).mono ?_
  rintro e w2 ⟨rfl, gs, hS, hgs, hB⟩
  obtain ⟨av, hcap, hhead⟩ := hS.head
  have hfb := cell_later hB (World.cell?_alloc_at #[.bool false] 4 w.heap.size 0 rfl)
  rw [World.size_alloc] at hS hgs hhead
  go_wp2_with fail
  go_loopw [9] (fun t wr => ∃ k : Nat, k ≤ N ∧ t = .int .i64 k ∧ Pre wr w2.heap.size N (w2.heap.size + 1 + 1) k ∧ wr.heap.size = w2.heap.size + 1 + 1 + k ∧ Only (fun q => q = w2.heap.size) (W2 w2 N) wr) (fun t _ => N - (intOf t).toNat)
  case atStart => exact ⟨0, Nat.zero_le _, rfl, pre_start w2 N, by simp, Only.refl _ _⟩
  case round =>
    obtain ⟨k, hk, rfl, hP, hsz, hO⟩ := hrel
    have hpb : wr.cell? ⟨w2.heap.size + 1, 0, none⟩ = some (.slice (some ⟨w2.heap.size, 0, none⟩) N N) := hO.cell (by simp) (by simp [W2, go_sem])
    have z1 : w2.heap.size < wr.heap.size := by omega
    have z2 : w2.heap.size + 1 < wr.heap.size := by omega
    have HSZ := hide hsz
    clear hsz
    by_cases hlt : k < N
    · have k0 : (0 : Int) ≤ (k : Int) := by omega
      have k1 : (k : Int) < (N : Int) := by omega
      obtain ⟨v0, hv0⟩ := hP.there k hlt
      have hf0 := hP.fz k hlt
      go_wp2
      go_roundw
      case rel => exact ⟨k + 1, by omega, by go_num, pre_step hP HSZ.out z1 hlt _, by have := HSZ.out; simp; omega, (hO.setCell (q := ⟨w2.heap.size, k, none⟩) rfl _).alloc _⟩
      case measure => simp [intOf]; omega
    · have hkN : k = N := by omega
      subst hkN
      go_wp2_with fail
      refine (new_any _ _).mono ?_
      rintro e w3 ⟨rfl, rfl⟩
      go_wp2_with fail
      have hfr : wr.cell? ⟨w.heap.size, 0, none⟩ = some (.bool false) := hO.cell (by simp; have := hS.sb_lt; omega) ((W2_only w2 k).cell (fun h => h) hfb)
      have V := vars_of hfr hpb hP z1 hN
      have hSr : Stm (W3 wr) (w.heap.size + 1) gs n (itemsOf (zs.take n)) := (((hS.later (W2_only w2 k) (fun h => h) (fun h => h)).later hO (fun e => by have := hS.sb_lt; omega) (fun e => by have := hS.lt; omega))).later (W3_only wr) (fun h => h) (fun h => h)
      have y1 := hS.sb_lt
      have y2 := hS.lt
      refine (del_ok V hSr (by omega) (by omega) (by omega) (by omega) (by omega)).mono ?_
      rintro e w5 ⟨rfl, g, gs', G5, hg, S5, hgs', c5, n5, O5⟩
      rw [W3_size] at G5 hg S5 hgs' n5
      have lcs : (itemsOf (zs.take n)).length = n * 3 := hS.len
      have o5 := O5.cell (a := ⟨wr.heap.size + 1 + 1 + 1, 0, none⟩) (by simp; omega) V.caps.o
      have f5 := O5.cell (a := ⟨w.heap.size, 0, none⟩) (by simp; omega) V.caps.f
      have p5 := O5.cell (a := ⟨w2.heap.size + 1, 0, none⟩) (by simp; omega) V.caps.p
      have row5 := hide (fun j hj => O5.cell (a := ⟨w2.heap.size, j, none⟩) (by simp; omega) (V.caps.row j hj))
      obtain ⟨o6, cap6, hs6, R6, hcase6⟩ := S5.some (by omega)
      obtain ⟨gav, gcap, hg6⟩ := G5.head
      have q0 : w5.cell? ⟨gs', o6 + n * 3, none⟩ = some (.int .u8 1) := R6.at' (n * 3) _ (by rw [List.getElem?_append_right (by omega), lcs]; simp [delItems])
      have q1 : w5.cell? ⟨gs', o6 + n * 3 + 1, none⟩ = some (.string ⟨#[100, 101, 108, 101, 116, 101]⟩) := R6.at' (n * 3 + 1) _ (by rw [List.getElem?_append_right (by omega), lcs]; simp [delItems, bDelete])
      have q2 : w5.cell? ⟨gs', o6 + n * 3 + 2, none⟩ = some .nilIface := R6.at' (n * 3 + 2) _ (by rw [List.getElem?_append_right (by omega), lcs]; simp [delItems])
      have q3 : w5.cell? ⟨gs', o6 + (n + 1) * 3, none⟩ = some (.int .u8 0) := R6.at' ((n + 1) * 3) _ (by rw [List.getElem?_append_right (by omega), lcs, show (n + 1) * 3 - n * 3 = 3 by omega]; simp [delItems])
      have q4 : w5.cell? ⟨gs', o6 + (n + 1) * 3 + 1, none⟩ = some (.string ⟨#[]⟩) := R6.at' ((n + 1) * 3 + 1) _ (by rw [List.getElem?_append_right (by omega), lcs, show (n + 1) * 3 + 1 - n * 3 = 4 by omega]; simp [delItems]; rfl)
      have q5 : w5.cell? ⟨gs', o6 + (n + 1) * 3 + 2, none⟩ = some (.iface 36 (.pointer (some ⟨wr.heap.size + 1 + 1 + 1 + 1 + 1, 0, none⟩))) := R6.at' ((n + 1) * 3 + 2) _ (by rw [List.getElem?_append_right (by omega), lcs, show (n + 1) * 3 + 2 - n * 3 = 5 by omega]; simp [delItems])
      have g50 := G5.k0
      have g51 := G5.k1
      have y3 := S5.lt
      have y4 := S5.sb_lt
      have y5 := G5.lt
      have y6 := G5.gb_lt
      have y7 := World.block_lt_of_cell? _ _ p5
      have y8 := World.block_lt_of_cell? _ _ f5
      have n0 : (0 : Int) ≤ (n : Int) := by omega
      have n1 : (n : Int) < (n : Int) + 2 := by omega
      have n2 : (n : Int) + 1 < (n : Int) + 2 := by omega
      simp only at y7 y8
      have y9 : wr.heap.size + 1 + 1 + 1 + 1 < w5.heap.size := by omega
      have ya : w2.heap.size < w5.heap.size := by omega
      have yb : wr.heap.size + 1 + 1 + 1 < w5.heap.size := by omega
      have yc : wr.heap.size + 1 + 1 < w5.heap.size := by omega
      have yd : wr.heap.size + 1 < w5.heap.size := by omega
      have ye : wr.heap.size < w5.heap.size := by omega
      have yf : w.heap.size < w5.heap.size := by omega
      have HB5 : Hid (Below w.heap.size w w5) := (((((Below.refl _ w).alloc (Nat.le_refl _) _).trans (hB.mono (by simp))).trans (((W2_only w2 k).below (fun _ _ h => h.elim) (by omega)))).trans (hO.below (fun q _ h => by omega) (by rw [show (W2 w2 k).heap.size = w2.heap.size + 1 + 1 by simp [W2]]; omega))).trans
        (((W3_only wr).below (fun _ _ h => h.elim) (by omega)).trans (O5.below (fun q _ h => by omega) (by rw [W3_size]; omega)))
      have HA := hide hA
      have HV := hide V
      have HO5 := hide O5
      have HS5 := hide S5
      have HG5 := hide G5
      have HR6 := hide R6
      clear V O5 S5 G5 R6 m32 hSr hO hP hS hA hAw hhead hfb hfr hpb
      go_wp2_with fail
      go_loopw [21] (fun t wq => ∃ j : Nat, j ≤ k ∧ t = .int .i64 j ∧ Only (fun _ => False) w5 wq) (fun t _ => k - (intOf t).toNat)
      case atStart => exact ⟨0, Nat.zero_le _, rfl, ((Only.refl _ _).alloc _).alloc _⟩
      case round =>
        obtain ⟨j, hj, rfl, hQ⟩ := hrel
        have p6 := hQ.cell (fun h => h) p5
        by_cases hjk : j < k
        · have j0 : (0 : Int) ≤ (j : Int) := by omega
          have j1 : (j : Int) < (k : Int) := by omega
          obtain ⟨og, capg, hgc, RG, _⟩ := HG5.out.some (by omega)
          have hgc6 := hQ.cell (fun h => h) hgc
          have r6 := hQ.cell (fun h => h) (row5.out j hjk)
          have i6 := hQ.cell (fun h => h) (RG.at' j (.iface 23 (.pointer (some ⟨w2.heap.size + 1 + 1 + j, 0, none⟩))) (by simp [presOf, hjk]))
          go_wp2
          go_quiet (fail)
          go_wp2
          go_roundw
          case rel => exact ⟨j + 1, by omega, by go_num, hQ.drewN _⟩
          case measure => simp [intOf]; omega
        · have LA := hide (last_facts HA.out HB5.out HR6.out lcs)
          go_wp2_with fail
          go_loopw [193] (fun t wq => ∃ j : Nat, j ≤ n ∧ t = .int .i64 j ∧ Only (fun _ => False) w5 wq) (fun t _ => n - (intOf t).toNat)
          case atStart => exact ⟨0, Nat.zero_le _, rfl, hQ⟩
          case round =>
            obtain ⟨j, hj, rfl, hQ⟩ := hrel
            have s6 := hQ.cell (fun h => h) hs6
            by_cases hjn : j < n
            · have j0 : (0 : Int) ≤ (j : Int) := by omega
              have j1 : (j : Int) < (n : Int) := by omega
              have j2 : (j : Int) < (n : Int) + 2 := by omega
              obtain ⟨b, off, z, hao, z0, z1', hzc, e0, e1, e2⟩ := LA.out j hjn
              subst hao
              have zc := hQ.cell (fun h => h) hzc
              have f0 := hQ.cell (fun h => h) e0
              have f1 := hQ.cell (fun h => h) e1
              have f2 := hQ.cell (fun h => h) e2
              go_wp2
              go_quiet ((go_at_call 9; exact Calls.quiet_of_same (wordf_any _ _)))
              go_wp2
              go_roundw
              case rel => exact ⟨j + 1, by omega, by go_num, (hQ.alloc _).drewN _⟩
              case measure => simp [intOf]; omega
            · go_wp2
              go_ret
              exact ⟨rfl, HB5.out.trans (hQ.below (fun _ _ h => h.elim) (by omega))⟩
end Go.Proofs.Ybulkbpnw
