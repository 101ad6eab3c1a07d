import Derived.Test.YbulkbpmgLook
import Derived.Test.YbulkbpmgSetl
namespace Go.Proofs.Ybulkbpmg
open Go.RowKit
set_option linter.unusedVariables false
set_option linter.unusedSimpArgs false
attribute [local go_sem] setCell_drewN alloc_drewN

/-- The judge behind its look. -/
structure JP (w : World) (b n rt1 rt2 rb1 rb2 i : Nat) (lk now size r0 : Int) : Prop where
  hi : i < n
  h3 : w.cell? ⟨b, 3, none⟩ = some (.int .u64 lk)
  k0 : w.cell? ⟨b, 6, none⟩ = some (.int .i64 size)
  k1 : w.cell? ⟨b, 7, none⟩ = some (.slice (some ⟨rt1, 0, none⟩) n n)
  k2 : w.cell? ⟨b, 8, none⟩ = some (.int .i64 0)
  k3 : w.cell? ⟨b, 9, none⟩ = some (.bool true)
  k4 : w.cell? ⟨b, 10, none⟩ = some (.int .i64 now)
  k5 : w.cell? ⟨b, 11, none⟩ = some (.int .u64 lk)
  k6 : w.cell? ⟨b, 12, none⟩ = some (.slice (some ⟨rb1, 0, none⟩) n n)
  krb : w.cell? ⟨rb1, i, none⟩ = some (.int .u64 r0)
  k7 : w.cell? ⟨b, 13, none⟩ = some (.int .i64 0)
  k8 : w.cell? ⟨b, 14, none⟩ = some (.bool false)
  k9 : w.cell? ⟨b, 15, none⟩ = some (.int .i64 0)
  l0 : w.cell? ⟨b, 16, none⟩ = some (.int .i64 size)
  l1 : w.cell? ⟨b, 17, none⟩ = some (.slice (some ⟨rt2, 0, none⟩) n n)
  l2 : w.cell? ⟨b, 18, none⟩ = some (.int .i64 0)
  l3 : w.cell? ⟨b, 19, none⟩ = some (.bool true)
  l4 : w.cell? ⟨b, 20, none⟩ = some (.int .i64 now)
  l5 : w.cell? ⟨b, 21, none⟩ = some (.int .u64 lk)
  l6 : w.cell? ⟨b, 22, none⟩ = some (.slice (some ⟨rb2, 0, none⟩) n n)
  lrb : w.cell? ⟨rb2, i, none⟩ = some (.int .u64 r0)
  l7 : w.cell? ⟨b, 23, none⟩ = some (.int .i64 0)
  l8 : w.cell? ⟨b, 24, none⟩ = some (.bool false)
  l9 : w.cell? ⟨b, 25, none⟩ = some (.int .i64 0)
  hf : ∀ k, w.frozen? ⟨b, k, none⟩ = false
  hfb1 : w.frozen? ⟨rb1, i, none⟩ = false
  hfb2 : w.frozen? ⟨rb2, i, none⟩ = false
  hb3 : rt1 ≠ b
  hb4 : rt2 ≠ b
  hb5 : rb1 ≠ b
  hb6 : rb2 ≠ b
  hbb : rb1 ≠ rb2

set_option maxHeartbeats 1000000 in
theorem jp_of_look {b nb wb n rt1 rt2 rb1 rb2 i xb : Nat} {looks size r0 lk : Int} {w w1 : World} (now : Int) (m : Nat) (J : JS w b nb wb n rt1 rt2 rb1 rb2 i xb looks size r0)
    (hB : Below (w.setCell ⟨b, 3, none⟩ (.int .u64 lk)).heap.size (w.setCell ⟨b, 3, none⟩ (.int .u64 lk)) w1) :
    JP ((lookW w1 b lk now).drewN m) b n rt1 rt2 rb1 rb2 i lk now size r0 ∧ Only (fun k => k = b) w ((lookW w1 b lk now).drewN m) := by
  have g3 : w1.cell? ⟨b, 3, none⟩ = some (.int .u64 lk) := cell_later hB (World.cell?_setCell_same _ _ _ J.h3)
  refine ⟨⟨J.hi, (by unfold lookW; simp [World.cell?_setCell_other, g3]), (by unfold lookW; simp [World.cell?_setCell_other, later3 hB (by simp) J.k0]), (by unfold lookW; simp [World.cell?_setCell_other, later3 hB (by simp) J.k1]), (by unfold lookW; simp [World.cell?_setCell_other, later3 hB (by simp) J.k2]), (by unfold lookW; simp [World.cell?_setCell_other, World.cell?_setCell_same', later3 hB (by simp) J.k3]), (by unfold lookW; simp [World.cell?_setCell_other, World.cell?_setCell_same', later3 hB (by simp) J.k4]), (by unfold lookW; simp [World.cell?_setCell_other, World.cell?_setCell_same', later3 hB (by simp) J.k5]), (by unfold lookW; simp [World.cell?_setCell_other, later3 hB (by simp) J.k6]), (by unfold lookW; simp [World.cell?_setCell_other, J.hb5.symm, later3 hB (by simp [J.hb5.symm]) J.krb]), (by unfold lookW; simp [World.cell?_setCell_other, World.cell?_setCell_same', later3 hB (by simp) J.k7]), (by unfold lookW; simp [World.cell?_setCell_other, later3 hB (by simp) J.k8]), (by unfold lookW; simp [World.cell?_setCell_other, later3 hB (by simp) J.k9]), (by unfold lookW; simp [World.cell?_setCell_other, later3 hB (by simp) J.l0]), (by unfold lookW; simp [World.cell?_setCell_other, later3 hB (by simp) J.l1]), (by unfold lookW; simp [World.cell?_setCell_other, later3 hB (by simp) J.l2]), (by unfold lookW; simp [World.cell?_setCell_other, World.cell?_setCell_same', later3 hB (by simp) J.l3]), (by unfold lookW; simp [World.cell?_setCell_other, World.cell?_setCell_same', later3 hB (by simp) J.l4]), (by unfold lookW; simp [World.cell?_setCell_other, World.cell?_setCell_same', later3 hB (by simp) J.l5]), (by unfold lookW; simp [World.cell?_setCell_other, later3 hB (by simp) J.l6]), (by unfold lookW; simp [World.cell?_setCell_other, J.hb6.symm, later3 hB (by simp [J.hb6.symm]) J.lrb]), (by unfold lookW; simp [World.cell?_setCell_other, World.cell?_setCell_same', later3 hB (by simp) J.l7]), (by unfold lookW; simp [World.cell?_setCell_other, later3 hB (by simp) J.l8]), (by unfold lookW; simp [World.cell?_setCell_other, later3 hB (by simp) J.l9]),
    fun k => ?_, ?_, ?_, J.hb3, J.hb4, J.hb5, J.hb6, J.hbb⟩, ?_⟩
  · unfold lookW; simp only [World.frozen?_drewN, World.frozen?_setCell]
    rw [hB.frozen (by simpa using World.block_lt_of_cell? _ _ J.h3), World.frozen?_setCell]; exact J.hf k
  · unfold lookW; simp only [World.frozen?_drewN, World.frozen?_setCell]
    rw [hB.frozen (by simpa using World.block_lt_of_cell? _ _ J.krb), World.frozen?_setCell]; exact J.hfb1
  · unfold lookW; simp only [World.frozen?_drewN, World.frozen?_setCell]
    rw [hB.frozen (by simpa using World.block_lt_of_cell? _ _ J.lrb), World.frozen?_setCell]; exact J.hfb2
  · refine Only.drewN ?_ m
    have h1 : Only (fun k => k = b) w w1 := ((Only.refl (fun k => k = b) w).setCell (q := ⟨b, 3, none⟩) rfl _).trans (Only.of_below hB)
    unfold lookW
    exact (((((((h1.setCell rfl _).setCell rfl _).setCell rfl _).setCell rfl _).setCell rfl _).setCell rfl _).setCell rfl _).setCell rfl _

set_option maxRecDepth 100000 in
set_option maxHeartbeats 800000 in
theorem check_any {b nb wb n rt1 rt2 rb1 rb2 i xb : Nat} {looks size r0 : Int} {w : World} (now : Int) (J : JS w b nb wb n rt1 rt2 rb1 rb2 i xb looks size r0) :
    Calls Yba.prog 15 #[.pointer (some ⟨b, 0, none⟩), .int .i64 i, .int .i64 now] w fun e w' => e = .returned (.bool true) ∧
      JP w' b n rt1 rt2 rb1 rb2 i (IntKind.u64.wrap (looks + 1)) now size r0 ∧ Only (fun k => k = b) w w' := by
  have hs := J.hs
  go_enter Yba.func15, Yba.ntmps15
  go_wp2_with fail
  refine (onRing_yes b wb n xb i w J.hi J.h2 J.hw).mono ?_
  rintro e w' ⟨rfl, rfl⟩
  go_wp2_with fail
  refine (look_any now J).mono ?_
  rintro e w' ⟨rfl, w1, m, hB, rfl⟩
  go_wp2
  go_ret
  exact ⟨rfl, jp_of_look now m J hB⟩
end Go.Proofs.Ybulkbpmg
