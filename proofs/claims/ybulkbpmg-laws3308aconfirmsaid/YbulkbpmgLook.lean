import Derived.Test.YbulkbpmgHold
namespace Go.Proofs.Ybulkbpmg
open Go.RowKit
set_option linter.unusedVariables false
set_option linter.unusedSimpArgs false
attribute [local go_sem] setCell_drewN alloc_drewN

/-- Of what was there all but the blocks in 'p' is as it was. -/
structure Only (p : Nat → Prop) (w w' : World) : Prop where
  os : w'.os = w.os
  tape : w'.tape = w.tape
  output : w'.output = w.output
  size : w.heap.size ≤ w'.heap.size
  block : ∀ k, k < w.heap.size → ¬ p k → w'.heap[k]? = w.heap[k]?
  frozen : ∀ a : Addr, a.block < w.heap.size → w'.frozen? a = w.frozen? a

theorem Only.refl (p : Nat → Prop) (w : World) : Only p w w := ⟨rfl, rfl, rfl, Nat.le_refl _, fun _ _ _ => rfl, fun _ _ => rfl⟩
theorem Only.trans {p : Nat → Prop} {a b c : World} (h : Only p a b) (k : Only p b c) : Only p a c :=
  ⟨k.os.trans h.os, k.tape.trans h.tape, k.output.trans h.output, Nat.le_trans h.size k.size, fun i hi hp => (k.block i (Nat.lt_of_lt_of_le hi h.size) hp).trans (h.block i hi hp),
    fun a ha => (k.frozen a (Nat.lt_of_lt_of_le ha h.size)).trans (h.frozen a ha)⟩
theorem Only.of_below {p : Nat → Prop} {w w' : World} (h : Below w.heap.size w w') : Only p w w' :=
  ⟨h.os, h.tape, h.output, h.size, fun k hk _ => h.block k hk, fun a ha => h.frozen ha⟩
theorem Only.setCell {p : Nat → Prop} {a w : World} (h : Only p a w) {q : Addr} (hq : p q.block) (v : Value) : Only p a (w.setCell q v) :=
  h.trans ⟨rfl, rfl, rfl, by simp [World.setCell], fun k hk hp => Below.heap_setCell _ _ _ _ (fun e => hp (e ▸ hq)), fun x _ => World.frozen?_setCell _ _ _ _⟩
theorem Only.drewN {p : Nat → Prop} {a w : World} (h : Only p a w) (n : Nat) : Only p a (w.drewN n) := ⟨h.os, h.tape, h.output, h.size, h.block, h.frozen⟩
theorem Only.drew {p : Nat → Prop} {a w : World} (h : Only p a w) : Only p a w.drew := ⟨h.os, h.tape, h.output, h.size, h.block, h.frozen⟩
theorem Only.cell {p : Nat → Prop} {w w' : World} (h : Only p w w') {a : Addr} {v : Value} (hp : ¬ p a.block) (hc : w.cell? a = some v) : w'.cell? a = some v :=
  (World.cell?_of_block (w := w) (h.block a.block (World.block_lt_of_cell? _ _ hc) hp)).trans hc

/-- The judge at block b, as the law makes it: 26 cells; its nodes, its wanted states, its two settlings. -/
structure JS (w : World) (b nb wb n rt1 rt2 rb1 rb2 i xb : Nat) (looks size r0 : Int) : Prop where
  hi : i < n
  h0 : w.cell? ⟨b, 0, none⟩ = some (.slice (some ⟨nb, 0, none⟩) n n)
  h2 : w.cell? ⟨b, 2, none⟩ = some (.slice (some ⟨wb, 0, none⟩) n n)
  h3 : w.cell? ⟨b, 3, none⟩ = some (.int .u64 looks)
  hs : w.cell? ⟨b, 5, none⟩ = some (.bool true)
  hn : w.cell? ⟨nb, i, none⟩ = some (.pointer none)
  hw : w.cell? ⟨wb, i * 23, none⟩ = some (.slice (some ⟨xb, 0, none⟩) 1 1)
  hz : restZero w wb (i * 23)
  k0 : w.cell? ⟨b, 6, none⟩ = some (.int .i64 size)
  k1 : w.cell? ⟨b, 7, none⟩ = some (.slice (some ⟨rt1, 0, none⟩) n n)
  kr1 : w.cell? ⟨rt1, i, none⟩ = some (.bool false)
  k2 : w.cell? ⟨b, 8, none⟩ = some (.int .i64 0)
  k3 : w.cell? ⟨b, 9, none⟩ = some (.bool false)
  k4 : w.cell? ⟨b, 10, none⟩ = some (.int .i64 0)
  k5 : w.cell? ⟨b, 11, none⟩ = some (.int .u64 0)
  k6 : w.cell? ⟨b, 12, none⟩ = some (.slice (some ⟨rb1, 0, none⟩) n n)
  krb : w.cell? ⟨rb1, i, none⟩ = some (.int .u64 r0)
  k7 : w.cell? ⟨b, 13, none⟩ = some (.int .i64 0)
  k8 : w.cell? ⟨b, 14, none⟩ = some (.bool false)
  k9 : w.cell? ⟨b, 15, none⟩ = some (.int .i64 0)
  l0 : w.cell? ⟨b, 16, none⟩ = some (.int .i64 size)
  l1 : w.cell? ⟨b, 17, none⟩ = some (.slice (some ⟨rt2, 0, none⟩) n n)
  lr1 : w.cell? ⟨rt2, i, none⟩ = some (.bool false)
  l2 : w.cell? ⟨b, 18, none⟩ = some (.int .i64 0)
  l3 : w.cell? ⟨b, 19, none⟩ = some (.bool false)
  l4 : w.cell? ⟨b, 20, none⟩ = some (.int .i64 0)
  l5 : w.cell? ⟨b, 21, none⟩ = some (.int .u64 0)
  l6 : w.cell? ⟨b, 22, none⟩ = some (.slice (some ⟨rb2, 0, none⟩) n n)
  lrb : w.cell? ⟨rb2, i, none⟩ = some (.int .u64 r0)
  l7 : w.cell? ⟨b, 23, none⟩ = some (.int .i64 0)
  l8 : w.cell? ⟨b, 24, none⟩ = some (.bool false)
  l9 : w.cell? ⟨b, 25, none⟩ = some (.int .i64 0)
  hf : ∀ k, w.frozen? ⟨b, k, none⟩ = false
  hfb1 : w.frozen? ⟨rb1, i, none⟩ = false
  hfb2 : w.frozen? ⟨rb2, i, none⟩ = false
  hb : nb ≠ b
  hb2 : wb ≠ b
  hb3 : rt1 ≠ b
  hb4 : rt2 ≠ b
  hb5 : rb1 ≠ b
  hb6 : rb2 ≠ b
  hbb : rb1 ≠ rb2

/-- What two calls of 'saw' write. -/
def lookW (w : World) (b : Nat) (lk now : Int) : World :=
  (((((((w.setCell ⟨b, 9, none⟩ (.bool true)).setCell ⟨b, 10, none⟩ (.int .i64 now)).setCell ⟨b, 11, none⟩ (.int .u64 lk)).setCell ⟨b, 13, none⟩ (.int .i64 0)).setCell
    ⟨b, 19, none⟩ (.bool true)).setCell ⟨b, 20, none⟩ (.int .i64 now)).setCell ⟨b, 21, none⟩ (.int .u64 lk)).setCell ⟨b, 23, none⟩ (.int .i64 0)

theorem later3 {w w1 : World} {q a : Addr} {v x : Value} (hb : Below (w.setCell q v).heap.size (w.setCell q v) w1) (ne : q ≠ a) (h : w.cell? a = some x) : w1.cell? a = some x :=
  cell_later hb (by rw [World.cell?_setCell_other _ _ _ _ ne]; exact h)
theorem later3f {w w1 : World} {q a : Addr} {v x y : Value} (hb : Below (w.setCell q v).heap.size (w.setCell q v) w1) (h : w.cell? a = some x) (hf : w.frozen? a = false) : w1.frozen? a = false := by
  rw [hb.frozen (by simpa using World.block_lt_of_cell? _ _ h), World.frozen?_setCell]; exact hf

set_option maxRecDepth 100000 in
set_option maxHeartbeats 800000 in
theorem look_any {b nb wb n rt1 rt2 rb1 rb2 i xb : Nat} {looks size r0 : Int} {w : World} (now : Int) (J : JS w b nb wb n rt1 rt2 rb1 rb2 i xb looks size r0) :
    Calls Yba.prog 24 #[.pointer (some ⟨b, 0, none⟩), .int .i64 i, .int .i64 now] w fun e w' => e = .returned (.tuple #[]) ∧
      ∃ w1 m, Below (w.setCell ⟨b, 3, none⟩ (.int .u64 (IntKind.u64.wrap (looks + 1)))).heap.size (w.setCell ⟨b, 3, none⟩ (.int .u64 (IntKind.u64.wrap (looks + 1)))) w1 ∧ w' = (lookW w1 b (IntKind.u64.wrap (looks + 1)) now).drewN m := by
  obtain ⟨hi, h0, h2, h3, hs, hn, hw, hz, k0, k1, kr1, k2, k3, k4, k5, k6, krb, k7, k8, k9, l0, l1, lr1, l2, l3, l4, l5, l6, lrb, l7, l8, l9, hf, hfb1, hfb2, hb, hb2, hb3, hb4, hb5, hb6, hbb⟩ := J
  have i0 : (0 : Int) ≤ (i : Int) := by omega
  have i1 : (i : Int) < (n : Int) := by omega
  go_enter Yba.func24, Yba.ntmps24
  go_wp2_with fail
  refine (holds_nil b nb wb n i _ hi xb (by rw [World.cell?_setCell_other _ _ _ _ (by simp)]; exact h0) (by rw [World.cell?_setCell_other _ _ _ _ (by simp)]; exact h2)
    (by rw [World.cell?_setCell_other _ _ _ _ (by simp [hb.symm])]; exact hn) (by rw [World.cell?_setCell_other _ _ _ _ (by simp [hb2.symm])]; exact hw) ?_).mono ?_
  · obtain ⟨c, hc⟩ := hz
    exact ⟨c, fun j v hv => by rw [World.cell?_setCell_other _ _ _ _ (by simp [hb2.symm])]; exact hc j v hv⟩
  rintro e w1 ⟨rfl, hb1⟩
  have g3 : w1.cell? ⟨b, 3, none⟩ = some (.int .u64 (IntKind.u64.wrap (looks + 1))) := cell_later hb1 (World.cell?_setCell_same _ _ _ h3)
  have gk1 := later3 hb1 (by simp) k1
  have gkr1 := later3 hb1 (by simp [hb3.symm]) kr1
  have gk2 := later3 hb1 (by simp) k2
  have gk3 := later3 hb1 (by simp) k3
  have gk4 := later3 hb1 (by simp) k4
  have gk5 := later3 hb1 (by simp) k5
  have gk7 := later3 hb1 (by simp) k7
  have gk8 := later3 hb1 (by simp) k8
  have gl1 := later3 hb1 (by simp) l1
  have glr1 := later3 hb1 (by simp [hb4.symm]) lr1
  have gl2 := later3 hb1 (by simp) l2
  have gl3 := later3 hb1 (by simp) l3
  have gl4 := later3 hb1 (by simp) l4
  have gl5 := later3 hb1 (by simp) l5
  have gl7 := later3 hb1 (by simp) l7
  have gl8 := later3 hb1 (by simp) l8
  have gf : ∀ k, w1.frozen? ⟨b, k, none⟩ = false := fun k => by
    rw [hb1.frozen (by simpa using World.block_lt_of_cell? _ _ h3), World.frozen?_setCell]; exact hf k
  clear h0 h2 h3 hs hn hw hz k0 k6 krb k9 l0 l6 lrb l9 hfb1 hfb2 k1 kr1 k2 k3 k4 k5 k7 k8 l1 lr1 l2 l3 l4 l5 l7 l8 hf
  go_wp2
  go_region_with ((go_at_call 32; refine (saw_any b 6 rt1 n i _ _ _ hi (by exact gk1) (by exact gkr1) (by exact gk2) (by exact gk3) ⟨_, by exact gk4⟩ ⟨_, by exact gk5⟩ ⟨_, by exact gk7⟩ (by exact gk8) (by exact fun k => gf (6 + k))).mono ?_; rintro e w' ⟨rfl, rfl⟩))
  go_wp2
  go_region_with ((go_at_call 32; refine (saw_any b 16 rt2 n i _ _ _ hi (by simp [World.cell?_setCell_other, gl1]) (by simp [World.cell?_setCell_other, glr1, hb4.symm]) (by simp [World.cell?_setCell_other, gl2]) (by simp [World.cell?_setCell_other, gl3]) ⟨.int .i64 0, by simp [World.cell?_setCell_other, gl4]⟩ ⟨.int .u64 0, by simp [World.cell?_setCell_other, gl5]⟩ ⟨.int .i64 0, by simp [World.cell?_setCell_other, gl7]⟩ (by simp [World.cell?_setCell_other, gl8]) (by simp [gf])).mono ?_; rintro e w' ⟨rfl, rfl⟩))
  go_wp2
  go_end0
  exact ⟨rfl, w1, 2, hb1, by unfold lookW; simp only [World.drew_is_drewN, World.drewN_drewN]⟩
end Go.Proofs.Ybulkbpmg
