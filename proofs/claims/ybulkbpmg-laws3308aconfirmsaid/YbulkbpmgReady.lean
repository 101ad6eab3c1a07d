import Derived.Test.YbulkbpmgMk
import Derived.Test.YbulkbpmgWant
import Derived.Test.YbulkbpmgJend
namespace Go.Proofs.Ybulkbpmg
open Go.RowKit
set_option linter.unusedVariables false
set_option linter.unusedSimpArgs false

/-- The world ahead of the loop: four variables in boxes. -/
def W0 (w : World) (r0 size : Int) (N I : Nat) : World :=
  (((w.alloc (.cells #[.int .u64 r0] 24)).alloc (.cells #[.int .i64 size] 3)).alloc (.cells #[.int .i64 N] 3)).alloc (.cells #[.int .i64 I] 3)

theorem below_call {w X w1 : World} (hc : Below X.heap.size X w1) (hX : Below w.heap.size w X) : Below w.heap.size w w1 := hX.trans (hc.mono hX.size)
theorem below_new {w X : World} {o : Obj} (hX : Below w.heap.size w X) : Below w.heap.size w (X.alloc o) := hX.alloc hX.size o

theorem keep_four {w wx : World} {a0 a1 a2 a3 : Addr} {v0 v1 v2 v3 : Value} (h0 : w.cell? a0 = some v0) (h1 : w.cell? a1 = some v1) (h2 : w.cell? a2 = some v2) (h3 : w.cell? a3 = some v3) (hb : Below w.heap.size w wx) :
    Below w.heap.size w wx ∧ wx.cell? a0 = some v0 ∧ wx.cell? a1 = some v1 ∧ wx.cell? a2 = some v2 ∧ wx.cell? a3 = some v3 := ⟨hb, cell_later hb h0, cell_later hb h1, cell_later hb h2, cell_later hb h3⟩

theorem info27 : (Yba.prog.info? 27).map (fun i => (i.zero, i.size, i.bytes)) = some (some (.pointer none), 1, 8) := by kernel_rfl

theorem W0_cells {w wr : World} {r0 size : Int} {N I : Nat} (hB : Below (w.heap.size + 1 + 1 + 1 + 1) (W0 w r0 size N I) wr) :
    wr.cell? ⟨w.heap.size, 0, none⟩ = some (.int .u64 r0) ∧ wr.cell? ⟨w.heap.size + 1, 0, none⟩ = some (.int .i64 size) ∧ wr.cell? ⟨w.heap.size + 1 + 1, 0, none⟩ = some (.int .i64 N) ∧ wr.cell? ⟨w.heap.size + 1 + 1 + 1, 0, none⟩ = some (.int .i64 I) := by
  refine ⟨?_, ?_, ?_, ?_⟩
  all_goals (rw [hB.cell (by simp <;> omega)]; simp [W0, go_sem])

theorem W0_below {w wr : World} {r0 size : Int} {N I : Nat} (hB : Below (w.heap.size + 1 + 1 + 1 + 1) (W0 w r0 size N I) wr) : Below w.heap.size w wr := by
  refine Below.trans ?_ (hB.mono (by omega))
  unfold W0
  exact ((((Below.refl _ w).alloc (Nat.le_refl _) _).alloc (by simp) _).alloc (by simp; omega) _).alloc (by simp; omega) _

theorem Only.below {p : Nat → Prop} {B : Nat} {w w' : World} (h : Only p w w') (hp : ∀ k, p k → B ≤ k) (hB : B ≤ w.heap.size) : Below B w w' :=
  ⟨h.os, h.tape, h.output, h.size, fun k hk => h.block k (by omega) (fun hpk => by have := hp k hpk; omega)⟩

/-- The judge that the law makes, ready for its round's end. -/
structure JReady (w wx : World) (N I b nb wb xb rt1 rb1 rt2 rb2 : Nat) (looks size r0 : Int) : Prop where
  js : JS wx b nb wb N rt1 rt2 rb1 rb2 I xb looks size r0
  m1 : MkRows wx N I rt1 rb1 r0
  m2 : MkRows wx N I rt2 rb2 r0
  e12 : rt1 ≠ rb2
  e21 : rt2 ≠ rb1
  bel : Below (w.heap.size + 1 + 1 + 1 + 1) (W0 w r0 size N I) wx
  lb : w.heap.size + 1 + 1 + 1 + 1 ≤ b
  l1 : w.heap.size + 1 + 1 + 1 + 1 ≤ rb1
  l2 : w.heap.size + 1 + 1 + 1 + 1 ≤ rb2

theorem ready_of {w wr wk : World} {N I nb wb rt1 rb1 rt2 rb2 : Nat} {looks size r0 : Int} (hi : I < N) (hB : Below (w.heap.size + 1 + 1 + 1 + 1) (W0 w r0 size N I) wr) (hZ : w.heap.size + 1 + 1 + 1 + 1 < wr.heap.size)
    (hk : Below wr.heap.size wr wk) (hW : Want wr wb N N) (hn : wk.cell? ⟨nb, I, none⟩ = some (.pointer none))
    (m1 : MkRows wk N I rt1 rb1 r0) (m2 : MkRows wk N I rt2 rb2 r0) (e12 : rt1 ≠ rb2) (e21 : rt2 ≠ rb1) (ebb : rb1 ≠ rb2) (l1 : wr.heap.size ≤ rb1) (l2 : wr.heap.size ≤ rb2) :
    ∃ xb, JReady w (wk.alloc (.cells #[.slice (some ⟨nb, 0, none⟩) N N, .int .i64 1, .slice (some ⟨wb, 0, none⟩) N N, .int .u64 looks, .int .i64 N, .bool true,
      .int .i64 size, .slice (some ⟨rt1, 0, none⟩) N N, .int .i64 0, .bool false, .int .i64 0, .int .u64 0, .slice (some ⟨rb1, 0, none⟩) N N, .int .i64 0, .bool false, .int .i64 0,
      .int .i64 size, .slice (some ⟨rt2, 0, none⟩) N N, .int .i64 0, .bool false, .int .i64 0, .int .u64 0, .slice (some ⟨rb2, 0, none⟩) N N, .int .i64 0, .bool false, .int .i64 0] 74)) N I wk.heap.size nb wb xb rt1 rb1 rt2 rb2 looks size r0 := by
  obtain ⟨xb, hx⟩ := hW.succ I hi
  have bn := World.block_lt_of_cell? _ _ hn
  have bw := World.block_lt_of_cell? _ _ hx
  have bt1 := World.block_lt_of_cell? _ _ (m1.rt0 I hi)
  have bb1 := World.block_lt_of_cell? _ _ (m1.rb0 I hi)
  have bt2 := World.block_lt_of_cell? _ _ (m2.rt0 I hi)
  have bb2 := World.block_lt_of_cell? _ _ (m2.rb0 I hi)
  have hs := hk.size
  simp only at bn bw bt1 bb1 bt2 bb2
  obtain ⟨X, hX⟩ : ∃ X, X = wk.alloc (.cells #[.slice (some ⟨nb, 0, none⟩) N N, .int .i64 1, .slice (some ⟨wb, 0, none⟩) N N, .int .u64 looks, .int .i64 N, .bool true,
      .int .i64 size, .slice (some ⟨rt1, 0, none⟩) N N, .int .i64 0, .bool false, .int .i64 0, .int .u64 0, .slice (some ⟨rb1, 0, none⟩) N N, .int .i64 0, .bool false, .int .i64 0,
      .int .i64 size, .slice (some ⟨rt2, 0, none⟩) N N, .int .i64 0, .bool false, .int .i64 0, .int .u64 0, .slice (some ⟨rb2, 0, none⟩) N N, .int .i64 0, .bool false, .int .i64 0] 74) := ⟨_, rfl⟩
  have hl : Below wk.heap.size wk X := by rw [hX]; exact (Below.refl _ _).alloc (Nat.le_refl _) _
  have hc : ∀ j, X.cell? ⟨wk.heap.size, j, none⟩ = (#[.slice (some ⟨nb, 0, none⟩) N N, .int .i64 1, .slice (some ⟨wb, 0, none⟩) N N, .int .u64 looks, .int .i64 N, .bool true,
      .int .i64 size, .slice (some ⟨rt1, 0, none⟩) N N, .int .i64 0, .bool false, .int .i64 0, .int .u64 0, .slice (some ⟨rb1, 0, none⟩) N N, .int .i64 0, .bool false, .int .i64 0,
      .int .i64 size, .slice (some ⟨rt2, 0, none⟩) N N, .int .i64 0, .bool false, .int .i64 0, .int .u64 0, .slice (some ⟨rb2, 0, none⟩) N N, .int .i64 0, .bool false, .int .i64 0] : Array Value)[j]? := fun j => by rw [hX]; exact World.cell?_alloc_at _ _ _ _ rfl
  have hf : ∀ j, X.frozen? ⟨wk.heap.size, j, none⟩ = false := fun j => by rw [hX]; exact World.frozen?_alloc_at _ _ _ _ rfl
  rw [← hX]
  have hrX : Below wr.heap.size wr X := below_call hl hk
  refine ⟨xb, ⟨⟨hi, hc 0, hc 2, hc 3, hc 5, cell_later hl hn, cell_later hrX hx, ?_, hc 6, hc 7, cell_later hl (m1.rt0 I hi), hc 8, hc 9, hc 10, hc 11, hc 12, ?_, hc 13, hc 14, hc 15,
    hc 16, hc 17, cell_later hl (m2.rt0 I hi), hc 18, hc 19, hc 20, hc 21, hc 22, ?_, hc 23, hc 24, hc 25, hf, (m1.later hi hl).fz, (m2.later hi hl).fz, by omega, by omega, by omega, by omega, by omega, by omega, ebb⟩,
    m1.later hi hl, m2.later hi hl, e12, e21, hB.trans (hrX.mono (by omega)), by omega, by omega, by omega⟩⟩
  · exact (hW.rest I hi).elim fun c hc => ⟨c, range_later hrX hc⟩
  · have := cell_later hl (m1.rb0 I hi); simpa using this
  · have := cell_later hl (m2.rb0 I hi); simpa using this
end Go.Proofs.Ybulkbpmg
