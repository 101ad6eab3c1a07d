import Derived.Test.YbulkbpmgKit
import Derived.Deep.OwnRows
namespace Go.Proofs.Ybulkbpmg
open Go.RowKit
set_option linter.unusedVariables false
set_option linter.unusedSimpArgs false

theorem info67 : (Yba.prog.info? 67).map (fun i => (i.zero, i.size, i.bytes)) = some (some (.agg (stateArr (.slice none 0 0))), 23, 88) := by kernel_rfl

theorem make26 (n : Nat) (hn : n ≤ 8) (w : World) :
    (Instr.makeSlice 26 (.int .i64 (n : Int)) (.int .i64 (n : Int))).run Yba.prog w = .ok (.slice (some ⟨w.heap.size, 0, none⟩) n n) (w.alloc (.cells (madeCells (stateArr (.slice none 0 0)) (n * 23)) 67)) := by
  obtain ⟨i, hi, hzz⟩ := Option.map_eq_some_iff.1 info67
  simp only [Prod.mk.injEq] at hzz
  obtain ⟨hz, hs, hb⟩ := hzz
  have hr := run_make (P := Yba.prog) w 26 67 i _ Yba.underlying26 hi hz .i64 .i64 n n (by omega) (Int.le_refl _) (by rw [hb]; omega) (by omega)
  simp only [Int.toNat_natCast, hs, Value.cells] at hr
  exact hr

/-- The wanted states: those before 'k' have a successor; the rest of each is zero. -/
structure Want (w : World) (wb n k : Nat) : Prop where
  rest : ∀ j, j < n → restZero w wb (j * 23)
  succ : ∀ j, j < k → ∃ xb, w.cell? ⟨wb, j * 23, none⟩ = some (.slice (some ⟨xb, 0, none⟩) 1 1)
  fz : ∀ j, j < n → w.frozen? ⟨wb, j * 23, none⟩ = false

theorem stateArr_tail (c d : Value) (j : Nat) (h : j ≠ 0) : (stateArr c).toList[j]? = (stateArr d).toList[j]? := by
  cases j with
  | zero => exact absurd rfl h
  | succ j => rfl

theorem Want.made (w : World) (n : Nat) (wb : Nat) (hwb : wb = w.heap.size) : Want (w.alloc (.cells (madeCells (stateArr (.slice none 0 0)) (n * 23)) 67)) wb n 0 := by
  subst hwb
  refine ⟨fun j hj => ⟨.slice none 0 0, fun c v hv => ?_⟩, fun j hj => absurd hj (by omega), fun j hj => ?_⟩
  · have hc : c < 23 := by
      have := (List.getElem?_eq_some_iff.1 hv).1
      simpa [stateArr] using this
    rw [World.cell?_alloc_at _ _ _ _ rfl]
    have hm : (j * 23 + c) % 23 = c := by omega
    simp only [madeCells]
    rw [Array.getElem?_map, Array.getElem?_range, if_pos (by omega)]
    simp only [Option.map_some, stateArr_size, hm]
    have hv' : (stateArr (.slice none 0 0))[c]? = some v := by rw [← Array.getElem?_toList]; exact hv
    rw [getElem!_def, hv']
  · rw [World.frozen?_alloc_at _ _ _ _ rfl]

theorem Want.step {w w' : World} {wb n k xb : Nat} (h : Want w wb n k) (hk : k < n)
    (hs : w'.cell? ⟨wb, k * 23, none⟩ = some (.slice (some ⟨xb, 0, none⟩) 1 1)) (ho : ∀ o v, o ≠ k * 23 → w.cell? ⟨wb, o, none⟩ = some v → w'.cell? ⟨wb, o, none⟩ = some v) (hf : ∀ o, w'.frozen? ⟨wb, o, none⟩ = w.frozen? ⟨wb, o, none⟩) :
    Want w' wb n (k + 1) := by
  refine ⟨fun j hj => ?_, fun j hj => ?_, fun j hj => (hf _).trans (h.fz j hj)⟩
  · obtain ⟨c0, hc0⟩ := h.rest j hj
    by_cases e : j = k
    · subst e
      refine ⟨.slice (some ⟨xb, 0, none⟩) 1 1, fun c v hv => ?_⟩
      by_cases hc : c = 0
      · subst hc
        have : v = .slice (some ⟨xb, 0, none⟩) 1 1 := by simpa [stateArr] using hv.symm
        subst this
        exact hs
      · exact ho _ _ (by omega) (hc0 c v (by rw [stateArr_tail _ (.slice (some ⟨xb, 0, none⟩) 1 1) c hc]; exact hv))
    · refine ⟨c0, fun c v hv => ho _ _ ?_ (hc0 c v hv)⟩
      have : c < 23 := by
        have := (List.getElem?_eq_some_iff.1 hv).1
        simpa [stateArr] using this
      omega
  · by_cases e : j = k
    · subst e; exact ⟨xb, hs⟩
    · obtain ⟨x, hx⟩ := h.succ j (by omega)
      exact ⟨x, ho _ _ (by omega) hx⟩

theorem Want.later {w w' : World} {wb n k : Nat} (h : Want w wb n k) (hb : Below w.heap.size w w') (hn : wb < w.heap.size) : Want w' wb n k :=
  ⟨fun j hj => (h.rest j hj).elim fun c hc => ⟨c, range_later hb hc⟩, fun j hj => (h.succ j hj).elim fun x hx => ⟨x, cell_later hb hx⟩, fun j hj => (hb.frozen hn).trans (h.fz j hj)⟩
end Go.Proofs.Ybulkbpmg
