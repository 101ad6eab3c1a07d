/-
  YbulkbpmgNd: the node that the law builds; the rows that the law makes.
-/
import Derived.Test.YbulkbpmgNod
import Derived.Lib.JoinLaws
namespace Go.Proofs.Ybulkbpmg
open Go.RowKit Go.MuLone
set_option linter.unusedVariables false
set_option linter.unusedSimpArgs false

def nodParts (sf rr : Int) (S n : Nat) (D C : Nat) (hr : Int) (T : Nat) : List (Nat × Value) :=
  [(0, .agg (prA sf xS)), (2, .int .i64 rr), (8, .slice (some ⟨S, 0, none⟩) n n), (14, .map (some D)), (28, .map (some C)), (29, .int .u64 hr), (5, .pointer (some ⟨T, 0, none⟩))]
/-- The cells of the node that the law builds. -/
noncomputable def nodCells (sf rr : Int) (S n : Nat) (D C : Nat) (hr : Int) (T : Nat) : Array Value := (Yba.prog.built 65 (nodParts sf rr S n D C hr T)).getD #[]
theorem nod_some (sf rr : Int) (S n : Nat) (D C : Nat) (hr : Int) (T : Nat) : (Yba.prog.built 65 (nodParts sf rr S n D C hr T)).isSome = true := by kernel_rfl
theorem nod22 (sf rr : Int) (S n : Nat) (D C : Nat) (hr : Int) (T : Nat) : (nodCells sf rr S n D C hr T)[22]? = some (.int .i64 rr) := by kernel_rfl
theorem nod25 (sf rr : Int) (S n : Nat) (D C : Nat) (hr : Int) (T : Nat) : (nodCells sf rr S n D C hr T)[25]? = some (.pointer (some ⟨T, 0, none⟩)) := by kernel_rfl
theorem nod28 (sf rr : Int) (S n : Nat) (D C : Nat) (hr : Int) (T : Nat) : (nodCells sf rr S n D C hr T)[28]? = some (.int .i32 0) := by kernel_rfl
theorem nod30 (sf rr : Int) (S n : Nat) (D C : Nat) (hr : Int) (T : Nat) : (nodCells sf rr S n D C hr T)[30]? = some (.slice (some ⟨S, 0, none⟩) n n) := by kernel_rfl
theorem nod3415 (sf rr : Int) (S n : Nat) (D C : Nat) (hr : Int) (T : Nat) : (nodCells sf rr S n D C hr T)[3415]? = some (.map (some D)) := by kernel_rfl
theorem nod3470 (sf rr : Int) (S n : Nat) (D C : Nat) (hr : Int) (T : Nat) : (nodCells sf rr S n D C hr T)[3470]? = some (.map (some C)) := by kernel_rfl
theorem nod3471 (sf rr : Int) (S n : Nat) (D C : Nat) (hr : Int) (T : Nat) : (nodCells sf rr S n D C hr T)[3471]? = some (.int .u64 hr) := by kernel_rfl
theorem nod3472 (sf rr : Int) (S n : Nat) (D C : Nat) (hr : Int) (T : Nat) : (nodCells sf rr S n D C hr T)[3472]? = some (.int .i64 0) := by kernel_rfl
theorem nod_self (sf rr : Int) (S n : Nat) (D C : Nat) (hr : Int) (T : Nat) : (nodCells sf rr S n D C hr T).toList.take 21 = (prA sf xS).toList := by kernel_rfl

def build65 (ps : Array (Nat × Value)) : Sem Value := Instr.build 65 ps
theorem build65_in (ps : Array (Nat × Value)) : Instr.build 65 ps = build65 ps := rfl
theorem run_build65 (w : World) (sf rr : Int) (S n : Nat) (D C : Nat) (hr : Int) (T : Nat) :
    (build65 #[(0, .agg (prA sf xS)), (2, .int .i64 rr), (8, .slice (some ⟨S, 0, none⟩) n n), (14, .map (some D)), (28, .map (some C)), (29, .int .u64 hr), (5, .pointer (some ⟨T, 0, none⟩))]).run Yba.prog w = .ok (.agg (nodCells sf rr S n D C hr T)) w := by
  obtain ⟨cs, hcs⟩ := Option.isSome_iff_exists.1 (nod_some sf rr S n D C hr T)
  have e : nodCells sf rr S n D C hr T = cs := by rw [nodCells, hcs]; rfl
  rw [e, build65]
  exact run_build w 65 _ cs hcs

/-- The node, as it is built. -/
theorem nod_new (w : World) (N : Nat) (hN : N = w.heap.size) (sf rr : Int) (S n : Nat) (D C : Nat) (hr : Int) (T : Nat) : Nod (w.alloc (.cells (nodCells sf rr S n D C hr T) 65)) N S T D C n n sf rr 0 hr 0 := by
  subst hN
  refine ⟨fun j v hv => ?_, ?_, ?_, ?_, ?_, ?_, ?_, ?_, ?_, fun k => ?_⟩
  · rw [World.cell?_alloc_at _ _ _ _ rfl, Nat.zero_add, ← Array.getElem?_toList]
    rw [← nod_self sf rr S n D C hr T, List.getElem?_take] at hv
    split at hv
    · exact hv
    · simp at hv
  · rw [World.cell?_alloc_at _ _ _ _ rfl]; exact nod22 ..
  · rw [World.cell?_alloc_at _ _ _ _ rfl]; exact nod25 ..
  · rw [World.cell?_alloc_at _ _ _ _ rfl]; exact nod28 ..
  · rw [World.cell?_alloc_at _ _ _ _ rfl]; exact nod30 ..
  · rw [World.cell?_alloc_at _ _ _ _ rfl]; exact nod3415 ..
  · rw [World.cell?_alloc_at _ _ _ _ rfl]; exact nod3470 ..
  · rw [World.cell?_alloc_at _ _ _ _ rfl]; exact nod3471 ..
  · rw [World.cell?_alloc_at _ _ _ _ rfl]; exact nod3472 ..
  · rw [World.frozen?_alloc_at _ _ _ _ rfl]

/-- 'make([]Peer, n)'. -/
theorem make45 (n : Nat) (hn : n ≤ 2000) (w : World) :
    (Instr.makeSlice 45 (.int .i64 (n : Int)) (.int .i64 (n : Int))).run Yba.prog w = .ok (.slice (some ⟨w.heap.size, 0, none⟩) n n) (w.alloc (.cells (madeCells (prA 0 ⟨#[]⟩) (n * 21)) 31)) := by
  obtain ⟨i, hi, hi'⟩ := Option.map_eq_some_iff.1 info31
  simp only [Prod.mk.injEq] at hi'
  obtain ⟨hz, hs, hb⟩ := hi'
  have hr := run_make (P := Yba.prog) w 45 31 i _ Yba.underlying45 hi hz .i64 .i64 n n (by omega) (Int.le_refl _) (by rw [hb]; omega) (by omega)
  rw [hs] at hr
  simp only [Int.toNat_natCast] at hr
  exact hr
theorem row_made (w : World) (n : Nat) (S : Nat) (hS : S = w.heap.size) : Row (w.alloc (.cells (madeCells (prA 0 ⟨#[]⟩) (n * 21)) 31)) S 0 0 n 21 [] :=
  ⟨by simp, Nat.zero_le _, fun j v hv => by simp at hv, there_new _ _ _ _ _ hS (by rw [size_madeCells]; omega), by simp⟩

theorem info5 : (Yba.prog.info? 5).map (fun i => (i.zero, i.size, i.bytes)) = some (some (.int .u8 0), 1, 1) := by kernel_rfl
/-- 'make([]uint8, 0, c)'. -/
theorem make81 (c : Nat) (hc : c ≤ 2000) (w : World) :
    (Instr.makeSlice 81 (.int .i64 0) (.int .i64 (c : Int))).run Yba.prog w = .ok (.slice (some ⟨w.heap.size, 0, none⟩) 0 c) (w.alloc (.cells (madeCells #[.int .u8 0] c) 5)) :=
  run_make_room 81 5 (.int .u8 0) 1 Yba.underlying81 info5 rfl .i64 .i64 c (by omega) (by omega) w
theorem row_room (w : World) (c : Nat) (K : Nat) (hK : K = w.heap.size) : Row (w.alloc (.cells (madeCells #[.int .u8 0] c) 5)) K 0 0 c 1 [] :=
  ⟨by simp, Nat.zero_le _, fun j v hv => by simp at hv, there_new _ _ _ _ _ hK (by rw [size_madeCells]; omega), by simp⟩
end Go.Proofs.Ybulkbpmg
