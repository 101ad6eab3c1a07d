import Derived.Test.YbulkbpnwDel
import Derived.Test.YbulkbpnwBuild
import Derived.Deep.OwnRows
import Derived.Lib.Builder
import Derived.LaidEql
namespace Go.Proofs.Ybulkbpnw
open Go.RowKit
set_option linter.unusedVariables false
set_option linter.unusedSimpArgs false

theorem itemsOf_get : ∀ (zs : List Int) (k : Nat), k < zs.length → (itemsOf zs)[k * 3]? = some (.int .u8 1) ∧ (itemsOf zs)[k * 3 + 1]? = some (.string (wordOf (zs.getD k 0 % 4))) ∧ (itemsOf zs)[k * 3 + 2]? = some .nilIface
  | [], k, h => by simp at h
  | z :: zs, 0, _ => by simp [itemsOf, itemW]
  | z :: zs, k + 1, h => by
    have ih := itemsOf_get zs k (by simpa using h)
    have e : itemsOf (z :: zs) = itemW (wordOf (z % 4)) ++ itemsOf zs := by simp [itemsOf]
    have l3 : (itemW (wordOf (z % 4))).length = 3 := rfl
    rw [e]
    refine ⟨?_, ?_, ?_⟩
    · rw [List.getElem?_append_right (by omega), l3, show (k + 1) * 3 - 3 = k * 3 by omega]; exact ih.1
    · rw [List.getElem?_append_right (by omega), l3, show (k + 1) * 3 + 1 - 3 = k * 3 + 1 by omega]; simpa using ih.2.1
    · rw [List.getElem?_append_right (by omega), l3, show (k + 1) * 3 + 2 - 3 = k * 3 + 2 by omega]; exact ih.2.2

theorem itemsOf_len (zs : List Int) : (itemsOf zs).length = zs.length * 3 := by
  induction zs with
  | nil => rfl
  | cons z zs ih =>
    have e : itemsOf (z :: zs) = itemW (wordOf (z % 4)) ++ itemsOf zs := by simp [itemsOf]
    have l3 : (itemW (wordOf (z % 4))).length = 3 := rfl
    rw [e, List.length_append, l3, ih, List.length_cons]; omega

theorem Stm.head {w : World} {sb g n : Nat} {cs : List Value} (h : Stm w sb g n cs) : ∃ av cap, w.cell? ⟨sb, 0, none⟩ = some (.slice av n cap) := by
  rcases h.st with ⟨c, rfl, _⟩ | ⟨o, cap, c, _⟩
  · exact ⟨_, _, c⟩
  · exact ⟨_, _, c⟩

set_option maxHeartbeats 400000 in
theorem new_any (s : ByteArray) (w : World) :
    Calls Yba.prog 5 #[.string s] w fun e w' => e = .returned (.iface 53 (.pointer (some ⟨w.heap.size, 0, none⟩))) ∧ w' = w.alloc (.cells #[.string s] 55) := by
  go_enter Yba.func5, Yba.ntmps5
  go_wp2
  go_ret
  exact ⟨rfl, rfl⟩

theorem info23 : (Yba.prog.info? 23).map (fun i => (i.zero, i.size, i.bytes)) = some (some (.pointer none), 1, 8) := by kernel_rfl
theorem made_get (z : Value) (n k : Nat) (h : k < n) : (madeCells #[z] n)[k]? = some z := by
  rw [← Array.getElem?_toList, toList_madeCells_one]
  simp [h]

/-- The operations, whatever their address: none, or as 'Ops' tells. -/
def OpsA (w : World) (ao : Option Addr) (n : Nat) (zs : List Int) : Prop := (n = 0 ∧ zs.take n = []) ∨ ∃ b off, ao = some ⟨b, off, none⟩ ∧ Ops w b off n zs

set_option maxRecDepth 100000 in
set_option maxHeartbeats 1000000 in
theorem build_zero {w : World} {ao : Option Addr} {cap : Nat} :
    Calls Yba.prog 4 #[.slice ao 0 cap] w fun e w' => e = .returned (.pointer (some ⟨w.heap.size, 0, none⟩)) ∧
      ∃ g, Stm w' w.heap.size g 0 [] ∧ w.heap.size ≤ g ∧ Below w.heap.size w w' := by
  go_enter Yba.func4, Yba.ntmps4
  go_wp2
  go_rounds 1
  go_ret
  exact ⟨rfl, w.heap.size, stm_new w _ rfl, Nat.le_refl _, (Below.refl _ _).alloc (Nat.le_refl _) _⟩

theorem build_all {w : World} {ao : Option Addr} {n cap : Nat} {zs : List Int} (h : OpsA w ao n zs) :
    Calls Yba.prog 4 #[.slice ao n cap] w fun e w' => e = .returned (.pointer (some ⟨w.heap.size, 0, none⟩)) ∧
      ∃ g, Stm w' w.heap.size g n (itemsOf (zs.take n)) ∧ w.heap.size ≤ g ∧ Below w.heap.size w w' := by
  rcases h with ⟨rfl, _⟩ | ⟨b, off, rfl, h⟩
  · exact build_zero
  · exact build_any h

theorem assert36 (w : World) (a : Addr) : (Instr.typeAssert (.iface 36 (.pointer (some a))) 20 36 true).run Yba.prog w = .ok (.tuple #[.pointer (some a), .bool true]) w := by kernel_rfl
theorem neq23 (w : World) (a : Addr) : (binOp .neq 23 (.pointer (some a)) (.pointer (some a))).run Yba.prog w = .ok (.bool false) w := by
  obtain ⟨j, hj⟩ := Option.isSome_iff_exists.1 (show (Yba.prog.info? 31).isSome = true by kernel_rfl)
  exact Lib.run_neq_ptr_same w a Yba.underlying23 hj
theorem neq36 (w : World) (a : Addr) : (binOp .neq 36 (.pointer (some a)) (.pointer (some a))).run Yba.prog w = .ok (.bool false) w := by
  obtain ⟨j, hj⟩ := Option.isSome_iff_exists.1 (show (Yba.prog.info? 43).isSome = true by kernel_rfl)
  exact Lib.run_neq_ptr_same w a Yba.underlying36 hj
theorem neq40 (w : World) (a : Addr) : (binOp .neq 40 (.iface 23 (.pointer (some a))) (.iface 23 (.pointer (some a)))).run Yba.prog w = .ok (.bool false) w := by
  obtain ⟨j, hj⟩ := Option.isSome_iff_exists.1 (show (Yba.prog.info? 31).isSome = true by kernel_rfl)
  obtain ⟨i, hi, hc⟩ := Option.map_eq_some_iff.1 (show (Yba.prog.info? 23).map (·.comparable) = some true by kernel_rfl)
  simp only [binOp]
  simp [Op.equal, Op.maxDepth, run_equalIn_iface_ptr_same (P := Yba.prog) w 9998 a Yba.underlying40 Yba.underlying23 hi hc hj]
theorem neq34 (w : World) (a : Addr) : (binOp .neq 34 (.iface 53 (.pointer (some a))) (.iface 53 (.pointer (some a)))).run Yba.prog w = .ok (.bool false) w := by
  obtain ⟨j, hj⟩ := Option.isSome_iff_exists.1 (show (Yba.prog.info? 55).isSome = true by kernel_rfl)
  obtain ⟨i, hi, hc⟩ := Option.map_eq_some_iff.1 (show (Yba.prog.info? 53).map (·.comparable) = some true by kernel_rfl)
  simp only [binOp]
  simp [Op.equal, Op.maxDepth, run_equalIn_iface_ptr_same (P := Yba.prog) w 9998 a Yba.underlying34 Yba.underlying53 hi hc hj]
end Go.Proofs.Ybulkbpnw
