import Derived.Test.YbulkbpmuFnv
namespace Go.Proofs.Ybulkbpmu
open Go.RowKit
set_option linter.unusedVariables false

set_option maxHeartbeats 400000 in
theorem new_any (w : World) :
    Calls Yba.prog 7 #[] w fun e w' => e = .returned (.iface 37 (.pointer (some ⟨w.heap.size, 0, none⟩))) ∧ w' = w.alloc (.cells #[.int .u64 foffs] 36) := by
  go_enter Yba.func7, Yba.ntmps7
  go_wp2
  go_ret
  exact ⟨rfl, rfl⟩

theorem bytesRow_get (s : ByteArray) (cap j : Nat) (h : j < s.size) : (bytesRow s cap)[j]? = some (.int .u8 (s.data.toList.getD j 0).toNat) := by
  unfold bytesRow
  rw [Array.getElem?_append_left (by simpa using h)]
  simp [List.getD, h]

set_option maxHeartbeats 400000 in
theorem bucket_any (s : ByteArray) (w : World) (hs : s.size ≤ 8192) :
    Calls Yba.prog 5 #[.string s] w fun e w' => e = .returned (.int .i64 (fnv s.data.toList % 256)) ∧ Below w.heap.size w w' := by
  have hcv := fun w => run_bytes_of_string (P := Yba.prog) w 9 26 5 s Yba.underlying9 Yba.underlying26 Yba.underlying5
  go_enter Yba.func5, Yba.ntmps5
  go_wp2_with fail
  refine (new_any w).mono ?_
  rintro e w1 ⟨rfl, rfl⟩
  go_wp2_with fail
  refine (write_any w.heap.size (w.heap.size + 1) s.size _ s.data.toList foffs _ (by simp) hs ?_ ?_ ?_).mono ?_
  · simp [go_sem]
  · rw [World.frozen?_drew, World.frozen?_alloc_past _ _ _ (by simp)]; simp [go_sem]
  · intro j hj
    have := World.cell?_alloc_mark (w.alloc (Obj.cells #[Value.int IntKind.u64 foffs] 36)) (bytesRow s (grownCap (w.alloc (Obj.cells #[Value.int IntKind.u64 foffs] 36)) s.size 0 5)) 5
      ((bytesRow s (grownCap (w.alloc (Obj.cells #[Value.int IntKind.u64 foffs] 36)) s.size 0 5)).size, (bytesRow s (grownCap (w.alloc (Obj.cells #[Value.int IntKind.u64 foffs] 36)) s.size 0 5)).size + 1) j
    rw [bytesRow_get s _ j hj] at this
    simpa using this
  rintro e w1 ⟨rfl, rfl⟩
  go_wp2_with fail
  refine (sum_any w.heap.size (ffrom foffs s.data.toList) _ ?_).mono ?_
  · simp [go_sem]
  rintro e w1 ⟨rfl, rfl⟩
  have hb := fnv_bd s.data.toList
  unfold fnv at hb
  obtain ⟨hb0, hb1⟩ := hb
  go_wp2
  go_ret
  exact ⟨rfl, (((Below.refl _ _).alloc (Nat.le_refl _) _).alloc (by simp) _).drew⟩
end Go.Proofs.Ybulkbpmu
