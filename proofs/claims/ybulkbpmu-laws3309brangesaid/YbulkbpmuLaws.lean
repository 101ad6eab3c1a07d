import Derived.Test.YbulkbpmuBucket
namespace Go.Proofs.Ybulkbpmu
open Go.RowKit
set_option linter.unusedVariables false

set_option maxHeartbeats 400000 in
theorem model_walk (a0 : ByteArray) (w0 : a0.size ≤ maxLen) (w : World) :
    Calls Yba.prog 3 #[.string a0] w fun e w' => e = .returned (.bool true) ∧ Below w.heap.size w w' := by
  have hm := w0
  unfold maxLen at hm
  by_cases h : (4096 : Int) < (a0.size : Int)
  · go_enter Yba.func3, Yba.ntmps3
    go_wp2
    go_ret
    exact ⟨rfl, Below.refl _ _⟩
  · have hb := fnv_bd a0.data.toList
    obtain ⟨hb0, hb1⟩ := hb
    go_enter Yba.func3, Yba.ntmps3
    go_wp2_with fail
    refine (bucket_any a0 w (by omega)).mono ?_
    rintro e w1 ⟨rfl, hB⟩
    go_wp2_with fail
    refine (fnv_any a0 w1 w0).mono ?_
    rintro e w2 ⟨rfl, rfl⟩
    go_wp2
    go_ret
    exact ⟨by simp, hB⟩

theorem conv_one (w : World) (n : Nat) (c : UInt8) (hn : n = w.heap.size) :
    (convert 26 9 (.slice (some ⟨n, 0, none⟩) 1 1)).run Yba.prog (w.alloc (.cells #[.int .u8 (c.toNat : Int)] 5)) = .ok (.string ⟨#[c]⟩) (w.alloc (.cells #[.int .u8 (c.toNat : Int)] 5)) := by
  subst hn
  refine run_convert_bytes_back (P := Yba.prog) _ 26 9 5 ⟨w.heap.size, 0, none⟩ 1 [c] Yba.underlying26 Yba.underlying5 Yba.underlying9 ?_
  intro j hj
  simp at hj
  subst hj
  simp [Addr.add, go_sem]

set_option maxHeartbeats 400000 in
theorem range_walk (a0 : ByteArray) (a1 : Int) (w0 : a0.size ≤ maxLen) (w1 : 0 ≤ a1 ∧ a1 ≤ 255) (w : World) :
    Calls Yba.prog 4 #[.string a0, .int .u8 a1] w fun e w' => e = .returned (.bool true) ∧ Below w.heap.size w w' := by
  have hm := w0
  unfold maxLen at hm
  obtain ⟨c, rfl⟩ : ∃ c : UInt8, a1 = (c.toNat : Int) := ⟨UInt8.ofNat a1.toNat, by simp; omega⟩
  by_cases h : (4096 : Int) < (a0.size : Int)
  · go_enter Yba.func4, Yba.ntmps4
    go_wp2
    go_ret
    exact ⟨rfl, Below.refl _ _⟩
  · have hb := fnv_bd a0.data.toList
    obtain ⟨hb0, hb1⟩ := hb
    have hcv := conv_one
    go_enter Yba.func4, Yba.ntmps4
    go_wp2_with fail
    refine (bucket_any a0 w (by omega)).mono ?_
    rintro e w1 ⟨rfl, hB⟩
    go_wp2_with fail
    have hz : (a0 ++ ({ data := #[c] } : ByteArray)).size = a0.size + 1 := by simp [ByteArray.size_append]; rfl
    obtain ⟨s2, hs2⟩ : ∃ s2, s2 = a0 ++ ({ data := #[c] } : ByteArray) := ⟨_, rfl⟩
    rw [← hs2] at hz
    rw [← hs2]
    clear hs2
    have hd := fnv_bd s2.data.toList
    obtain ⟨hd0, hd1⟩ := hd
    refine (bucket_any s2 _ (by omega)).mono ?_
    rintro e w2 ⟨rfl, hB2⟩
    go_wp2_with fail
    refine (fnv_any s2 w2 (by unfold maxLen; omega)).mono ?_
    rintro e w3 ⟨rfl, rfl⟩
    go_wp2
    go_ret
    exact ⟨by simp, hB.trans (((Below.refl _ _).alloc hB.size _).trans (hB2.mono (by simp; have := hB.size; omega)))⟩
end Go.Proofs.Ybulkbpmu
