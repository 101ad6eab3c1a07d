import Derived.Test.YbulkbpnwWords
namespace Go.Proofs.Ybulkbpnw
open Go.RowKit
set_option linter.unusedVariables false
set_option linter.unusedSimpArgs false

theorem stm_new (w : World) (sb : Nat) (hsb : sb = w.heap.size) : Stm (w.alloc (.cells #[.slice none 0 0, .int .u8 0, .string ⟨#[]⟩, .nilIface, .int .u8 0, .string ⟨#[]⟩, .nilIface, .int .u8 0, .string ⟨#[]⟩, .nilIface] 31)) sb sb 0 [] := by
  subst hsb
  refine ⟨World.frozen?_alloc_at _ _ _ _ rfl, by simp, .inl ⟨World.cell?_alloc_at _ _ _ _ rfl, rfl, rfl, rfl, fun j hj => ⟨?_, World.frozen?_alloc_at _ _ _ _ rfl⟩⟩⟩
  rw [World.cell?_alloc_at _ _ _ _ rfl]
  simp; omega

/-- The slice of operations that came in. -/
structure Ops (w : World) (b off n : Nat) (zs : List Int) : Prop where
  len : n ≤ zs.length
  small : n ≤ 512
  cell : ∀ k, k < n → w.cell? ⟨b, off + k, none⟩ = some (.int .u8 (zs.getD k 0))
  rng : ∀ k, 0 ≤ zs.getD k 0 ∧ zs.getD k 0 ≤ 255

set_option maxRecDepth 100000 in
set_option maxHeartbeats 1000000 in
theorem build_any {w : World} {b off n cap : Nat} {zs : List Int} (hZ : Ops w b off n zs) :
    Calls Yba.prog 4 #[.slice (some ⟨b, off, none⟩) n cap] w fun e w' => e = .returned (.pointer (some ⟨w.heap.size, 0, none⟩)) ∧
      ∃ g, Stm w' w.heap.size g n (itemsOf (zs.take n)) ∧ w.heap.size ≤ g ∧ Below w.heap.size w w' := by
  have hsm := hZ.small
  go_enter Yba.func4, Yba.ntmps4
  go_wp2
  go_loopw [9] (fun t wr => ∃ (k g : Nat), k ≤ n ∧ t = .int .i64 k ∧ Stm wr w.heap.size g k (itemsOf (zs.take k)) ∧ w.heap.size ≤ g ∧ Below w.heap.size w wr) (fun t _ => n - (intOf t).toNat)
  case atStart => exact ⟨0, w.heap.size, Nat.zero_le _, rfl, stm_new w _ rfl, Nat.le_refl _, (Below.refl _ _).alloc (Nat.le_refl _) _⟩
  case round =>
    obtain ⟨k, g, hk, rfl, hS, hg, hB⟩ := hrel
    by_cases hlt : k < n
    · have hc := cell_later hB (hZ.cell k hlt)
      have k0 : (0 : Int) ≤ (k : Int) := by omega
      have k1 : (k : Int) < (n : Int) := by omega
      obtain ⟨r0, r1⟩ := hZ.rng k
      have hsn := itemsOf_snoc zs k (by have := hZ.len; omega)
      have SN : Hid (itemsOf (zs.take (k + 1)) = itemsOf (zs.take k) ++ itemW (wordOf (zs.getD k 0 % 4))) := hsn
      clear hsn
      obtain ⟨z, hz⟩ : ∃ z, z = zs.getD k 0 := ⟨_, rfl⟩
      rw [← hz] at hc r0 r1
      have HZ : Hid (z = zs.getD k 0) := hz
      clear hz
      have fin : ∀ (e : Ending) (w' : World), AddedW wr w.heap.size g k (itemsOf (zs.take k)) (wordOf (z % 4)) e w' → e = .returned (.pointer (some ⟨w.heap.size, 0, none⟩)) ∧ ∃ g', Stm w' w.heap.size g' (k + 1) (itemsOf (zs.take (k + 1))) ∧ w.heap.size ≤ g' ∧ Below w.heap.size w w' := by
        rintro e w' ⟨he, g', h1, h2, h3⟩
        rw [SN.out, ← HZ.out]
        have := hB.size
        exact ⟨he, g', h1, by omega, hB.trans (h3.below (fun k _ h => by rcases h with h | h <;> omega) hB.size)⟩
      by_cases q0 : z % 4 = 0
      · have ew : wordOf (z % 4) = bGo := by simp [wordOf, q0]
        rw [ew] at fin
        clear ew
        have FIN : Hid (∀ (e : Ending) (w' : World), AddedW wr w.heap.size g k (itemsOf (zs.take k)) bGo e w' → _) := fin
        clear fin
        go_wp2_with fail
        refine (go_any hS (by omega)).mono ?_
        intro e w' hA
        obtain ⟨rfl, g', h1, h2, h3⟩ := FIN.out e w' hA
        clear hA
        go_wp2
        go_roundw
        case rel => exact ⟨k + 1, g', by omega, by go_num, h1, h2, h3⟩
        case measure => simp [intOf]; omega
      · by_cases q1 : z % 4 = 1
        · have ew : wordOf (z % 4) = bInt := by simp [wordOf, q1]
          rw [ew] at fin
          clear ew
          have FIN : Hid (∀ (e : Ending) (w' : World), AddedW wr w.heap.size g k (itemsOf (zs.take k)) bInt e w' → _) := fin
          clear fin
          go_wp2_with fail
          refine (int_any hS (by omega)).mono ?_
          intro e w' hA
          obtain ⟨rfl, g', h1, h2, h3⟩ := FIN.out e w' hA
          clear hA
          go_wp2
          go_roundw
          case rel => exact ⟨k + 1, g', by omega, by go_num, h1, h2, h3⟩
          case measure => simp [intOf]; omega
        · by_cases q2 : z % 4 = 2
          · have ew : wordOf (z % 4) = bNil := by simp [wordOf, q2]
            rw [ew] at fin
            clear ew
            have FIN : Hid (∀ (e : Ending) (w' : World), AddedW wr w.heap.size g k (itemsOf (zs.take k)) bNil e w' → _) := fin
            clear fin
            go_wp2_with fail
            refine (nil_any hS (by omega)).mono ?_
            intro e w' hA
            obtain ⟨rfl, g', h1, h2, h3⟩ := FIN.out e w' hA
            clear hA
            go_wp2
            go_roundw
            case rel => exact ⟨k + 1, g', by omega, by go_num, h1, h2, h3⟩
            case measure => simp [intOf]; omega
          · have ew : wordOf (z % 4) = bPlus := by simp [wordOf, q0, q1, q2]
            rw [ew] at fin
            clear ew
            have e0 : (z % 4 == 0) = false := by simp [q0]
            have e1 : (z % 4 == 1) = false := by simp [q1]
            have e2 : (z % 4 == 2) = false := by simp [q2]
            clear q0 q1 q2
            have FIN : Hid (∀ (e : Ending) (w' : World), AddedW wr w.heap.size g k (itemsOf (zs.take k)) bPlus e w' → _) := fin
            clear fin
            go_wp2_with fail
            refine (op_any hS (by omega) bPlus).mono ?_
            intro e w' hA
            obtain ⟨rfl, g', h1, h2, h3⟩ := FIN.out e w' hA
            clear hA
            go_wp2
            go_roundw
            case rel => exact ⟨k + 1, g', by omega, by go_num, h1, h2, h3⟩
            case measure => simp [intOf]; omega
    · have hkn : k = n := by omega
      subst hkn
      go_wp2
      go_ret
      exact ⟨rfl, g, hS, hg, hB⟩
end Go.Proofs.Ybulkbpnw
