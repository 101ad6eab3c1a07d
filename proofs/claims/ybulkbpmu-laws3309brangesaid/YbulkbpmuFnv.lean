import Derived.Test.YbulkbpmuRows
import Derived.WalkKit
import Derived.WalkSpells
import Derived.WalkLawsBesides
import Derived.Handy
import Derived.BigQuiet
import Derived.Deep.QuietTactic
namespace Go.Proofs.Ybulkbpmu
open Go.RowKit
set_option linter.unusedVariables false

/-- One byte of FNV-1a, as the walk spells it. -/
def fstep (h : Int) (c : UInt8) : Int := IntKind.u64.wrap (bits BinOp.xor IntKind.u64 h (IntKind.u64.wrap (c.toNat : Int)) * 1099511628211)
def foffs : Int := 14695981039346656037
def ffrom (h : Int) (l : List UInt8) : Int := l.foldl fstep h
def fnv (l : List UInt8) : Int := ffrom foffs l

theorem take_snoc (s : ByteArray) (k : Nat) (h : k < s.size) : s.data.toList.take (k + 1) = s.data.toList.take k ++ [s[k]] := by
  rw [List.take_succ_eq_append_getElem (by simpa using h)]; rfl

theorem ret_int {k : IntKind} {a b : Int} (h : a = b) : Ending.returned (.int k a) = .returned (.int k b) := by rw [h]

set_option maxHeartbeats 400000 in
theorem fnv_any (s : ByteArray) (w : World) (hs : s.size ≤ maxLen) :
    Calls Yba.prog 6 #[.string s] w fun e w' => e = .returned (.int .u64 (fnv s.data.toList)) ∧ w' = w := by
  unfold maxLen at hs
  go_enter Yba.func6, Yba.ntmps6
  go_wp2
  go_loop [3, 4] (fun h i => ∃ k : Nat, k ≤ s.size ∧ i = .int .i64 k ∧ h = .int .u64 (fnv (s.data.toList.take k))) (fun _ i => s.size - (intOf i).toNat)
  case atStart => exact ⟨0, Nat.zero_le _, rfl, rfl⟩
  case round =>
    obtain ⟨k, hk, rfl, rfl⟩ := hrel
    by_cases hlt : k < s.size
    · go_wp2
      all_goals
        go_round
        case rel => exact ⟨k + 1, by omega, by go_num, by rw [take_snoc s k hlt, fnv, fnv, ffrom, ffrom, List.foldl_append]; rfl⟩
        case measure => simp [intOf]; omega
    · go_wp2
      go_ret
      exact ⟨ret_int (by rw [List.take_of_length_le (by simp; omega)]), rfl⟩

set_option maxHeartbeats 400000 in
theorem sum_any (b : Nat) (h : Int) (w : World) (hb : w.cell? ⟨b, 0, none⟩ = some (.int .u64 h)) :
    Calls Yba.prog 27 #[.pointer (some ⟨b, 0, none⟩)] w fun e w' => e = .returned (.int .u64 h) ∧ w' = w := by
  go_enter Yba.func27, Yba.ntmps27
  go_wp2
  go_ret
  exact ⟨rfl, rfl⟩

theorem ltake_snoc (l : List UInt8) (k : Nat) (h : k < l.length) : l.take (k + 1) = l.take k ++ [l.getD k 0] := by
  rw [List.take_succ_eq_append_getElem h]; simp [h]

set_option maxHeartbeats 400000 in
theorem write_any (b rb n cap : Nat) (l : List UInt8) (h0 : Int) (w : World) (hl : l.length = n) (hn : n ≤ 8192) (hb : w.cell? ⟨b, 0, none⟩ = some (.int .u64 h0)) (hf : w.frozen? ⟨b, 0, none⟩ = false)
    (hc : ∀ j, j < n → w.cell? ⟨rb, j, none⟩ = some (.int .u8 (l.getD j 0).toNat)) :
    Calls Yba.prog 28 #[.pointer (some ⟨b, 0, none⟩), .slice (some ⟨rb, 0, none⟩) n cap] w fun e w' => e = .returned (.tuple #[.int .i64 n, .nilIface]) ∧ w' = w.setCell ⟨b, 0, none⟩ (.int .u64 (ffrom h0 l)) := by
  have HC : Hid (∀ j, j < n → w.cell? ⟨rb, j, none⟩ = some (.int .u8 (l.getD j 0).toNat)) := hc
  clear hc
  have HL : Hid (l.length = n) := hl
  clear hl
  go_enter Yba.func28, Yba.ntmps28
  go_wp2
  go_loop [6, 14] (fun h i => ∃ k : Nat, k ≤ n ∧ i = .int .i64 k ∧ h = .int .u64 (ffrom h0 (l.take k))) (fun _ i => n - (intOf i).toNat)
  case atStart => exact ⟨0, Nat.zero_le _, rfl, rfl⟩
  case round =>
    obtain ⟨k, hk, rfl, rfl⟩ := hrel
    by_cases hlt : k < n
    · have hcell := HC.out k hlt
      have k0 : (0 : Int) ≤ (k : Int) := by omega
      have k1 : (k : Int) < (n : Int) := by omega
      go_wp2
      all_goals
        go_round
        case rel => exact ⟨k + 1, by omega, by go_num, by rw [ltake_snoc l k (by rw [HL.out]; exact hlt), ffrom, ffrom, List.foldl_append]; rfl⟩
        case measure => simp [intOf]; omega
    · go_wp2
      go_ret2
      refine ⟨rfl, ?_⟩
      rw [List.take_of_length_le (by rw [HL.out]; omega)]

theorem fstep_bd (h : Int) (c : UInt8) : 0 ≤ fstep h c ∧ fstep h c < 18446744073709551616 := by
  unfold fstep; rw [IntKind.wrap_u64]; omega
theorem fnv_bd (l : List UInt8) : 0 ≤ fnv l ∧ fnv l < 18446744073709551616 := by
  unfold fnv ffrom
  rcases List.eq_nil_or_concat l with rfl | ⟨l', c, rfl⟩
  · simp [foffs]
  · simp only [List.concat_eq_append, List.foldl_append, List.foldl_cons, List.foldl_nil]; exact fstep_bd _ _
end Go.Proofs.Ybulkbpmu
