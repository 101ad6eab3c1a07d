/-
  YbulkbppmFmtWalks: the walks: the kind; checkFuncKind; NewFuncRecipient with no wrap function.
-/
import Derived.Test.YbulkbppmFmtFmt
import Derived.WalkKit
import Derived.Handy
namespace Go.Proofs.YbulkbppmFmt
open Go.RowKit Go.Extern.Stop Go.Stop Go.Extern
set_option linter.unusedVariables false
set_option linter.unusedSimpArgs false

/-- The kind that the law draws. -/
def kindOf (sel k : Int) : Int := if sel % 2 = 0 then (sel / 2) % 8 else k

theorem kind_walk (sel k : Int) (w : World) (h0 : 0 ≤ sel) (h1 : sel ≤ 255) (k0 : -9223372036854775808 ≤ k) (k1 : k ≤ 9223372036854775807) :
    Calls Ybaf.prog 5 #[.int .u8 sel, .int .i64 k] w fun e w' => e = .returned (.int .i64 (kindOf sel k)) ∧ w' = w := by
  go_enter Ybaf.func5, Ybaf.ntmps5
  go_wp2
  all_goals (go_ret; simp_all [kindOf])

abbrev noKind : ByteArray := ⟨#[37, 100, 32, 105, 115, 32, 110, 111, 116, 32, 97, 32, 107, 105, 110, 100, 32, 111, 102, 32, 119, 114, 97, 112, 112, 105, 110, 103, 32, 111, 102, 32, 116, 104, 101, 32, 118, 49, 32, 102, 111, 114, 109, 97, 116]⟩

theorem check_ok (bm : Nat) (k a b : Int) (w : World) (hc : w.cell? ⟨0, 0, none⟩ = some (.map (some bm)))
    (hl : (Instr.lookup 43 (.map (some bm)) (.int .i64 k) true).run Ybaf.prog w = .ok (.tuple #[.agg #[.int .i64 a, .int .i64 b, .int .i64 0], .bool true]) w) :
    Calls Ybaf.prog 9 #[.int .i64 k] w fun e w' => e = .returned .nilIface ∧ w' = w.alloc (.cells #[.int .i64 a, .int .i64 b, .int .i64 0] 41) := by
  go_enter Ybaf.func9, Ybaf.ntmps9
  go_wp2
  go_ret
  exact ⟨rfl, rfl⟩

theorem check_eph (F : Interp) (bm : Nat) (k a b : Int) (w : World) (hF : F.answers w.tape) (hc : w.cell? ⟨0, 0, none⟩ = some (.map (some bm)))
    (hl : (Instr.lookup 43 (.map (some bm)) (.int .i64 k) true).run Ybaf.prog w = .ok (.tuple #[.agg #[.int .i64 a, .int .i64 b, .int .i64 32], .bool true]) w) :
    Calls Ybaf.prog 9 #[.int .i64 k] w fun e w' => ∃ s, e = .returned (.iface 46 (.pointer (some ⟨w.heap.size + 2, 0, none⟩))) ∧
      w' = (((w.alloc (.cells #[.int .i64 a, .int .i64 b, .int .i64 32] 41)).alloc (.cells #[.iface 23 (.int .i64 k)] 20)).alloc (.cells #[.string s] 48)).drew := by
  have hF' : ∀ i name reading k range, w.tape i (.extern (word name reading k) range) = F name reading k := hF
  go_enter Ybaf.func9, Ybaf.ntmps9
  go_wp2
  go_ret
  exact ⟨_, rfl, rfl⟩

theorem check_no (F : Interp) (bm : Nat) (k : Int) (w : World) (hF : F.answers w.tape) (hc : w.cell? ⟨0, 0, none⟩ = some (.map (some bm)))
    (hl : (Instr.lookup 43 (.map (some bm)) (.int .i64 k) true).run Ybaf.prog w = .ok (.tuple #[.agg #[.int .i64 0, .int .i64 0, .int .i64 0], .bool false]) w) :
    Calls Ybaf.prog 9 #[.int .i64 k] w fun e w' => ∃ s, e = .returned (.iface 46 (.pointer (some ⟨w.heap.size + 2, 0, none⟩))) ∧
      w' = (((w.alloc (.cells #[.int .i64 0, .int .i64 0, .int .i64 0] 41)).alloc (.cells #[.iface 23 (.int .i64 k)] 20)).alloc (.cells #[.string s] 48)).drew := by
  have hF' : ∀ i name reading k range, w.tape i (.extern (word name reading k) range) = F name reading k := hF
  go_enter Ybaf.func9, Ybaf.ntmps9
  go_wp2
  go_ret
  exact ⟨_, rfl, rfl⟩

/- NewFuncRecipient at a kind that is refused: for its stanza's ephemeral key; because the format does not have it. -/
theorem new_eph (F : Interp) (bm : Nat) (k a b : Int) (f : Value) (w : World) (hF : F.answers w.tape) (hc : w.cell? ⟨0, 0, none⟩ = some (.map (some bm)))
    (hl : (Instr.lookup 43 (.map (some bm)) (.int .i64 k) true).run Ybaf.prog w = .ok (.tuple #[.agg #[.int .i64 a, .int .i64 b, .int .i64 32], .bool true]) w) :
    Calls Ybaf.prog 7 #[.int .i64 k, f] w fun e w' => ∃ p, e = .returned (.tuple #[.pointer none, .iface 45 (.pointer (some p))]) ∧ Below w.heap.size w w' := by
  have hF' : ∀ i name reading k range, w.tape i (.extern (word name reading k) range) = F name reading k := hF
  have hop : ∀ s, _ := fun s => Ybaf.opPlain46_119w "fmt.errorf" ⟨w.heap.size + 2, 0, none⟩ s ((((w.alloc (.cells #[.int .i64 a, .int .i64 b, .int .i64 32] 41)).alloc (.cells #[.iface 23 (.int .i64 k)] 20)).alloc (.cells #[.string s] 48)).alloc (.cells #[.iface 46 (.pointer (some ⟨w.heap.size + 2, 0, none⟩))] 20)).drew (by go_simp)
  go_enter Ybaf.func7, Ybaf.ntmps7
  go_wp2_with fail
  refine (check_eph F bm k a b w hF hc hl).mono ?_
  rintro e w' ⟨s, rfl, rfl⟩
  have hop' := hop s
  go_wp2
  go_ret2
  exact ⟨_, rfl, by go_grown⟩

theorem new_no (F : Interp) (bm : Nat) (k : Int) (f : Value) (w : World) (hF : F.answers w.tape) (hc : w.cell? ⟨0, 0, none⟩ = some (.map (some bm)))
    (hl : (Instr.lookup 43 (.map (some bm)) (.int .i64 k) true).run Ybaf.prog w = .ok (.tuple #[.agg #[.int .i64 0, .int .i64 0, .int .i64 0], .bool false]) w) :
    Calls Ybaf.prog 7 #[.int .i64 k, f] w fun e w' => ∃ p, e = .returned (.tuple #[.pointer none, .iface 45 (.pointer (some p))]) ∧ Below w.heap.size w w' := by
  have hF' : ∀ i name reading k range, w.tape i (.extern (word name reading k) range) = F name reading k := hF
  have hop : ∀ s, _ := fun s => Ybaf.opPlain46_119w "fmt.errorf" ⟨w.heap.size + 2, 0, none⟩ s ((((w.alloc (.cells #[.int .i64 0, .int .i64 0, .int .i64 0] 41)).alloc (.cells #[.iface 23 (.int .i64 k)] 20)).alloc (.cells #[.string s] 48)).alloc (.cells #[.iface 46 (.pointer (some ⟨w.heap.size + 2, 0, none⟩))] 20)).drew (by go_simp)
  go_enter Ybaf.func7, Ybaf.ntmps7
  go_wp2_with fail
  refine (check_no F bm k w hF hc hl).mono ?_
  rintro e w' ⟨s, rfl, rfl⟩
  have hop' := hop s
  go_wp2
  go_ret2
  exact ⟨_, rfl, by go_grown⟩

@[local go_sem] theorem eql_func (fn : Fn) (us vs : Array Value) (w : World) : (binOp BinOp.eql 31 (.func fn us vs) .nilFunc).run Ybaf.prog w = .ok (.bool false) w := by kernel_rfl
@[local go_sem] theorem eql_nilFunc (w : World) : (binOp BinOp.eql 31 .nilFunc .nilFunc).run Ybaf.prog w = .ok (.bool true) w := by kernel_rfl

theorem new_nil (bm : Nat) (k a b : Int) (w : World) (hc : w.cell? ⟨0, 0, none⟩ = some (.map (some bm)))
    (hl : (Instr.lookup 43 (.map (some bm)) (.int .i64 k) true).run Ybaf.prog w = .ok (.tuple #[.agg #[.int .i64 a, .int .i64 b, .int .i64 0], .bool true]) w) :
    Calls Ybaf.prog 7 #[.int .i64 k, .nilFunc] w fun e w' => ∃ p, e = .returned (.tuple #[.pointer none, .iface 46 (.pointer (some p))]) ∧ Below w.heap.size w w' := by
  go_enter Ybaf.func7, Ybaf.ntmps7
  go_wp2_with fail
  refine (check_ok bm k a b w hc hl).mono ?_
  rintro e w' ⟨rfl, rfl⟩
  go_wp2
  go_ret2
  exact ⟨_, rfl, by go_grown⟩

theorem new_ok (bm : Nat) (k a b : Int) (fn : Fn) (us vs : Array Value) (w : World) (hc : w.cell? ⟨0, 0, none⟩ = some (.map (some bm)))
    (hl : (Instr.lookup 43 (.map (some bm)) (.int .i64 k) true).run Ybaf.prog w = .ok (.tuple #[.agg #[.int .i64 a, .int .i64 b, .int .i64 0], .bool true]) w) :
    Calls Ybaf.prog 7 #[.int .i64 k, .func fn us vs] w fun e w' => e = .returned (.tuple #[.pointer (some ⟨w.heap.size + 1, 0, none⟩), .nilIface]) ∧
      w' = (w.alloc (.cells #[.int .i64 a, .int .i64 b, .int .i64 0] 41)).alloc (.cells #[.string ⟨#[]⟩, .int .i64 k, .func fn us vs] 33) := by
  go_enter Ybaf.func7, Ybaf.ntmps7
  go_wp2_with fail
  refine (check_ok bm k a b w hc hl).mono ?_
  rintro e w' ⟨rfl, rfl⟩
  go_wp2
  go_ret2
  exact ⟨rfl, rfl⟩

/-- What stanzaSizes holds of a kind. -/
def Look (bm : Nat) (k : Int) (w : World) : Prop :=
  ((∃ a b, (Instr.lookup 43 (.map (some bm)) (.int .i64 k) true).run Ybaf.prog w = .ok (.tuple #[.agg #[.int .i64 a, .int .i64 b, .int .i64 0], .bool true]) w) ∧ (k = 1 ∨ k = 5)) ∨
  ((∃ a b, (Instr.lookup 43 (.map (some bm)) (.int .i64 k) true).run Ybaf.prog w = .ok (.tuple #[.agg #[.int .i64 a, .int .i64 b, .int .i64 32], .bool true]) w) ∧ k = 6) ∨
  ((Instr.lookup 43 (.map (some bm)) (.int .i64 k) true).run Ybaf.prog w = .ok (.tuple #[.agg #[.int .i64 0, .int .i64 0, .int .i64 0], .bool false]) w ∧ k ≠ 1 ∧ k ≠ 5)

theorem new_refuses (F : Interp) (bm : Nat) (k : Int) (w : World) (hF : F.answers w.tape) (hc : w.cell? ⟨0, 0, none⟩ = some (.map (some bm))) (hl : Look bm k w) :
    Calls Ybaf.prog 7 #[.int .i64 k, .nilFunc] w fun e w' => ∃ t p, e = .returned (.tuple #[.pointer none, .iface t (.pointer (some p))]) ∧ Below w.heap.size w w' := by
  rcases hl with ⟨⟨a, b, hl⟩, _⟩ | ⟨⟨a, b, hl⟩, _⟩ | ⟨hl, _⟩
  · exact (new_nil bm k a b w hc hl).mono fun e w' ⟨p, h1, h2⟩ => ⟨_, p, h1, h2⟩
  · exact (new_eph F bm k a b _ w hF hc hl).mono fun e w' ⟨p, h1, h2⟩ => ⟨_, p, h1, h2⟩
  · exact (new_no F bm k _ w hF hc hl).mono fun e w' ⟨p, h1, h2⟩ => ⟨_, p, h1, h2⟩

theorem nilWrap_walk (F : Interp) (bm : Nat) (sel k : Int) (w : World) (h0 : 0 ≤ sel) (h1 : sel ≤ 255) (k0 : -9223372036854775808 ≤ k) (k1 : k ≤ 9223372036854775807)
    (hF : F.answers w.tape) (hc : w.cell? ⟨0, 0, none⟩ = some (.map (some bm))) (hl : Look bm (kindOf sel k) w) :
    Calls Ybaf.prog 4 #[.int .u8 sel, .int .i64 k] w fun e w' => e = .returned (.bool true) ∧ Below w.heap.size w w' := by
  go_enter Ybaf.func4, Ybaf.ntmps4
  go_wp2_with fail
  refine (kind_walk sel k w h0 h1 k0 k1).mono ?_
  rintro e w' ⟨rfl, rfl⟩
  go_wp2_with fail
  refine (new_refuses F bm _ w' hF hc hl).mono ?_
  rintro e w2 ⟨t, p, rfl, hb⟩
  go_wp2
  go_ret
  exact ⟨rfl, hb⟩
end Go.Proofs.YbulkbppmFmt
