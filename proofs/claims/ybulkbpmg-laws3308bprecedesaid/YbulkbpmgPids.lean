/-
  YbulkbpmgPids: ids (20 cells), peers (21), events (43): their cells, their comparison, the map's keys.
-/
import Derived.Test.YbulkbpmgKit
import Derived.Maps.Keyed
import Derived.DeepKeys4
namespace Go.Proofs.Ybulkbpmg
open Go.RowKit
set_option linter.unusedVariables false
set_option linter.unusedSimpArgs false

/-- An id: byte 0 is 'k', byte 1 is 'm', the others are 0. -/
def idA (k m : Int) : Array Value := #[.int .u8 k, .int .u8 m, .int .u8 0, .int .u8 0, .int .u8 0, .int .u8 0, .int .u8 0, .int .u8 0, .int .u8 0, .int .u8 0, .int .u8 0, .int .u8 0, .int .u8 0, .int .u8 0, .int .u8 0, .int .u8 0, .int .u8 0, .int .u8 0, .int .u8 0, .int .u8 0]
/-- A peer: an id with second byte 0, and its address. -/
def prA (k : Int) (s : ByteArray) : Array Value := #[.int .u8 k, .int .u8 0, .int .u8 0, .int .u8 0, .int .u8 0, .int .u8 0, .int .u8 0, .int .u8 0, .int .u8 0, .int .u8 0, .int .u8 0, .int .u8 0, .int .u8 0, .int .u8 0, .int .u8 0, .int .u8 0, .int .u8 0, .int .u8 0, .int .u8 0, .int .u8 0, .string s]
abbrev xS : ByteArray := ⟨#[120]⟩
theorem idA_size (k m : Int) : (idA k m).size = 20 := by simp [idA]
theorem prA_size (k : Int) (s : ByteArray) : (prA k s).size = 21 := by simp [prA]
theorem idA_len (k m : Int) : (idA k m).toList.length = 20 := by simp [idA]
theorem prA_len (k : Int) (s : ByteArray) : (prA k s).toList.length = 21 := by simp [prA]
theorem idA_inj {k m k' m' : Int} : Value.agg (idA k m) = Value.agg (idA k' m') ↔ k = k' ∧ m = m' := by simp [idA]
theorem prA_inj {k k' : Int} {s s' : ByteArray} : Value.agg (prA k s) = Value.agg (prA k' s') ↔ k = k' ∧ s = s' := by simp [prA]

theorem wf0 : (Lit.int .u8 0).wf = true := by decide
theorem lits5 (d : Nat) {k : Int} (hk : (Lit.int .u8 k).wf = true) : Yba.prog.keyLits (d + 1) 5 [.int .u8 k] = some [.int .u8 k] := by
  simp [Program.keyLits, Yba.underlying5, hk]
theorem cells29 : Yba.prog.cellsOf 29 = 20 := by kernel_rfl
theorem cells5 : Yba.prog.cellsOf 5 = 1 := by kernel_rfl
theorem cells9 : Yba.prog.cellsOf 9 = 1 := by kernel_rfl
theorem cells31 : Yba.prog.cellsOf 31 = 21 := by kernel_rfl
theorem range20 : List.range 20 = [0, 1, 2, 3, 4, 5, 6, 7, 8, 9, 10, 11, 12, 13, 14, 15, 16, 17, 18, 19] := rfl
theorem lits29 (d : Nat) {k m : Int} (hk : (Lit.int .u8 k).wf = true) (hm : (Lit.int .u8 m).wf = true) : Yba.prog.keyLits (d + 2) 29 (idA k m).toList = some [.int .u8 k, .int .u8 m, .int .u8 0, .int .u8 0, .int .u8 0, .int .u8 0, .int .u8 0, .int .u8 0, .int .u8 0, .int .u8 0, .int .u8 0, .int .u8 0, .int .u8 0, .int .u8 0, .int .u8 0, .int .u8 0, .int .u8 0, .int .u8 0, .int .u8 0, .int .u8 0] := by
  unfold Program.keyLits
  simp only [Yba.underlying29]
  simp only [idA_len, cells29, cells5, if_true, range20]
  simp [idA, lits5 d hk, lits5 d hm, lits5 d wf0]
theorem lits9 (d : Nat) {s : ByteArray} (hs : s.size ≤ maxLen) : Yba.prog.keyLits (d + 1) 9 [.string s] = some [.string s.data.toList] := by
  simp [Program.keyLits, Yba.underlying9, hs]
theorem lits31 (d : Nat) {k : Int} {s : ByteArray} (hk : (Lit.int .u8 k).wf = true) (hs : s.size ≤ maxLen) : Yba.prog.keyLits (d + 3) 31 (prA k s).toList = some [.int .u8 k, .int .u8 0, .int .u8 0, .int .u8 0, .int .u8 0, .int .u8 0, .int .u8 0, .int .u8 0, .int .u8 0, .int .u8 0, .int .u8 0, .int .u8 0, .int .u8 0, .int .u8 0, .int .u8 0, .int .u8 0, .int .u8 0, .int .u8 0, .int .u8 0, .int .u8 0, .string s.data.toList] := by
  have h := lits29 d hk wf0
  have h' := lits9 (d + 1) hs
  simp only [idA] at h
  unfold Program.keyLits
  simp only [Yba.underlying31]
  simp only [prA_len, cells31]
  simp [prA, cells29, cells9, h, h']
theorem types_size : ∃ d, Yba.prog.types.size + 1 = d + 4 := ⟨Yba.prog.types.size - 3, by
  have : 3 ≤ Yba.prog.types.size := of_decide_eq_true (by kernel_rfl)
  omega⟩
theorem keyType29 : Yba.prog.keyType 29 = true := by kernel_rfl
theorem keyType31 : Yba.prog.keyType 31 = true := by kernel_rfl
theorem keyType88 : Yba.prog.keyType 88 = true := by kernel_rfl
theorem keyOf_of {t : TypeId} {cs : Array Value} {d : TypeDesc} {L : List Lit} (hu : Yba.prog.underlying t = some d) (hd : (match d with | .array _ _ | .struct _ => true | _ => false) = true) (hk : Yba.prog.keyType t = true)
    (hs : cs.size = Yba.prog.cellsOf t) (hL : Yba.prog.keyLits (Yba.prog.types.size + 1) t cs.toList = some L) : ∃ l, keyOf Yba.prog t (.agg cs) = some l := by
  cases d <;> simp only [Bool.false_eq_true] at hd <;> (unfold keyOf; simp only [hu, hk, Value.formed, hs, Value.cells, hL]; exact ⟨_, by simp; rfl⟩)
theorem keyOf29 {k m : Int} (hk : (Lit.int .u8 k).wf = true) (hm : (Lit.int .u8 m).wf = true) : ∃ l, keyOf Yba.prog 29 (.agg (idA k m)) = some l := by
  obtain ⟨d, hd⟩ := types_size
  exact keyOf_of Yba.underlying29 rfl keyType29 (by rw [idA_size, cells29]) (by rw [hd]; exact lits29 (d + 2) hk hm)
theorem keyOf31 {k : Int} {s : ByteArray} (hk : (Lit.int .u8 k).wf = true) (hs : s.size ≤ maxLen) : ∃ l, keyOf Yba.prog 31 (.agg (prA k s)) = some l := by
  obtain ⟨d, hd⟩ := types_size
  exact keyOf_of Yba.underlying31 rfl keyType31 (by rw [prA_size, cells31]) (by rw [hd]; exact lits31 (d + 1) hk hs)
/-- An event: its kind and two peers. -/
def evA (q k : Int) (s : ByteArray) (k' : Int) (s' : ByteArray) : Array Value := #[.int .u8 q] ++ prA k s ++ prA k' s'
theorem evA_size (q k : Int) (s : ByteArray) (k' : Int) (s' : ByteArray) : (evA q k s k' s').size = 43 := by simp [evA, prA]
theorem evA_len (q k : Int) (s : ByteArray) (k' : Int) (s' : ByteArray) : (evA q k s k' s').toList.length = 43 := by simp [evA, prA]
theorem evA_inj {q k q' j k' j' : Int} {s t s' t' : ByteArray} : Value.agg (evA q k s j t) = Value.agg (evA q' k' s' j' t') ↔ q = q' ∧ k = k' ∧ s = s' ∧ j = j' ∧ t = t' := by
  simp [evA, prA]
theorem cells86 : Yba.prog.cellsOf 86 = 1 := by kernel_rfl
theorem cells88 : Yba.prog.cellsOf 88 = 43 := by kernel_rfl
theorem lits88 (d : Nat) {q k j : Int} {s t : ByteArray} (hq : (Lit.int .u8 q).wf = true) (hk : (Lit.int .u8 k).wf = true) (hs : s.size ≤ maxLen) (hj : (Lit.int .u8 j).wf = true) (ht : t.size ≤ maxLen) :
    ∃ L, Yba.prog.keyLits (d + 4) 88 (evA q k s j t).toList = some L := by
  have h1 := lits31 d hk hs
  have h2 := lits31 d hj ht
  have h0 : Yba.prog.keyLits (d + 3) 86 [.int .u8 q] = some [.int .u8 q] := by simp [Program.keyLits, Yba.underlying86, hq]
  simp only [prA] at h1 h2
  unfold Program.keyLits
  simp only [Yba.underlying88]
  simp only [evA_len, cells88]
  simp [evA, prA, cells31, cells86, h0, h1, h2]
theorem keyOf88 {q k j : Int} {s t : ByteArray} (hq : (Lit.int .u8 q).wf = true) (hk : (Lit.int .u8 k).wf = true) (hs : s.size ≤ maxLen) (hj : (Lit.int .u8 j).wf = true) (ht : t.size ≤ maxLen) : ∃ l, keyOf Yba.prog 88 (.agg (evA q k s j t)) = some l := by
  obtain ⟨d, hd⟩ := types_size
  obtain ⟨L, hL⟩ := lits88 d hq hk hs hj ht
  exact keyOf_of Yba.underlying88 rfl keyType88 (by rw [evA_size, cells88]) (by rw [hd]; exact hL)
theorem laidOutP : laidOutB Yba.prog = true := by kernel_rfl
theorem law29 : WideMaps.KeyLaw Yba.prog 29 := deep_law_laid laidOutP (m := 2) (by omega) (of_decide_eq_true (by kernel_rfl)) (by kernel_rfl) (by rw [Yba.underlying29])
theorem law31 : WideMaps.KeyLaw Yba.prog 31 := deep_law_laid laidOutP (m := 3) (by omega) (of_decide_eq_true (by kernel_rfl)) (by kernel_rfl) (by rw [Yba.underlying31])
theorem law88 : WideMaps.KeyLaw Yba.prog 88 := deep_law_laid laidOutP (m := 4) (by omega) (of_decide_eq_true (by kernel_rfl)) (by kernel_rfl) (by rw [Yba.underlying88])
/-- Two keys compared. -/
theorem equal_keys {P : Program} {t : TypeId} (m : Nat) (hm : m ≤ 10000) (hk : P.keyTypeAt m t = true) (hw : (match P.underlying t with | some (.array _ _) | some (.struct _) => true | _ => false) = true) (K : WideMaps.KeyLaw P t) {x y : Value} (hx : ∃ l, keyOf P t x = some l) (hy : ∃ l, keyOf P t y = some l) (w : World) (b : Bool) (hb : b = true ↔ x = y) :
    (Op.equal t x y).run P w = .ok b w := by
  obtain ⟨lx, hx⟩ := hx
  obtain ⟨ly, hy⟩ := hy
  obtain ⟨r, hr, hiff⟩ := run_equal_deep w hm hk hw hx hy
  have : r = b := by
    rw [Bool.eq_iff_iff, hiff, hb]
    exact ⟨fun h => K.inj (h ▸ hx) hy, fun h => by subst h; rw [hx] at hy; exact Option.some.inj hy⟩
  rw [hr, this]
theorem eq29 {k m k' m' : Int} (h1 : (Lit.int .u8 k).wf = true) (h2 : (Lit.int .u8 m).wf = true) (h3 : (Lit.int .u8 k').wf = true) (h4 : (Lit.int .u8 m').wf = true) (w : World) :
    (Op.equal 29 (.agg (idA k m)) (.agg (idA k' m'))).run Yba.prog w = .ok (decide (k = k' ∧ m = m')) w :=
  equal_keys 2 (by omega) (by kernel_rfl) (by rw [Yba.underlying29]) law29 (keyOf29 h1 h2) (keyOf29 h3 h4) w _ (by rw [decide_eq_true_iff, idA_inj])
theorem eq31 {k k' : Int} {s s' : ByteArray} (h1 : (Lit.int .u8 k).wf = true) (h2 : s.size ≤ maxLen) (h3 : (Lit.int .u8 k').wf = true) (h4 : s'.size ≤ maxLen) (w : World) :
    (Op.equal 31 (.agg (prA k s)) (.agg (prA k' s'))).run Yba.prog w = .ok (decide (k = k' ∧ s = s')) w :=
  equal_keys 3 (by omega) (by kernel_rfl) (by rw [Yba.underlying31]) law31 (keyOf31 h1 h2) (keyOf31 h3 h4) w _ (by rw [decide_eq_true_iff, prA_inj])
theorem binop31 {k k' : Int} (h1 : (Lit.int .u8 k).wf = true) (h3 : (Lit.int .u8 k').wf = true) (w : World) :
    (binOp .eql 31 (.agg (prA k xS)) (.agg (prA k' xS))).run Yba.prog w = .ok (.bool (decide (k = k'))) w := by
  have h := eq31 (s := xS) (s' := xS) h1 (by decide) h3 (by decide) w
  simp at h
  simp [binOp, h]
end Go.Proofs.Ybulkbpmg
