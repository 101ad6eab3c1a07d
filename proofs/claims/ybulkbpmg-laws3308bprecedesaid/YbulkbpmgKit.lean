import Derived.Test.YbulkbpmgSaw
import Derived.Deep.RegionHeld3
import Derived.Deep.DrawnRows
import Derived.Deep.MidRow
namespace Go.Proofs.Ybulkbpmg
open Go.RowKit
set_option linter.unusedVariables false

theorem range_later {w wx : World} {b o : Nat} {cs : List Value} (hb : Below w.heap.size w wx) (h : w.rangeAt b o cs) : wx.rangeAt b o cs := fun j v hv => cell_later hb (h j v hv)

/-- The cells from 'o' on written over by 'vs'. -/
def setMany (C : Array Value) : Nat → List Value → Array Value
  | _, [] => C
  | o, v :: r => setMany (C.setIfInBounds o v) (o + 1) r

theorem setMany_size : ∀ (vs : List Value) (C : Array Value) (o : Nat), (setMany C o vs).size = C.size
  | [], _, _ => rfl
  | v :: r, C, o => by rw [setMany, setMany_size r]; simp

theorem setMany_get : ∀ (vs : List Value) (C : Array Value) (o : Nat), o + vs.length ≤ C.size → ∀ k, (setMany C o vs)[k]? = if o ≤ k ∧ k < o + vs.length then vs[k - o]? else C[k]?
  | [], C, o, h, k => by rw [setMany, if_neg (by simp)]
  | v :: r, C, o, h, k => by
    rw [setMany, setMany_get r _ (o + 1) (by simp at h ⊢; omega)]
    simp only [List.length_cons] at h ⊢
    by_cases h1 : k = o
    · subst h1
      rw [if_neg (by omega), if_pos (by omega)]
      simp [show k < C.size by omega]
    · by_cases h2 : o + 1 ≤ k ∧ k < o + 1 + r.length
      · rw [if_pos h2, if_pos (by omega), show k - o = (k - (o + 1)) + 1 by omega]
        simp
      · rw [if_neg h2, if_neg (by omega), Array.getElem?_setIfInBounds_ne (by omega)]

theorem setMany_all (vs : List Value) (C : Array Value) (h : vs.length = C.size) : setMany C 0 vs = vs.toArray := by
  apply Array.ext_getElem?
  intro k
  rw [setMany_get vs C 0 (by omega)]
  by_cases hk : k < vs.length
  · rw [if_pos (by omega)]; simp
  · rw [if_neg (by omega), Array.getElem?_eq_none (by omega), Array.getElem?_eq_none (by simp; omega)]

theorem setCells_alloc : ∀ (vs : List Value) (w : World) (C : Array Value) (t : TypeId) (n o : Nat), n = w.heap.size → (w.alloc (.cells C t)).setCells n o vs = w.alloc (.cells (setMany C o vs) t)
  | [], _, _, _, _, _, _ => rfl
  | v :: r, w, C, t, n, o, h => by rw [World.setCells, World.setCell_alloc_at _ _ _ _ _ h, setCells_alloc r w _ t n (o + 1) h, setMany]

/-- A whole new block written over. -/
theorem setCells_alloc_at (w : World) (C : Array Value) (t : TypeId) (n : Nat) (vs : List Value) (hn : n = w.heap.size) (hl : vs.length = C.size) :
    (w.alloc (.cells C t)).setCells n 0 vs = w.alloc (.cells vs.toArray t) := by
  rw [setCells_alloc vs w C t n 0 hn, setMany_all vs C hl]

theorem setCells_alloc_past : ∀ (vs : List Value) (w : World) (ob : Obj) (n o : Nat), n < w.heap.size → (w.alloc ob).setCells n o vs = (w.setCells n o vs).alloc ob
  | [], _, _, _, _, _ => rfl
  | v :: r, w, ob, n, o, h => by rw [World.setCells, World.setCell_alloc_past _ _ _ _ h, setCells_alloc_past r _ ob n (o + 1) (by simpa using h), World.setCells]

theorem setCells_drew : ∀ (vs : List Value) (w : World) (n o : Nat), w.drew.setCells n o vs = (w.setCells n o vs).drew
  | [], _, _, _ => rfl
  | v :: r, w, n, o => by rw [World.setCells, World.setCell_drew, setCells_drew r, World.setCells]
theorem setCells_drewN : ∀ (vs : List Value) (w : World) (m n o : Nat), (w.drewN m).setCells n o vs = (w.setCells n o vs).drewN m
  | [], _, _, _, _ => rfl
  | v :: r, w, m, n, o => by rw [World.setCells, setCell_drewN, setCells_drewN r, World.setCells]

theorem there_new (w : World) (C : Array Value) (t : TypeId) (n k : Nat) (hn : n = w.heap.size) (hk : k ≤ C.size) : (w.alloc (.cells C t)).there n 0 k := fun j hj => by
  subst hn
  refine ⟨?_, ?_⟩
  · rw [World.cell?_alloc_at _ _ _ _ rfl]; simp; omega
  · rw [World.frozen?_alloc_at _ _ _ _ rfl]
theorem there_past (w : World) (ob : Obj) (n o k : Nat) (hn : n < w.heap.size) : (w.alloc ob).there n o k ↔ w.there n o k := by
  unfold World.there
  refine ⟨fun h j hj => ?_, fun h j hj => ?_⟩
  · have := h j hj
    rwa [World.cell?_alloc_past _ _ _ hn, World.frozen?_alloc_past _ _ _ hn] at this
  · rw [World.cell?_alloc_past _ _ _ hn, World.frozen?_alloc_past _ _ _ hn]
    exact h j hj

/-! ### A 'state' (type 67): 23 cells -/
def stateArr (c0 : Value) : Array Value := #[c0, .int .u8 0, .int .u8 0, .int .u8 0, .int .u8 0, .int .u8 0, .int .u8 0, .int .u8 0, .int .u8 0, .int .u8 0, .int .u8 0, .int .u8 0, .int .u8 0, .int .u8 0, .int .u8 0, .int .u8 0, .int .u8 0, .int .u8 0, .int .u8 0, .int .u8 0, .int .u8 0, .string ByteArray.empty, .slice none 0 0]
theorem stateArr_size (c0 : Value) : (stateArr c0).size = 23 := by simp [stateArr]
theorem stateArr_len (c0 : Value) : (stateArr c0).toList.length = 23 := rfl
def restZero (w : World) (b o : Nat) : Prop := ∃ c0, w.rangeAt b o (stateArr c0).toList
theorem size67 : (Yba.prog.info? 67).map (·.size) = some 23 := by kernel_rfl
/-- The load and the store of a whole 'state', kept shut from the walk's unfolding. -/
def load67 (v : Value) : Sem Value := Instr.loadAt 67 v
def store67 (p v : Value) : Sem Unit := Instr.storeAt 67 p v
theorem load67_in (v : Value) : Instr.loadAt 67 v = load67 v := rfl
theorem store67_in (p v : Value) : Instr.storeAt 67 p v = store67 p v := rfl
theorem run_load67 (w : World) (b o : Nat) (h : restZero w b o) :
    (load67 (.pointer (some ⟨b, o, none⟩))).run Yba.prog w = .ok (.agg (stateArr ((w.cell? ⟨b, o, none⟩).getD undef))) w := by
  obtain ⟨c0, h⟩ := h
  have h0 := h 0 _ rfl
  simp only [Nat.add_zero] at h0
  rw [h0, load67, run_loadAt_mid w b o 67 (stateArr c0).toList _ h Yba.underlying67 rfl size67]
  rfl
theorem run_store67 (w : World) (b o : Nat) (a : Option Addr) (l c : Nat) (ht : w.there b o 23) :
    (store67 (.pointer (some ⟨b, o, none⟩)) (.agg (stateArr (.slice a l c)))).run Yba.prog w = .ok () (w.setCells b o (stateArr (.slice a l c)).toList) :=
  run_storeAt_mid w b o 67 (stateArr (.slice a l c)) ht size67 (by simp [stateArr, Value.oneCell'])

end Go.Proofs.Ybulkbpmg
