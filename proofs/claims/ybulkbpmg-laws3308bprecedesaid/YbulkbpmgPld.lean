/-
  YbulkbpmgPld: whole ids, peers and events loaded, stored and built, kept shut from the walk's unfolding.
-/
import Derived.Test.YbulkbpmgPids
namespace Go.Proofs.Ybulkbpmg
open Go.RowKit
set_option linter.unusedVariables false
set_option linter.unusedSimpArgs false

def oInt : Option Value → Int | some (.int _ n) => n | _ => 0
def oStr : Option Value → ByteArray | some (.string s) => s | _ => ByteArray.empty
theorem oInt_int (q : IntKind) (n : Int) : oInt (some (.int q n)) = n := rfl
theorem oStr_string (s : ByteArray) : oStr (some (.string s)) = s := rfl
def intAt (w : World) (a : Addr) : Int := oInt (w.cell? a)
def strAt (w : World) (a : Addr) : ByteArray := oStr (w.cell? a)
def IdLie (w : World) (b o : Nat) : Prop := ∃ k m, w.rangeAt b o (idA k m).toList
def PrLie (w : World) (b o : Nat) : Prop := ∃ k s, w.rangeAt b o (prA k s).toList
def EvLie (w : World) (b o : Nat) : Prop := ∃ q k s j t, w.rangeAt b o (evA q k s j t).toList

theorem size29 : (Yba.prog.info? 29).map (·.size) = some 20 := by kernel_rfl
theorem size31 : (Yba.prog.info? 31).map (·.size) = some 21 := by kernel_rfl
theorem size88 : (Yba.prog.info? 88).map (·.size) = some 43 := by kernel_rfl
def load29 (v : Value) : Sem Value := Instr.loadAt 29 v
def load31 (v : Value) : Sem Value := Instr.loadAt 31 v
def load88 (v : Value) : Sem Value := Instr.loadAt 88 v
def store29 (p v : Value) : Sem Unit := Instr.storeAt 29 p v
def store31 (p v : Value) : Sem Unit := Instr.storeAt 31 p v
def store88 (p v : Value) : Sem Unit := Instr.storeAt 88 p v
def build31 (ps : Array (Nat × Value)) : Sem Value := Instr.build 31 ps
def build88 (ps : Array (Nat × Value)) : Sem Value := Instr.build 88 ps
theorem load29_in (v : Value) : Instr.loadAt 29 v = load29 v := rfl
theorem load31_in (v : Value) : Instr.loadAt 31 v = load31 v := rfl
theorem load88_in (v : Value) : Instr.loadAt 88 v = load88 v := rfl
theorem store29_in (p v : Value) : Instr.storeAt 29 p v = store29 p v := rfl
theorem store31_in (p v : Value) : Instr.storeAt 31 p v = store31 p v := rfl
theorem store88_in (p v : Value) : Instr.storeAt 88 p v = store88 p v := rfl
theorem build31_in (ps : Array (Nat × Value)) : Instr.build 31 ps = build31 ps := rfl
theorem build88_in (ps : Array (Nat × Value)) : Instr.build 88 ps = build88 ps := rfl

theorem rangeAt_id {w : World} {b o : Nat} {k m : Int} (h : w.rangeAt b o (idA k m).toList) : intAt w ⟨b, o, none⟩ = k ∧ intAt w ⟨b, o + 1, none⟩ = m := by
  have h0 := h 0 (.int .u8 k) (by simp [idA])
  have h1 := h 1 (.int .u8 m) (by simp [idA])
  simp only [Nat.add_zero] at h0
  simp [intAt, h0, h1, oInt]
theorem rangeAt_pr {w : World} {b o : Nat} {k : Int} {s : ByteArray} (h : w.rangeAt b o (prA k s).toList) : intAt w ⟨b, o, none⟩ = k ∧ strAt w ⟨b, o + 20, none⟩ = s := by
  have h0 := h 0 (.int .u8 k) (by simp [prA])
  have h1 := h 20 (.string s) (by simp [prA])
  simp only [Nat.add_zero] at h0
  simp [intAt, strAt, h0, h1, oInt, oStr]
theorem pr_id {w : World} {b o : Nat} {k : Int} {s : ByteArray} (h : w.rangeAt b o (prA k s).toList) : w.rangeAt b o (idA k 0).toList := fun j v hv => h j v (by
  have hj : j < 20 := by
    have := (List.getElem?_eq_some_iff.1 hv).1
    rwa [idA_len] at this
  rw [← hv]
  have e : (prA k s).toList = (idA k 0).toList ++ [.string s] := by simp [prA, idA]
  rw [e, List.getElem?_append_left (by rw [idA_len]; exact hj)])
theorem run_load29 (w : World) (b o : Nat) (h : IdLie w b o) :
    (load29 (.pointer (some ⟨b, o, none⟩))).run Yba.prog w = .ok (.agg (idA (intAt w ⟨b, o, none⟩) (intAt w ⟨b, o + 1, none⟩))) w := by
  obtain ⟨k, m, h⟩ := h
  obtain ⟨e1, e2⟩ := rangeAt_id h
  rw [e1, e2, load29, run_loadAt_mid w b o 29 (idA k m).toList _ h Yba.underlying29 rfl (by rw [size29, idA_len])]
theorem run_load31 (w : World) (b o : Nat) (h : PrLie w b o) :
    (load31 (.pointer (some ⟨b, o, none⟩))).run Yba.prog w = .ok (.agg (prA (intAt w ⟨b, o, none⟩) (strAt w ⟨b, o + 20, none⟩))) w := by
  obtain ⟨k, s, h⟩ := h
  obtain ⟨e1, e2⟩ := rangeAt_pr h
  rw [e1, e2, load31, run_loadAt_mid w b o 31 (prA k s).toList _ h Yba.underlying31 rfl (by rw [size31, prA_len])]
theorem one29 (k m : Int) : (idA k m).all (·.oneCell') = true := by simp [idA, Value.oneCell']
theorem one31 (k : Int) (s : ByteArray) : (prA k s).all (·.oneCell') = true := by simp [prA, Value.oneCell']
theorem one88 (q k : Int) (s : ByteArray) (j : Int) (t : ByteArray) : (evA q k s j t).all (·.oneCell') = true := by simp [evA, prA, Value.oneCell']
theorem run_store31 (w : World) (b o : Nat) (k : Int) (s : ByteArray) (ht : w.there b o 21) :
    (store31 (.pointer (some ⟨b, o, none⟩)) (.agg (prA k s))).run Yba.prog w = .ok () (w.setCells b o (prA k s).toList) :=
  run_storeAt_mid w b o 31 (prA k s) (by rw [prA_size]; exact ht) (by rw [size31, prA_size]) (one31 k s)
theorem run_store29 (w : World) (b o : Nat) (k m : Int) (ht : w.there b o 20) :
    (store29 (.pointer (some ⟨b, o, none⟩)) (.agg (idA k m))).run Yba.prog w = .ok () (w.setCells b o (idA k m).toList) :=
  run_storeAt_mid w b o 29 (idA k m) (by rw [idA_size]; exact ht) (by rw [size29, idA_size]) (one29 k m)
theorem run_build31 (w : World) (k : Int) (s : ByteArray) : (build31 #[(0, .agg (idA k 0)), (1, .string s)]).run Yba.prog w = .ok (.agg (prA k s)) w :=
  run_build w 31 _ _ (by kernel_rfl)
theorem run_build88a (w : World) (q k : Int) (s : ByteArray) (j : Int) (t : ByteArray) : (build88 #[(0, .int .u8 q), (1, .agg (prA k s)), (2, .agg (prA j t))]).run Yba.prog w = .ok (.agg (evA q k s j t)) w :=
  run_build w 88 _ _ (by kernel_rfl)
theorem run_build88b (w : World) (q k : Int) (s : ByteArray) : (build88 #[(0, .int .u8 q), (1, .agg (prA k s))]).run Yba.prog w = .ok (.agg (evA q k s 0 ⟨#[]⟩)) w :=
  run_build w 88 _ _ (by kernel_rfl)

theorem idLie_alloc (w : World) (ob : Obj) (b o : Nat) (h : b < w.heap.size) : IdLie (w.alloc ob) b o ↔ IdLie w b o := by
  unfold IdLie World.rangeAt
  simp only [World.cell?_alloc_past _ _ _ h]
theorem prLie_alloc (w : World) (ob : Obj) (b o : Nat) (h : b < w.heap.size) : PrLie (w.alloc ob) b o ↔ PrLie w b o := by
  unfold PrLie World.rangeAt
  simp only [World.cell?_alloc_past _ _ _ h]
theorem range_new (w : World) (cs : Array Value) (t : TypeId) (b : Nat) (h : b = w.heap.size) : (w.alloc (.cells cs t)).rangeAt b 0 cs.toList := fun j v hv => by
  subst h
  rw [World.cell?_alloc_at _ _ _ _ rfl]
  simpa using hv
theorem idLie_new (w : World) (k m : Int) (t : TypeId) (b : Nat) (h : b = w.heap.size) : IdLie (w.alloc (.cells (idA k m) t)) b 0 ↔ True := ⟨fun _ => trivial, fun _ => ⟨k, m, range_new w _ t b h⟩⟩
theorem prLie_new (w : World) (k : Int) (s : ByteArray) (t : TypeId) (b : Nat) (h : b = w.heap.size) : PrLie (w.alloc (.cells (prA k s) t)) b 0 ↔ True := ⟨fun _ => trivial, fun _ => ⟨k, s, range_new w _ t b h⟩⟩
theorem idLie_prnew (w : World) (k : Int) (s : ByteArray) (t : TypeId) (b : Nat) (h : b = w.heap.size) : IdLie (w.alloc (.cells (prA k s) t)) b 0 ↔ True := ⟨fun _ => trivial, fun _ => ⟨k, 0, pr_id (range_new w _ t b h)⟩⟩
theorem idLie_drewN (w : World) (n b o : Nat) : IdLie (w.drewN n) b o ↔ IdLie w b o := Iff.rfl
theorem prLie_drewN (w : World) (n b o : Nat) : PrLie (w.drewN n) b o ↔ PrLie w b o := Iff.rfl
theorem idLie_drew (w : World) (b o : Nat) : IdLie w.drew b o ↔ IdLie w b o := Iff.rfl
theorem prLie_drew (w : World) (b o : Nat) : PrLie w.drew b o ↔ PrLie w b o := Iff.rfl
theorem idA0 (k m : Int) : (idA k m)[0]? = some (.int .u8 k) := by simp [idA]
theorem idA1 (k m : Int) : (idA k m)[1]? = some (.int .u8 m) := by simp [idA]
theorem prA0 (k : Int) (s : ByteArray) : (prA k s)[0]? = some (.int .u8 k) := by simp [prA]
theorem prA1 (k : Int) (s : ByteArray) : (prA k s)[1]? = some (.int .u8 0) := by simp [prA]
theorem prA20 (k : Int) (s : ByteArray) : (prA k s)[20]? = some (.string s) := by simp [prA]
theorem idA_0 (k m : Int) (h : 0 < (idA k m).size) : (idA k m)[0] = .int .u8 k := by simp [idA]
theorem idA_1 (k m : Int) (h : 1 < (idA k m).size) : (idA k m)[1] = .int .u8 m := by simp [idA]
theorem prA_0 (k : Int) (s : ByteArray) (h : 0 < (prA k s).size) : (prA k s)[0] = .int .u8 k := by simp [prA]
theorem prA_1 (k : Int) (s : ByteArray) (h : 1 < (prA k s).size) : (prA k s)[1] = .int .u8 0 := by simp [prA]
theorem prA_20 (k : Int) (s : ByteArray) (h : 20 < (prA k s).size) : (prA k s)[20] = .string s := by simp [prA]
theorem intAt_of {w : World} {a : Addr} {q : IntKind} {n : Int} (h : w.cell? a = some (.int q n)) : intAt w a = n := by simp [intAt, h, oInt]
theorem strAt_of {w : World} {a : Addr} {s : ByteArray} (h : w.cell? a = some (.string s)) : strAt w a = s := by simp [strAt, h, oStr]
theorem zero31 (w : World) : (zeroValue 31).run Yba.prog w = .ok (.agg (prA 0 ⟨#[]⟩)) w := by
  have h := Yba.zeroValue31 w
  rw [h]
  simp [prA]
theorem zero29 (w : World) : (zeroValue 29).run Yba.prog w = .ok (.agg (idA 0 0)) w := by
  have h := Yba.zeroValue29 w
  rw [h]
  simp [idA]
end Go.Proofs.Ybulkbpmg
