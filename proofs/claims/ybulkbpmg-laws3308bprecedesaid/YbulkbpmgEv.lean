/-
  YbulkbpmgEv: events loaded, stored, gathered in rows.
-/
import Derived.Test.YbulkbpmgMark
namespace Go.Proofs.Ybulkbpmg
open Go.RowKit Go.MuLone
set_option linter.unusedVariables false
set_option linter.unusedSimpArgs false

structure Evt where
  q : Int
  k : Int
  s : ByteArray
  j : Int
  t : ByteArray
def Evt.cells (e : Evt) : Array Value := evA e.q e.k e.s e.j e.t
theorem Evt.size (e : Evt) : e.cells.size = 43 := evA_size ..
theorem Evt.len (e : Evt) : e.cells.toList.length = 43 := evA_len ..
/-- The event that lies there (the one that the cells name). -/
noncomputable def evtAt (w : World) (b o : Nat) : Evt := ⟨intAt w ⟨b, o, none⟩, intAt w ⟨b, o + 1, none⟩, strAt w ⟨b, o + 21, none⟩, intAt w ⟨b, o + 22, none⟩, strAt w ⟨b, o + 42, none⟩⟩
theorem evtAt_of {w : World} {b o : Nat} {e : Evt} (h : w.rangeAt b o e.cells.toList) : evtAt w b o = e := by
  obtain ⟨q, k, s, j, t⟩ := e
  have h0 := h 0 (.int .u8 q) (by simp [Evt.cells, evA, prA])
  have h1 := h 1 (.int .u8 k) (by simp [Evt.cells, evA, prA])
  have h2 := h 21 (.string s) (by simp [Evt.cells, evA, prA])
  have h3 := h 22 (.int .u8 j) (by simp [Evt.cells, evA, prA])
  have h4 := h 42 (.string t) (by simp [Evt.cells, evA, prA])
  simp only [Nat.add_zero] at h0
  simp [evtAt, intAt, strAt, h0, h1, h2, h3, h4, oInt, oStr]
def EvtLie (w : World) (b o : Nat) : Prop := ∃ e : Evt, w.rangeAt b o e.cells.toList
theorem run_load88 (w : World) (b o : Nat) (h : EvtLie w b o) : (load88 (.pointer (some ⟨b, o, none⟩))).run Yba.prog w = .ok (.agg (evtAt w b o).cells) w := by
  obtain ⟨e, h⟩ := h
  rw [evtAt_of h, load88, run_loadAt_mid w b o 88 e.cells.toList _ h Yba.underlying88 rfl (by rw [size88, Evt.len])]
theorem run_store88 (w : World) (b o : Nat) (e : Evt) (ht : w.there b o 43) :
    (store88 (.pointer (some ⟨b, o, none⟩)) (.agg e.cells)).run Yba.prog w = .ok () (w.setCells b o e.cells.toList) :=
  run_storeAt_mid w b o 88 e.cells (by rw [Evt.size]; exact ht) (by rw [size88, Evt.size]) (one88 ..)
def bsl85 (n : Nat) (ps : Array (Nat × Value)) : Sem Value := Instr.buildSlice 85 n ps
theorem bsl85_in (n : Nat) (ps : Array (Nat × Value)) : Instr.buildSlice 85 n ps = bsl85 n ps := rfl
theorem run_bsl85' (w : World) (q k : Int) (s : ByteArray) (j : Int) (t : ByteArray) : (bsl85 1 #[(0, .agg (evA q k s j t))]).run Yba.prog w = .ok (.slice (some ⟨w.heap.size, 0, none⟩) 1 1) (w.alloc (.cells (evA q k s j t) 88)) := by kernel_rfl
theorem run_bsl85 (w : World) (e : Evt) : (bsl85 1 #[(0, .agg e.cells)]).run Yba.prog w = .ok (.slice (some ⟨w.heap.size, 0, none⟩) 1 1) (w.alloc (.cells e.cells 88)) := by
  rw [Evt.cells, run_bsl85']
theorem evtLie_new (w : World) (e : Evt) (t : TypeId) (b : Nat) (h : b = w.heap.size) : EvtLie (w.alloc (.cells e.cells t)) b 0 ↔ True := ⟨fun _ => trivial, fun _ => ⟨e, range_new w _ t b h⟩⟩
theorem evtAt_new (w : World) (e : Evt) (t : TypeId) (b : Nat) (h : b = w.heap.size) : evtAt (w.alloc (.cells e.cells t)) b 0 = e := evtAt_of (range_new w _ t b h)
theorem zero88' (w : World) : (zeroValue 88).run Yba.prog w = .ok (.agg (evA 0 0 ⟨#[]⟩ 0 ⟨#[]⟩)) w := by kernel_rfl
theorem zero88 (w : World) : (zeroValue 88).run Yba.prog w = .ok (.agg (Evt.cells ⟨0, 0, ⟨#[]⟩, 0, ⟨#[]⟩⟩)) w := by rw [zero88' w]; rfl
/-- The cells of a row of events. -/
def evs (es : List Evt) : List Value := es.flatMap fun e => e.cells.toList
theorem evs_snoc (es : List Evt) (e : Evt) : evs (es ++ [e]) = evs es ++ e.cells.toList := by simp [evs]
theorem evs_len (es : List Evt) : (evs es).length = es.length * 43 := by
  induction es with
  | nil => rfl
  | cons k ks ih => simp only [evs, List.flatMap_cons, List.length_append, Evt.len, List.length_cons] at *; rw [ih]; omega
theorem evs_get : ∀ (es : List Evt) (i j : Nat) (e : Evt), es[i]? = some e → j < 43 → (evs es)[i * 43 + j]? = e.cells.toList[j]?
  | [], _, _, _, h, _ => by simp at h
  | k :: ks, 0, j, k', h, hj => by
    simp at h; subst h
    rw [evs, List.flatMap_cons, List.getElem?_append_left (by rw [Evt.len]; omega)]; simp
  | k :: ks, i + 1, j, k', h, hj => by
    rw [evs, List.flatMap_cons, List.getElem?_append_right (by rw [Evt.len]; omega), Evt.len, show (i + 1) * 43 + j - 43 = i * 43 + j by omega]
    exact evs_get ks i j k' (by simpa using h) hj
theorem evs_one (es : List Evt) : ∀ v ∈ evs es, v.oneCell' = true := by
  intro v hv
  obtain ⟨k, _, hv⟩ := List.mem_flatMap.1 hv
  have := one88 k.q k.k k.s k.j k.t
  rw [Array.all_eq_true_iff_forall_mem] at this
  exact this v (by simpa [Evt.cells] using hv)
theorem info88 : (Yba.prog.info? 88).map (fun i => (i.zero, i.size, i.bytes)) = some (some (.agg (evA 0 0 ⟨#[]⟩ 0 ⟨#[]⟩)), 43, 88) := by kernel_rfl
end Go.Proofs.Ybulkbpmg
