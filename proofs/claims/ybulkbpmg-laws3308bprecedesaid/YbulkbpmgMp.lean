/-
  YbulkbpmgMp: maps keyed by ids, with a handful of entries: own laws on look-up, update and delete.
-/
import Derived.Test.YbulkbpmgExt
namespace Go.Proofs.Ybulkbpmg
open Go.RowKit
set_option linter.unusedVariables false
set_option linter.unusedSimpArgs false

/-- The map in block b holds the entries 'es', in this order. -/
def MapAt (w : World) (b : Nat) (es : List (Value × Value)) : Prop :=
  ∃ (ms : Array MapEntry) (clock : Nat), w.heap[b]? = some (.map ms clock) ∧ ms.toList.map (fun e => (e.key, e.val)) = es ∧ ∀ e ∈ ms.toList, ∃ l, keyOf Yba.prog 29 e.key = some l

theorem MapAt.only {p : Nat → Prop} {w w' : World} {b : Nat} {es : List (Value × Value)} (h : MapAt w b es) (hO : Only p w w') (hb : ¬ p b) : MapAt w' b es := by
  obtain ⟨ms, clock, h1, h2, h3⟩ := h
  have hlt : b < w.heap.size := (Array.getElem?_eq_some_iff.1 h1).1
  exact ⟨ms, clock, (hO.block b hlt hb).trans h1, h2, h3⟩
theorem MapAt.lt {w : World} {b : Nat} {es : List (Value × Value)} (h : MapAt w b es) : b < w.heap.size := by
  obtain ⟨ms, clock, h1, _⟩ := h
  exact (Array.getElem?_eq_some_iff.1 h1).1
theorem mapAt_new (w : World) (b : Nat) (h : b = w.heap.size) : MapAt (w.alloc (.map #[] 0)) b [] := by
  subst h
  exact ⟨#[], 0, (MapKept.heap_alloc w _).1, rfl, by simp⟩

theorem only_setBlock (w : World) (b : Nat) (ms ms' : Array MapEntry) (c c' : Nat) (h : w.heap[b]? = some (.map ms c)) : Only (fun q => q = b) w (ChangeMaps.setBlock w b (.map ms' c')) := by
  have hlt : b < w.heap.size := (Array.getElem?_eq_some_iff.1 h).1
  refine ⟨rfl, rfl, rfl, by simp [ChangeMaps.setBlock], fun k _ hk => ?_, fun a _ => ?_⟩
  · simp only [ChangeMaps.setBlock]
    rw [Array.getElem?_setIfInBounds_ne (fun e => hk e.symm)]
  · by_cases e : a.block = b
    · have e1 : (ChangeMaps.setBlock w b (.map ms' c')).heap[b]? = some (.map ms' c') := by simp [ChangeMaps.setBlock, hlt]
      simp only [World.frozen?, e, e1, h]
    · simp only [World.frozen?, ChangeMaps.setBlock]
      rw [Array.getElem?_setIfInBounds_ne (fun e' => e e'.symm)]

section
variable {t e : TypeId} (ht : Yba.prog.underlying t = some (.map 29 e)) {w : World} {b : Nat} {es : List (Value × Value)} {key : Value} (hkey : ∃ l, keyOf Yba.prog 29 key = some l)
include ht hkey

theorem look_none (h : MapAt w b es) (hno : ∀ x ∈ es, x.1 ≠ key) {z : Value} (hz : (zeroValue e).run Yba.prog w = .ok z w) (c : Bool) :
    (Instr.lookup t (.map (some b)) key c).run Yba.prog w = .ok (if c then .tuple #[z, .bool false] else z) w := by
  obtain ⟨ms, clock, hb, rfl, hk⟩ := h
  obtain ⟨l, hkey⟩ := hkey
  rcases law29.find w hkey ms.toList hk with ⟨h1, h2⟩ | ⟨j, e0, h1, h2, h3⟩
  · simp [Instr.lookup, run_underlying ht, MapKept.run_getObj_map hb, law29.check w _ hkey, h1, hz, Result.andThen]
  · exact absurd h3 (hno _ (List.mem_map.2 ⟨e0, List.mem_of_getElem? h2, rfl⟩))

theorem look_some (h : MapAt w b es) {v : Value} (hin : ∃ x ∈ es, x.1 = key) (hv : ∀ x ∈ es, x.1 = key → x.2 = v) (c : Bool) :
    (Instr.lookup t (.map (some b)) key c).run Yba.prog w = .ok (if c then .tuple #[v, .bool true] else v) w := by
  obtain ⟨ms, clock, hb, rfl, hk⟩ := h
  obtain ⟨l, hkey⟩ := hkey
  rcases law29.find w hkey ms.toList hk with ⟨h1, h2⟩ | ⟨j, e0, h1, h2, h3⟩
  · obtain ⟨x, hx, hxk⟩ := hin
    obtain ⟨e0, he0, rfl⟩ := List.mem_map.1 hx
    exact absurd hxk (h2 e0 he0)
  · have := hv _ (List.mem_map.2 ⟨e0, List.mem_of_getElem? h2, rfl⟩) h3
    simp only at this
    subst this
    simp [Instr.lookup, run_underlying ht, MapKept.run_getObj_map hb, law29.check w _ hkey, h1, Result.andThen]

theorem upd_new (h : MapAt w b es) (hno : ∀ x ∈ es, x.1 ≠ key) (v : Value) :
    ∃ w', (∀ m, (Instr.mapUpdate t (.map (some b)) key v).run Yba.prog (w.drewN m) = .ok () (w'.drewN m)) ∧ MapAt w' b (es ++ [(key, v)]) ∧ Only (fun q => q = b) w w' := by
  obtain ⟨ms, clock, hb, rfl, hk⟩ := h
  obtain ⟨l, hkey⟩ := hkey
  refine ⟨ChangeMaps.setBlock w b (.map (ms.push { key := key, val := v, born := clock }) (clock + 1)), fun m => ?_, ?_, only_setBlock w b _ _ _ _ hb⟩
  · have hb' : (w.drewN m).heap[b]? = some (.map ms clock) := hb
    rcases law29.find (w.drewN m) hkey ms.toList hk with ⟨h1, h2⟩ | ⟨j, e0, h1, h2, h3⟩
    · simp [Instr.mapUpdate, run_underlying ht, MapKept.run_getObj_map hb', law29.check (w.drewN m) _ hkey, h1, MapKept.run_setObj_map _ hb', Result.andThen]
      rfl
    · exact absurd h3 (hno _ (List.mem_map.2 ⟨e0, List.mem_of_getElem? h2, rfl⟩))
  · have hlt : b < w.heap.size := (Array.getElem?_eq_some_iff.1 hb).1
    refine ⟨ms.push { key := key, val := v, born := clock }, clock + 1, by simp [ChangeMaps.setBlock, hlt], by simp, ?_⟩
    intro e0 he0
    simp at he0
    rcases he0 with h | h
    · exact hk e0 (by simpa using h)
    · subst h; exact ⟨l, hkey⟩

theorem upd_one {v0 : Value} (h : MapAt w b [(key, v0)]) (v : Value) :
    ∃ w', (∀ m, (Instr.mapUpdate t (.map (some b)) key v).run Yba.prog (w.drewN m) = .ok () (w'.drewN m)) ∧ MapAt w' b [(key, v)] ∧ Only (fun q => q = b) w w' := by
  obtain ⟨ms, clock, hb, he, hk⟩ := h
  obtain ⟨l, hkey⟩ := hkey
  obtain ⟨ml⟩ := ms
  match ml, he with
  | [e0], he =>
    simp at he
    obtain ⟨e1, e2⟩ := he
    refine ⟨ChangeMaps.setBlock w b (.map #[{ e0 with key := key, val := v }] clock), fun m => ?_, ?_, only_setBlock w b _ _ _ _ hb⟩
    · have hb' : (w.drewN m).heap[b]? = some (.map #[e0] clock) := hb
      rcases law29.find (w.drewN m) hkey [e0] hk with ⟨h1, h2⟩ | ⟨j, e9, h1, h2, h3⟩
      · exact absurd e1 (h2 e0 (by simp))
      · have hj : j = 0 := by
          have := (List.getElem?_eq_some_iff.1 h2).1
          simpa using this
        subst hj
        simp at h2
        subst h2
        simp [Instr.mapUpdate, run_underlying ht, MapKept.run_getObj_map hb', law29.check (w.drewN m) _ hkey, h1, e1, law29.stays (w.drewN m) hkey, MapKept.run_setObj_map _ hb', Result.andThen]
        rfl
    · have hlt : b < w.heap.size := (Array.getElem?_eq_some_iff.1 hb).1
      exact ⟨#[{ e0 with key := key, val := v }], clock, by simp [ChangeMaps.setBlock, hlt], by simp, by simpa using ⟨l, hkey⟩⟩

theorem del_none (h : MapAt w b es) (hno : ∀ x ∈ es, x.1 ≠ key) (ty : TypeId) :
    ∃ w', (∀ m, (Builtin.delete_ #[t, 29] ty #[.map (some b), key]).run Yba.prog (w.drewN m) = .ok (.tuple #[]) (w'.drewN m)) ∧ MapAt w' b es ∧ Only (fun q => q = b) w w' := by
  obtain ⟨ms, clock, hb, rfl, hk⟩ := h
  obtain ⟨l, hkey⟩ := hkey
  refine ⟨ChangeMaps.setBlock w b (.map ms clock), fun m => ?_, ?_, only_setBlock w b _ _ _ _ hb⟩
  · have hb' : (w.drewN m).heap[b]? = some (.map ms clock) := hb
    rcases law29.find (w.drewN m) hkey ms.toList hk with ⟨h1, h2⟩ | ⟨j, e0, h1, h2, h3⟩
    · simp [Builtin.delete_, run_underlying ht, MapKept.run_getObj_map hb', law29.check (w.drewN m) _ hkey, h1, MapKept.run_setObj_map _ hb', Result.andThen]
      rfl
    · exact absurd h3 (hno _ (List.mem_map.2 ⟨e0, List.mem_of_getElem? h2, rfl⟩))
  · have hlt : b < w.heap.size := (Array.getElem?_eq_some_iff.1 hb).1
    exact ⟨ms, clock, by simp [ChangeMaps.setBlock, hlt], rfl, hk⟩

theorem del_last {v : Value} (h : MapAt w b (es ++ [(key, v)])) (hno : ∀ x ∈ es, x.1 ≠ key) (ty : TypeId) :
    ∃ w', (∀ m, (Builtin.delete_ #[t, 29] ty #[.map (some b), key]).run Yba.prog (w.drewN m) = .ok (.tuple #[]) (w'.drewN m)) ∧ MapAt w' b es ∧ Only (fun q => q = b) w w' := by
  obtain ⟨ms, clock, hb, he, hk⟩ := h
  obtain ⟨l, hkey⟩ := hkey
  refine ⟨ChangeMaps.setBlock w b (.map (ms.eraseIdxIfInBounds es.length) clock), fun m => ?_, ?_, only_setBlock w b _ _ _ _ hb⟩
  · have hb' : (w.drewN m).heap[b]? = some (.map ms clock) := hb
    rcases law29.find (w.drewN m) hkey ms.toList hk with ⟨h1, h2⟩ | ⟨j, e0, h1, h2, h3⟩
    · have hm : (key, v) ∈ ms.toList.map (fun e => (e.key, e.val)) := by rw [he]; simp
      obtain ⟨e0, he0, hee⟩ := List.mem_map.1 hm
      simp at hee
      exact absurd hee.1 (h2 e0 he0)
    · have hj : j = es.length := by
        have hg : (ms.toList.map (fun e => (e.key, e.val)))[j]? = some (e0.key, e0.val) := by rw [List.getElem?_map, h2]; rfl
        rw [he] at hg
        by_cases hlt : j < es.length
        · rw [List.getElem?_append_left hlt] at hg
          exact absurd h3 (hno _ (List.mem_of_getElem? hg))
        · have := (List.getElem?_eq_some_iff.1 hg).1
          simp at this
          omega
      subst hj
      simp [Builtin.delete_, run_underlying ht, MapKept.run_getObj_map hb', law29.check (w.drewN m) _ hkey, h1, MapKept.run_setObj_map _ hb', Result.andThen]
      rfl
  · have hlt : b < w.heap.size := (Array.getElem?_eq_some_iff.1 hb).1
    have hlen : es.length < ms.size := by
      have := congrArg List.length he
      simp at this
      omega
    refine ⟨ms.eraseIdxIfInBounds es.length, clock, by simp [ChangeMaps.setBlock, hlt], ?_, ?_⟩
    · rw [Array.eraseIdxIfInBounds, dif_pos hlen, Array.toList_eraseIdx, ChangeMaps.map_eraseIdx, he]
      simp [List.eraseIdx_append_of_length_le]
    · intro e0 he0
      rw [Array.eraseIdxIfInBounds, dif_pos hlen, Array.toList_eraseIdx] at he0
      exact hk e0 ((List.eraseIdx_sublist _ _).subset he0)
end
end Go.Proofs.Ybulkbpmg
