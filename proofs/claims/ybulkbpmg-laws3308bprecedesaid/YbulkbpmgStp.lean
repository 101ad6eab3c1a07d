/-
  YbulkbpmgStp: 'append' of one event onto a row of events, at a step of a region that draws; what a slice of events holds.
-/
import Derived.Test.YbulkbpmgAdd
namespace Go.Proofs.Ybulkbpmg
open Go.RowKit Go.MuLone
set_option linter.unusedVariables false
set_option linter.unusedSimpArgs false

theorem step_append_more {w : World} {ops : Array Oper} {o : Oper} {a : Act} {K : Act → World → Prop} {Q : Exit → Act → World → Prop} {E : Prop}
    (hg : o.guard = none) (s x : Operand) (hop : o.op = Op.call { callee := Callee.builtin Builtin.append, args := #[s, x], argTypes := #[85, 85] })
    (g n cap : Nat) (es : List Evt) (hs : a.eval s = .slice (some ⟨g, 0, none⟩) n cap) (hr : Row w g 0 n cap 43 (evs es)) (hlt : g < w.heap.size) (hn : n ≤ 10)
    (ib : Nat) (e : Evt) (hx : a.eval x = .slice (some ⟨ib, 0, none⟩) 1 1) (hc : w.rangeAt ib 0 e.cells.toList)
    (hK : ∀ g' cap' w', Row w' g' 0 (n + 1) cap' 43 (evs (es ++ [e])) → (g' = g ∨ w.heap.size ≤ g') → g' < w'.heap.size → Only (fun k => k = g) w w' → K (a.put o.dst (.slice (some ⟨g', 0, none⟩) (n + 1) cap')) w') :
    if Region.wanted o (yielded ops a.tmps) = true then Oper.wp Yba.prog o a w K Q else E := by
  have hw : Region.wanted o (yielded ops a.tmps) = true := by simp [Region.wanted, hg]
  rw [if_pos hw]
  obtain ⟨i, hi, hi'⟩ := Option.map_eq_some_iff.1 info88
  simp only [Prod.mk.injEq] at hi'
  obtain ⟨hz, hsz, hb⟩ := hi'
  have hone : ∀ u ∈ e.cells.toList, u.oneCell' = true := fun u h => evs_one [e] u (by simpa [evs] using h)
  have hcc : ∀ j u, e.cells.toList[j]? = some u → w.cell? (Addr.add ⟨ib, 0, none⟩ j) = some u := fun j u h => by rw [Addr.add_lit]; exact hc j u h
  by_cases hroom : n + 1 ≤ cap
  · have sp : ∀ j, j < e.cells.toList.length → (w.cell? ⟨g, 0 + n * i.size + j, none⟩).isSome = true ∧ w.frozen? ⟨g, 0 + n * i.size + j, none⟩ = false := fun j hj => by
      have hle : (n + 1) * 43 ≤ cap * 43 := Nat.mul_le_mul_right _ hroom
      rw [Evt.len] at hj
      have := hr.there (n * 43 + j) (by omega)
      rw [hsz]
      rwa [← Nat.add_assoc] at this
    have hrun := run_append_room_cells (P := Yba.prog) w 85 o.type 88 i Yba.underlying85 hi g 0 n cap ⟨ib, 0, none⟩ 1 1 e.cells.toList (by rw [Evt.len, hsz]) hcc hone hroom (fun j hj => (sp j hj).1) (fun j hj => (sp j hj).2)
    rw [hsz] at hrun
    have hrow := row_setCells hr 1 (show e.cells.toList.length = 1 * 43 by rw [Evt.len]) hone hroom
    have hO : Only (fun k => k = g) w (w.setCells g (0 + n * 43) e.cells.toList) := Only.setCells (p := fun k => k = g) rfl _ _ (Only.refl _ _)
    rw [← evs_snoc] at hrow
    unfold Oper.wp
    simp [execOp, hop, resolve, invoke, builtin, hs, hx, hrun, Result.andThen]
    rw [Nat.zero_add] at hrow hO
    exact hK g cap _ hrow (.inl rfl) (Nat.lt_of_lt_of_le hlt hO.size) hO
  · obtain ⟨v', w', hrun, r1, r2⟩ := run_append_arg_grows (P := Yba.prog) w 85 o.type 88 i _ 43 88 Yba.underlying85 hi hz hsz hb (evA_size ..) (by decide) ⟨g, 0, none⟩ n cap (evs es) hr.len (fun j u hj => by rw [Addr.add_lit]; exact hr.at' j u hj) ⟨ib, 0, none⟩ 1 1 e.cells.toList (by rw [Evt.len]) hcc (by omega) (by unfold maxLen; omega) (by omega)
    obtain ⟨g', cap', hv, hb', hl, hrow⟩ := row_owns r1 (by omega) (fun u hu => (List.mem_append.1 hu).elim (hr.one u) (hone u))
    subst hv
    rw [← evs_snoc] at hrow
    unfold Oper.wp
    simp [execOp, hop, resolve, invoke, builtin, hs, hx, hrun, Result.andThen]
    exact hK g' cap' w' hrow (.inr hb') hl (only_grown r2 _)

/-- The slice v holds the events 'es', in a block that is not below B. -/
def WantAt (B : Nat) (w : World) (v : Value) (es : List Evt) : Prop :=
  (es = [] ∧ v = .slice none 0 0) ∨ ∃ g cap, 0 < es.length ∧ v = .slice (some ⟨g, 0, none⟩) es.length cap ∧ Row w g 0 es.length cap 43 (evs es) ∧ g < w.heap.size ∧ B ≤ g
/-- The slice v holds the events 'es'. -/
def EvSl (w : World) (v : Value) (es : List Evt) : Prop := ∃ a c, v = .slice a es.length c ∧ ∀ i e, es[i]? = some e → ∃ g, a = some ⟨g, 0, none⟩ ∧ w.rangeAt g (i * 43) e.cells.toList
theorem evSl_row {w : World} {g n cap : Nat} {es : List Evt} (h : Row w g 0 n cap 43 (evs es)) (i : Nat) (e : Evt) (hi : es[i]? = some e) : w.rangeAt g (i * 43) e.cells.toList := fun j v hv => by
  have hj : j < 43 := by
    have := (List.getElem?_eq_some_iff.1 hv).1
    rwa [Evt.len] at this
  have := h.at' (i * 43 + j) v (by rw [evs_get es i j e hi hj]; exact hv)
  rwa [Nat.zero_add] at this
theorem WantAt.sl {B : Nat} {w : World} {v : Value} {es : List Evt} (h : WantAt B w v es) : EvSl w v es := by
  rcases h with ⟨rfl, rfl⟩ | ⟨g, cap, _, rfl, hr, _⟩
  · exact ⟨none, 0, rfl, fun i e h => by simp at h⟩
  · exact ⟨_, cap, rfl, fun i e h => ⟨g, rfl, evSl_row hr i e h⟩⟩
theorem LogAt.sl {w : World} {L : Nat} {es : List Evt} {lb : Option Nat} (h : LogAt w L es lb) : ∃ v, w.cell? ⟨L, 0, none⟩ = some v ∧ EvSl w v es := by
  cases lb with
  | none =>
    obtain ⟨h1, rfl⟩ := h
    exact ⟨_, h1, none, 0, rfl, fun i e h => by simp at h⟩
  | some g =>
    obtain ⟨cap, h1, h2, _⟩ := h
    exact ⟨_, h1, _, cap, rfl, fun i e h => ⟨g, rfl, evSl_row h2 i e h⟩⟩
theorem WantAt.only {B : Nat} {w w' : World} {v : Value} {es : List Evt} (h : WantAt B w v es) (hO : Only (fun _ => False) w w') : WantAt B w' v es := by
  rcases h with h | ⟨g, cap, h1, h2, h3, h4, h5⟩
  · exact .inl h
  · exact .inr ⟨g, cap, h1, h2, h3.later hO (by simp) h4, Nat.lt_of_lt_of_le h4 hO.size, h5⟩
theorem neq88 (e : Evt) (hq : (Lit.int .u8 e.q).wf = true) (hk : (Lit.int .u8 e.k).wf = true) (hs : e.s.size ≤ maxLen) (hj : (Lit.int .u8 e.j).wf = true) (ht : e.t.size ≤ maxLen) (w : World) :
    (binOp .neq 88 (.agg e.cells) (.agg e.cells)).run Yba.prog w = .ok (.bool false) w := by
  have hk' : ∃ l, keyOf Yba.prog 88 (.agg e.cells) = some l := keyOf88 hq hk hs hj ht
  have h := equal_keys 4 (by omega) (by kernel_rfl) (by rw [Yba.underlying88]) law88 hk' hk' w true (by simp)
  simp [binOp, h]
theorem run_bsl85e (w : World) (q k : Int) (s : ByteArray) (j : Int) (t : ByteArray) : (bsl85 1 #[(0, .agg (evA q k s j t))]).run Yba.prog w = .ok (.slice (some ⟨w.heap.size, 0, none⟩) 1 1) (w.alloc (.cells (evA q k s j t) 88)) := by rw [run_bsl85' w]
end Go.Proofs.Ybulkbpmg
