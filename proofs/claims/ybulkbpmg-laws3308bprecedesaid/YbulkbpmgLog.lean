/-
  YbulkbpmgLog: the law's first closure: log = append(log, e).
-/
import Derived.Test.YbulkbpmgEv
namespace Go.Proofs.Ybulkbpmg
open Go.RowKit Go.MuLone
set_option linter.unusedVariables false
set_option linter.unusedSimpArgs false
attribute [local go_sem] setCell_drewN alloc_drewN setCells_drewN setCells_drew setCells_alloc_at setCells_alloc_past there_new there_past Evt.size Evt.len run_load88 run_store88 run_bsl85 evtLie_new evtAt_new
attribute [local go_sem ↓] zero88 load88_in store88_in bsl85_in

/-- 'append' onto nil of one element: a row of its own. -/
theorem wpList_append_first {w : World} {ops : Array Oper} {rest : List Oper} {o : Oper} {a : Act} {Q : Exit → Act → World → Prop}
    (hg : o.guard = none) (s x : Operand) (hop : o.op = Op.call { callee := Callee.builtin Builtin.append, args := #[s, x], argTypes := #[85, 85] })
    (hs : a.eval s = .slice none 0 0) (ib : Nat) (e : Evt) (hx : a.eval x = .slice (some ⟨ib, 0, none⟩) 1 1) (hc : w.rangeAt ib 0 e.cells.toList)
    (hK : ∀ g cap w', Row w' g 0 1 cap 43 (evs [e]) → w.heap.size ≤ g → g < w'.heap.size → Below w.heap.size w w' → wpList Yba.prog ops Q rest (a.put o.dst (.slice (some ⟨g, 0, none⟩) 1 cap)) w') :
    wpList Yba.prog ops Q (o :: rest) a w := by
  obtain ⟨i, hi, hi'⟩ := Option.map_eq_some_iff.1 info88
  simp only [Prod.mk.injEq] at hi'
  have hown : w.ownsRow w.heap.size 88 43 (.slice none 0 0) 0 [] := ⟨rfl, .inl ⟨rfl, rfl⟩⟩
  have hev : evs [e] = e.cells.toList := by simp [evs]
  refine wpList_append_own _ hg s x 85 hop w.heap.size 88 i _ 43 88 Yba.underlying85 hi hi'.1 hi'.2.1 hi'.2.2 (evA_size ..) (by decide) _ 0 [] hs hown ⟨ib, 0, none⟩ 1 1 e.cells.toList hx (by rw [Evt.len]) (fun j u h => by rw [Addr.add_lit]; exact hc j u h) (fun u h => evs_one [e] u (by rw [hev]; exact h)) (by decide) (by decide) (Nat.le_refl _) ?_
  intro v' w' hown' hgr hv
  simp only [Nat.zero_add, List.nil_append] at hown'
  obtain ⟨g, cap, rfl, hb, hlt, hrow⟩ := row_owns hown' (by decide) (fun u h => evs_one [e] u (by rw [hev]; exact h))
  exact hK g cap w' (by rw [hev]; exact hrow) hb hlt ⟨hgr.os, hgr.tape, hgr.output, hgr.size, fun k hk => hgr.block k hk (by rw [show (Value.ownBlock (.slice none 0 0)) = none from rfl]; simp)⟩

/-- What the variable 'log' (block L) holds; 'lb' is the row's block. -/
def LogAt (w : World) (L : Nat) (es : List Evt) : Option Nat → Prop
  | none => w.cell? ⟨L, 0, none⟩ = some (.slice none 0 0) ∧ es = []
  | some g => ∃ cap, w.cell? ⟨L, 0, none⟩ = some (.slice (some ⟨g, 0, none⟩) es.length cap) ∧ Row w g 0 es.length cap 43 (evs es) ∧ g ≠ L ∧ g < w.heap.size

set_option maxRecDepth 100000 in
set_option maxHeartbeats 1000000 in
theorem log_first (L : Nat) (e : Evt) (w : World) (h : LogAt w L [] none) (hf : w.frozen? ⟨L, 0, none⟩ = false) :
    Calls Yba.prog 11 #[.agg e.cells, .pointer (some ⟨L, 0, none⟩)] w fun r w' => r = .returned (.tuple #[]) ∧ ∃ g, LogAt w' L [e] (some g) ∧ w.heap.size ≤ g ∧ Only (fun q => q = L) w w' := by
  obtain ⟨hc, _⟩ := h
  have hL : L < w.heap.size := World.block_lt_of_cell? _ _ hc
  have hrg : ((w.alloc (.cells e.cells 88)).alloc (.cells e.cells 88)).rangeAt (w.heap.size + 1) 0 e.cells.toList := range_new _ e.cells 88 _ (by simp)
  go_enter Yba.func11, Yba.ntmps11
  go_wp2_with (at_builtin; go_must (refine wpList_append_first rfl _ _ rfl rfl (w.heap.size + 1) e rfl hrg (fun g cap w5 hrow hge hlt bel => ?_); have c5 : w5.cell? ⟨L, 0, none⟩ = some (.slice none 0 0) := (bel.cell (by simp; omega)).trans ((Below.cell (B := w.heap.size) (by go_grown) hL).trans hc); have f5 : w5.frozen? ⟨L, 0, none⟩ = false := (bel.frozen (by simp; omega)).trans ((Below.frozen (B := w.heap.size) (by go_grown) hL).trans hf); have HR := hideP hrow; have HG := hideP hge; have HB := hideP bel; clear hrow hge bel))
  go_end0
  have hg : w.heap.size + 1 + 1 ≤ g := by have := HG.out; simpa using this
  have hne : g ≠ L := by omega
  have O5 : Only (fun _ => False) w w5 := (Only.alloc (Only.alloc (Only.refl _ _) _) _).trans (Only.of_below HB.out)
  refine ⟨rfl, g, ⟨cap, World.cell?_setCell_same _ _ _ c5, ?_, hne, by simpa [World.setCell] using hlt⟩, by omega, ?_⟩
  · exact HR.out.later (p := fun q => q = L) (Only.setCell (p := fun q => q = L) (Only.refl _ _) (q := ⟨L, 0, none⟩) rfl _) hne hlt
  · exact Only.setCell (p := fun q => q = L) (O5.weaken (by simp)) (q := ⟨L, 0, none⟩) rfl _

set_option maxRecDepth 100000 in
set_option maxHeartbeats 1000000 in
theorem log_more (L g : Nat) (es : List Evt) (e : Evt) (w : World) (h : LogAt w L es (some g)) (hf : w.frozen? ⟨L, 0, none⟩ = false) (hn : es.length ≤ 10) :
    Calls Yba.prog 11 #[.agg e.cells, .pointer (some ⟨L, 0, none⟩)] w fun r w' => r = .returned (.tuple #[]) ∧ ∃ g', LogAt w' L (es ++ [e]) (some g') ∧ (g' = g ∨ w.heap.size ≤ g') ∧ Only (fun q => q = L ∨ q = g) w w' := by
  obtain ⟨cap, hc, hrow, hne, hgl⟩ := h
  have hL : L < w.heap.size := World.block_lt_of_cell? _ _ hc
  obtain ⟨inf, hinf, hinf'⟩ := Option.map_eq_some_iff.1 info88
  simp only [Prod.mk.injEq] at hinf'
  obtain ⟨hz, hsz, hbb⟩ := hinf'
  have o2 : Only (fun _ => False) w ((w.alloc (.cells e.cells 88)).alloc (.cells e.cells 88)) := Only.alloc (Only.alloc (Only.refl _ _) _) _
  have hr4 : Row ((w.alloc (.cells e.cells 88)).alloc (.cells e.cells 88)) g 0 es.length cap 43 (evs es) := hrow.later o2 (by simp) hgl
  have hlt4 : g < ((w.alloc (.cells e.cells 88)).alloc (.cells e.cells 88)).heap.size := by simp; omega
  have hc4 : ((w.alloc (.cells e.cells 88)).alloc (.cells e.cells 88)).rangeAt (w.heap.size + 1) 0 e.cells.toList := range_new _ e.cells 88 _ (by simp)
  have hl4 : e.cells.toList.length = 1 * 43 := by rw [Evt.len]
  have h14 : ∀ u ∈ e.cells.toList, u.oneCell' = true := fun u hu => evs_one [e] u (by simpa [evs] using hu)
  have B1 : es.length + 1 ≤ maxLen := by unfold maxLen; omega
  have B2 : (es.length + 1) * 88 ≤ 140737488355328 := by omega
  have B3 : 0 < 43 := by decide
  have B4 : 0 < 1 := by decide
  have B5 : (Value.agg (evA 0 0 ⟨#[]⟩ 0 ⟨#[]⟩)).cells.size = 43 := evA_size ..
  have HN := hideP hne
  have O2 := hideP o2
  have c2 := o2.cell (by simp) hc
  have f2 := (o2.frozen ⟨L, 0, none⟩ hL).trans hf
  clear hrow o2
  generalize hlen : es.length = n at *
  go_enter Yba.func11, Yba.ntmps11
  go_wp2_with (at_builtin; go_must (refine wpList_append_row _ rfl _ _ 85 rfl 88 inf _ 43 88 Yba.underlying85 hinf hz hsz hbb B5 B3 g 0 n cap (evs es) rfl hr4 (w.heap.size + 1) 1 1 e.cells.toList rfl B4 hl4 hc4 h14 B1 B2 (fun g' o' cap' w5 hrow5 hcs hlt5 hO5 hq5 => ?_) hlt4; obtain rfl : o' = 0 := (hcs.elim (fun h => h.2.1) (fun h => h.2)); have c5 := hO5.cell (fun e => HN.out e.symm) c2; have f5 := (hO5.frozen ⟨L, 0, none⟩ (World.block_lt_of_cell? _ _ c2)).trans f2; have HR5 := hideP hrow5; have HC5 := hideP hcs; have HL5 := hideP hlt5; have HO5 := hideP hO5; clear hrow5 hcs hlt5 hO5 hq5))
  go_end0
  have hg' : g' = g ∨ w.heap.size + 1 + 1 ≤ g' := by
    rcases HC5.out with ⟨h, _⟩ | ⟨h, _⟩
    · exact .inl h
    · exact .inr (by simpa using h)
  have hne' : g' ≠ L := by
    rcases hg' with h | h
    · rw [h]; exact HN.out
    · omega
  refine ⟨rfl, g', ⟨cap', ?_, ?_, hne', by simpa [World.setCell] using HL5.out⟩, by omega, ?_⟩
  · simp only [List.length_append, hlen, List.length_singleton]
    exact World.cell?_setCell_same _ _ _ c5
  · simp only [List.length_append, hlen, List.length_singleton]
    rw [evs_snoc]
    exact HR5.out.later (p := fun q => q = L) (Only.setCell (p := fun q => q = L) (Only.refl _ _) (q := ⟨L, 0, none⟩) rfl _) hne' HL5.out
  · exact Only.setCell (p := fun q => q = L ∨ q = g) ((O2.out.weaken (by simp)).trans (HO5.out.weaken (fun q _ h => .inr h))) (q := ⟨L, 0, none⟩) (.inl rfl) _

theorem log_any (L : Nat) (es : List Evt) (lb : Option Nat) (e : Evt) (w : World) (h : LogAt w L es lb) (hf : w.frozen? ⟨L, 0, none⟩ = false) (hn : es.length ≤ 10) :
    Calls Yba.prog 11 #[.agg e.cells, .pointer (some ⟨L, 0, none⟩)] w fun r w' => r = .returned (.tuple #[]) ∧ ∃ g', LogAt w' L (es ++ [e]) (some g') ∧ (some g' = lb ∨ w.heap.size ≤ g') ∧ Only (fun q => q = L ∨ some q = lb) w w' := by
  cases lb with
  | none =>
    obtain ⟨hc, rfl⟩ := h
    exact (log_first L e w ⟨hc, rfl⟩ hf).mono fun r w' ⟨hr, g, h1, h2, h3⟩ => ⟨hr, g, h1, .inr h2, h3.weaken (fun q _ h => .inl h)⟩
  | some g =>
    exact (log_more L g es e w h hf hn).mono fun r w' ⟨hr, g', h1, h2, h3⟩ => ⟨hr, g', h1, h2.imp (fun h => by rw [h]) id, h3.weaken (fun q _ h => h.imp id (fun h => by rw [h]))⟩

theorem LogAt.only {p : Nat → Prop} {w w' : World} {L : Nat} {es : List Evt} {lb : Option Nat} (h : LogAt w L es lb) (hO : Only p w w') (hL : ¬ p L) (hlb : ∀ g, lb = some g → ¬ p g) : LogAt w' L es lb := by
  cases lb with
  | none => exact ⟨hO.cell hL h.1, h.2⟩
  | some g =>
    obtain ⟨cap, h1, h2, h3, h4⟩ := h
    exact ⟨cap, hO.cell hL h1, h2.later hO (hlb g rfl) h4, h3, Nat.lt_of_lt_of_le h4 hO.size⟩
end Go.Proofs.Ybulkbpmg
