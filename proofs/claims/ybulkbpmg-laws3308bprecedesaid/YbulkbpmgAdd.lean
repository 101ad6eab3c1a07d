/-
  YbulkbpmgAdd: teller.add with nothing waiting and nobody telling.
-/
import Derived.Test.YbulkbpmgTell
import Derived.Deep.RegionLaw
namespace Go.Proofs.Ybulkbpmg
open Go.RowKit Go.MuLone
set_option linter.unusedVariables false
set_option linter.unusedSimpArgs false
attribute [local go_sem] evtLie_drewN evtLie_drew evtAt_drewN evtAt_drew evtLie_setCell evtAt_setCell evtLie_alloc setCell_drewN alloc_drewN setCells_drewN setCells_drew setCells_alloc_at setCells_alloc_past there_new there_past Evt.size Evt.len run_load88 run_store88 run_bsl85 evtLie_new evtAt_new
attribute [local go_sem ↓] zero88 load88_in store88_in bsl85_in

theorem evt0 (e : Evt) : e.cells[0]? = some (.int .u8 e.q) := by simp [Evt.cells, evA, prA]
theorem evt_0 (e : Evt) (h : 0 < e.cells.size) : e.cells[0] = .int .u8 e.q := by simp [Evt.cells, evA, prA]
attribute [local go_sem] evt0 evt_0

/-- 'append' onto nil of one element, at a step of a region that draws. -/
theorem step_append_first {w : World} {ops : Array Oper} {o : Oper} {a : Act} {K : Act → World → Prop} {Q : Exit → Act → World → Prop} {E : Prop}
    (hg : o.guard = none) (s x : Operand) (hop : o.op = Op.call { callee := Callee.builtin Builtin.append, args := #[s, x], argTypes := #[85, 85] })
    (hs : a.eval s = .slice none 0 0) (ib : Nat) (e : Evt) (hx : a.eval x = .slice (some ⟨ib, 0, none⟩) 1 1) (hc : w.rangeAt ib 0 e.cells.toList)
    (hK : ∀ g cap w', Row w' g 0 1 cap 43 (evs [e]) → w.heap.size ≤ g → g < w'.heap.size → Below w.heap.size w w' → K (a.put o.dst (.slice (some ⟨g, 0, none⟩) 1 cap)) w') :
    if Region.wanted o (yielded ops a.tmps) = true then Oper.wp Yba.prog o a w K Q else E := by
  have hw : Region.wanted o (yielded ops a.tmps) = true := by simp [Region.wanted, hg]
  rw [if_pos hw]
  obtain ⟨i, hi, hi'⟩ := Option.map_eq_some_iff.1 info88
  simp only [Prod.mk.injEq] at hi'
  have hown : w.ownsRow w.heap.size 88 43 (.slice none 0 0) 0 [] := ⟨rfl, .inl ⟨rfl, rfl⟩⟩
  have hev : evs [e] = e.cells.toList := by simp [evs]
  refine wp_append_own _ s x 85 hop w.heap.size 88 i _ 43 88 Yba.underlying85 hi hi'.1 hi'.2.1 hi'.2.2 (evA_size ..) (by decide) _ 0 [] hs hown ⟨ib, 0, none⟩ 1 1 e.cells.toList hx (by rw [Evt.len]) (fun j u h => by rw [Addr.add_lit]; exact hc j u h) (fun u h => evs_one [e] u (by rw [hev]; exact h)) (by decide) (by decide) (Nat.le_refl _) ?_
  intro v' w' hown' hgr hv
  simp only [Nat.zero_add, List.nil_append] at hown'
  obtain ⟨g, cap, rfl, hb, hlt, hrow⟩ := row_owns hown' (by decide) (fun u h => evs_one [e] u (by rw [hev]; exact h))
  exact hK g cap w' (by rw [hev]; exact hrow) hb hlt ⟨hgr.os, hgr.tape, hgr.output, hgr.size, fun k hk => hgr.block k hk (by rw [show (Value.ownBlock (.slice none 0 0)) = none from rfl]; simp)⟩

/-- The teller's start: it calls what it is given. -/
theorem start_walk (T L E g cap : Nat) (e : Evt) (es : List Evt) (lb : Option Nat) (v5 : Value) (w : World) (h : Tel w T L E) (h4 : w.cell? ⟨T, 4, none⟩ = some (.slice (some ⟨g, 0, none⟩) 1 cap)) (hg : w.rangeAt g 0 e.cells.toList) (h5 : w.cell? ⟨T, 5, none⟩ = some v5) (hlog : LogAt w L es lb) (hTL : T ≠ L) (hlb : lb ≠ some T) (hes : es.length ≤ 10) (hgT : T ≠ g) :
    Calls Yba.prog 12 #[.func (.func 43) #[.pointer (some ⟨T, 0, none⟩)] #[]] w fun r w' => r = .returned (.tuple #[]) ∧ Tel w' T L E ∧ w'.cell? ⟨T, 4, none⟩ = some (.slice none 0 0) ∧ w'.cell? ⟨T, 5, none⟩ = some (.bool false) ∧
      ∃ g', LogAt w' L (es ++ [e]) (some g') ∧ (some g' = lb ∨ w.heap.size ≤ g') ∧ Only (fun q => q = T ∨ q = L ∨ some q = lb) w w' := by
  go_enter Yba.func12, Yba.ntmps12
  go_wp2_with (go_at_call 43; refine (tell_one T L E g cap e es lb v5 w h h4 hg h5 hlog hTL hlb hes hgT).mono ?_; rintro r w' ⟨rfl, hp⟩)
  go_end0
  exact ⟨rfl, hp⟩

set_option maxRecDepth 100000 in
set_option maxHeartbeats 1000000 in
theorem add_walk (T L E : Nat) (e : Evt) (es : List Evt) (lb : Option Nat) (w : World) (h : Tel w T L E) (h4 : w.cell? ⟨T, 4, none⟩ = some (.slice none 0 0)) (h5 : w.cell? ⟨T, 5, none⟩ = some (.bool false)) (hlog : LogAt w L es lb) (hTL : T ≠ L) (hlb : lb ≠ some T) (hes : es.length ≤ 10) (hq : e.q ≠ 5) :
    Calls Yba.prog 29 #[.pointer (some ⟨T, 0, none⟩), .agg e.cells] w fun r w' => r = .returned (.tuple #[]) ∧ Tel w' T L E ∧ w'.cell? ⟨T, 4, none⟩ = some (.slice none 0 0) ∧ w'.cell? ⟨T, 5, none⟩ = some (.bool false) ∧
      ∃ g', LogAt w' L (es ++ [e]) (some g') ∧ (some g' = lb ∨ w.heap.size ≤ g') ∧ Only (fun q => q = T ∨ q = L ∨ some q = lb) w w' := by
  have c2 := h.c2
  have c6 := h.c6
  have f2 := h.fz 2
  have f6 := h.fz 6
  have bT : T < w.heap.size := World.block_lt_of_cell? _ _ c2
  have o1 : Only (fun _ => False) w (w.alloc (.cells e.cells 88)) := Only.alloc (Only.refl _ _) _
  have c2' := o1.cell (by simp) c2
  have f2' := (o1.frozen ⟨T, 2, none⟩ bT).trans f2
  have hq' : (e.q == 5) = false := by simpa using hq
  have HT := hideP h
  have HLOG := hideP hlog
  have O1 := hideP o1
  clear h hlog o1
  go_enter Yba.func29, Yba.ntmps29
  go_wp2_with (go_at_call 17; refine (lock_free Yba.muLib ⟨T, 2, none⟩ _ c2' f2').mono ?_; rintro e w' ⟨rfl, rfl⟩)
  have oW : Only (fun q => q = T) w (((w.setCell ⟨T, 2, none⟩ (.int .i32 1)).setCell ⟨T, 6, none⟩ (.bool false)).alloc (.cells e.cells 88)) := Only.alloc (Only.setCell (p := fun q => q = T) (Only.setCell (p := fun q => q = T) (Only.refl _ _) (q := ⟨T, 2, none⟩) rfl _) (q := ⟨T, 6, none⟩) rfl _) _
  have d0 : (((w.setCell ⟨T, 2, none⟩ (.int .i32 1)).setCell ⟨T, 6, none⟩ (.bool false)).alloc (.cells e.cells 88)).cell? ⟨T, 0, none⟩ = some (.func (.func 11) #[] #[.pointer (some ⟨L, 0, none⟩)]) := by have := HT.out.c0; go_simp
  have d1 : (((w.setCell ⟨T, 2, none⟩ (.int .i32 1)).setCell ⟨T, 6, none⟩ (.bool false)).alloc (.cells e.cells 88)).cell? ⟨T, 1, none⟩ = some (.func (.func 12) #[] #[]) := by have := HT.out.c1; go_simp
  have d2 : (((w.setCell ⟨T, 2, none⟩ (.int .i32 1)).setCell ⟨T, 6, none⟩ (.bool false)).alloc (.cells e.cells 88)).cell? ⟨T, 2, none⟩ = some (.int .i32 1) := by go_simp
  have d4 : (((w.setCell ⟨T, 2, none⟩ (.int .i32 1)).setCell ⟨T, 6, none⟩ (.bool false)).alloc (.cells e.cells 88)).cell? ⟨T, 4, none⟩ = some (.slice none 0 0) := by go_simp
  have d5 : (((w.setCell ⟨T, 2, none⟩ (.int .i32 1)).setCell ⟨T, 6, none⟩ (.bool false)).alloc (.cells e.cells 88)).cell? ⟨T, 5, none⟩ = some (.bool false) := by go_simp
  have d6 : (((w.setCell ⟨T, 2, none⟩ (.int .i32 1)).setCell ⟨T, 6, none⟩ (.bool false)).alloc (.cells e.cells 88)).cell? ⟨T, 6, none⟩ = some (.bool false) := by go_simp
  have d7 : (((w.setCell ⟨T, 2, none⟩ (.int .i32 1)).setCell ⟨T, 6, none⟩ (.bool false)).alloc (.cells e.cells 88)).cell? ⟨T, 7, none⟩ = some (.map (some E)) := by have := HT.out.c7; go_simp
  have el : EvtLie (((w.setCell ⟨T, 2, none⟩ (.int .i32 1)).setCell ⟨T, 6, none⟩ (.bool false)).alloc (.cells e.cells 88)) w.heap.size 0 := by go_simp
  have ea : evtAt (((w.setCell ⟨T, 2, none⟩ (.int .i32 1)).setCell ⟨T, 6, none⟩ (.bool false)).alloc (.cells e.cells 88)) w.heap.size 0 = e := by go_simp
  have sz : (((w.setCell ⟨T, 2, none⟩ (.int .i32 1)).setCell ⟨T, 6, none⟩ (.bool false)).alloc (.cells e.cells 88)).heap.size = w.heap.size + 1 := by go_simp
  have OW := hideP oW
  clear oW
  generalize (((w.setCell ⟨T, 2, none⟩ (.int .i32 1)).setCell ⟨T, 6, none⟩ (.bool false)).alloc (.cells e.cells 88)) = W1 at *
  have bW : w.heap.size < W1.heap.size := by omega
  have bT1 : T < W1.heap.size := by omega
  have FZ := hideP (fun k => (OW.out.frozen ⟨T, k, none⟩ bT).trans (HT.out.fz k))
  have SZ := hideP sz
  have D0 := hideP d0
  have D7 := hideP d7
  have D6 := hideP d6
  clear sz d0 d7 d6 c2 c6 f2 f6 c2' f2' h4 h5
  have rg : (W1.alloc (.cells e.cells 88)).drew.rangeAt W1.heap.size 0 e.cells.toList := range_new W1 e.cells 88 _ rfl
  have bT2 : T < (W1.alloc (.cells e.cells 88)).drew.heap.size := by show T < (W1.alloc (.cells e.cells 88)).heap.size; rw [World.size_alloc]; omega
  have e1 : (W1.alloc (.cells e.cells 88)).drew.cell? ⟨T, 1, none⟩ = _ := (World.cell?_alloc_past _ _ _ bT1).trans d1
  have e2 : (W1.alloc (.cells e.cells 88)).drew.cell? ⟨T, 2, none⟩ = _ := (World.cell?_alloc_past _ _ _ bT1).trans d2
  have e4 : (W1.alloc (.cells e.cells 88)).drew.cell? ⟨T, 4, none⟩ = _ := (World.cell?_alloc_past _ _ _ bT1).trans d4
  have e5 : (W1.alloc (.cells e.cells 88)).drew.cell? ⟨T, 5, none⟩ = _ := (World.cell?_alloc_past _ _ _ bT1).trans d5
  have fe : ∀ k, (W1.alloc (.cells e.cells 88)).drew.frozen? ⟨T, k, none⟩ = false := fun k => (World.frozen?_alloc_past _ _ _ bT1).trans (FZ.out k)
  have E1 := hideP e1
  have E2 := hideP e2
  have E4 := hideP e4
  have E5 := hideP e5
  have FE := hideP fe
  clear e1 e2 e4 e5 fe
  go_region_law (refine step_append_first rfl (.tmp 29) (.tmp 31) rfl rfl W1.heap.size e rfl rg (fun g cap w5 hrow hge hlt bel => ?_); have c1 := cell_later bel E1.out; have c2 := cell_later bel E2.out; have c4 := cell_later bel E4.out; have c5 := cell_later bel E5.out; have f2 := (bel.frozen bT2).trans (FE.out 2); have f4 := (bel.frozen bT2).trans (FE.out 4); have f5 := (bel.frozen bT2).trans (FE.out 5); have HR := hideP hrow; have HG := hideP hge; have HB := hideP bel; clear hrow hge bel)
  all_goals (
    clear d1 d2 d4 d5 el ea rg
    have bT5 : T < w5.heap.size := World.block_lt_of_cell? _ _ c2
    go_wp2_with fail
    refine (unlock_held Yba.muLib ⟨T, 2, none⟩ _ (by go_simp) (by go_simp)).mono ?_
    rintro e6 w6 ⟨rfl, hw6⟩
    have HW6 := hideP hw6
    have o6 : Only (fun q => q = T) w5 w6 := by
      rw [hw6]
      exact Only.setCell (p := fun q => q = T) (Only.setCell (p := fun q => q = T) (Only.setCell (p := fun q => q = T) (Only.refl _ _) (q := ⟨T, 4, none⟩) rfl _) (q := ⟨T, 5, none⟩) rfl _) (q := ⟨T, 2, none⟩) rfl _
    have x1 : w6.cell? ⟨T, 1, none⟩ = some (.func (.func 12) #[] #[]) := by rw [hw6]; go_simp
    have x4 : w6.cell? ⟨T, 4, none⟩ = some (.slice (some ⟨g, 0, none⟩) 1 cap) := by rw [hw6]; go_simp
    have x2 : w6.cell? ⟨T, 2, none⟩ = some (.int .i32 0) := by rw [hw6]; go_simp
    have x5 : w6.cell? ⟨T, 5, none⟩ = some (.bool true) := by rw [hw6]; go_simp
    have y0 := cell_later HB.out (show (W1.alloc (.cells e.cells 88)).drew.cell? ⟨T, 0, none⟩ = _ from (World.cell?_alloc_past _ _ _ bT1).trans D0.out)
    have y6 := cell_later HB.out (show (W1.alloc (.cells e.cells 88)).drew.cell? ⟨T, 6, none⟩ = _ from (World.cell?_alloc_past _ _ _ bT1).trans D6.out)
    have y7 := cell_later HB.out (show (W1.alloc (.cells e.cells 88)).drew.cell? ⟨T, 7, none⟩ = _ from (World.cell?_alloc_past _ _ _ bT1).trans D7.out)
    have x0 : w6.cell? ⟨T, 0, none⟩ = some (.func (.func 11) #[] #[.pointer (some ⟨L, 0, none⟩)]) := by rw [hw6]; go_simp
    have x6 : w6.cell? ⟨T, 6, none⟩ = some (.bool false) := by rw [hw6]; go_simp
    have x7 : w6.cell? ⟨T, 7, none⟩ = some (.map (some E)) := by rw [hw6]; go_simp
    have hL : L < w.heap.size := by
      have h6 := HLOG.out
      cases lb with
      | none => exact World.block_lt_of_cell? _ _ h6.1
      | some q => obtain ⟨_, h1, _⟩ := h6; exact World.block_lt_of_cell? _ _ h1
    have oo : Only (fun q => q = T) w w6 := (OW.out.trans (((Only.refl _ W1).alloc _).drew.trans (Only.of_below HB.out))).trans o6
    have tel6 : Tel w6 T L E := ⟨x0, x1, x2, x6, x7, fun k => (oo.frozen ⟨T, k, none⟩ bT).trans (HT.out.fz k), (oo.frozen ⟨L, 0, none⟩ hL).trans HT.out.fl⟩
    have log6 : LogAt w6 L es lb := HLOG.out.only oo (fun h => hTL h.symm) (fun q hq h => hlb (by rw [hq, h]))
    have hge := HG.out
    have gT : T ≠ g := fun h => by
      have : (W1.alloc (.cells e.cells 88)).drew.heap.size = W1.heap.size + 1 := World.size_alloc _ _
      omega
    have rg6 : w6.rangeAt g 0 e.cells.toList := o6.range (fun h => gT h.symm) (by have := HR.out.at'; rwa [show evs [e] = e.cells.toList by simp [evs]] at this)
    have T6 := hideP tel6
    have L6 := hideP log6
    have R6 := hideP rg6
    have OO := hideP oo
    clear tel6 log6 rg6 oo o6 hw6 HW6 x0 x2 x6 x7 y0 y6 y7 c1 c2 c4 c5 f2 f4 f5
    have bT6 : T < w6.heap.size := World.block_lt_of_cell? _ _ x1
    go_wp2_with (go_at_call 12; refine (start_walk T L E g cap e es lb _ w6 T6.out x4 R6.out x5 L6.out hTL hlb hes gT).mono ?_; rintro e7 w7 ⟨rfl, p1, p2, p3, g', p4, p5, p6⟩)
    go_end0
    exact ⟨rfl, p1, p2, p3, g', p4, p5.imp id (fun h => Nat.le_trans OO.out.size h), (OO.out.weaken (fun q _ h => .inl h)).trans p6⟩)
end Go.Proofs.Ybulkbpmg
