/-
  YbulkbpmgHear: the teller's whole state; teller.heardFrom.
-/
import Derived.Test.YbulkbpmgAdd
namespace Go.Proofs.Ybulkbpmg
open Go.RowKit Go.MuLone
set_option linter.unusedVariables false
set_option linter.unusedSimpArgs false
attribute [local go_sem] run_build88a run_build88b setCell_drewN alloc_drewN setCells_drewN setCells_drew setCells_alloc_at setCells_alloc_past there_new there_past idA_size prA_size idA_len prA_len run_load29 run_load31 run_store29 run_store31 run_build31 idLie_alloc prLie_alloc idLie_new prLie_new idLie_prnew idLie_drewN prLie_drewN idLie_drew prLie_drew idA0 idA1 prA0 prA1 prA20 idA_0 idA_1 prA_0 prA_1 prA_20 intAt strAt oInt_int oStr_string
attribute [local go_sem ↓] zero31 zero29 load29_in load31_in store29_in store31_in build31_in build88_in

theorem LogAt.lt {w : World} {L : Nat} {es : List Evt} {lb : Option Nat} (h : LogAt w L es lb) : L < w.heap.size := by
  cases lb with
  | none => exact World.block_lt_of_cell? _ _ h.1
  | some q => obtain ⟨_, h1, _⟩ := h; exact World.block_lt_of_cell? _ _ h1

/-- The teller with nothing waiting: what it has told ('es'), whom it holds dead ('tl'). -/
structure TelS (w : World) (T L E : Nat) (es : List Evt) (lb : Option Nat) (tl : List (Value × Value)) : Prop where
  tel : Tel w T L E
  c4 : w.cell? ⟨T, 4, none⟩ = some (.slice none 0 0)
  c5 : w.cell? ⟨T, 5, none⟩ = some (.bool false)
  log : LogAt w L es lb
  dead : MapAt w E tl
  tL : T ≠ L
  tE : T ≠ E
  lE : L ≠ E
  lbT : lb ≠ some T
  lbE : lb ≠ some E

theorem TelS.lt {w : World} {T L E : Nat} {es : List Evt} {lb : Option Nat} {tl : List (Value × Value)} (h : TelS w T L E es lb tl) : T < w.heap.size := World.block_lt_of_cell? _ _ h.c4
theorem TelS.only {p : Nat → Prop} {w w' : World} {T L E : Nat} {es : List Evt} {lb : Option Nat} {tl : List (Value × Value)} (h : TelS w T L E es lb tl) (hO : Only p w w') (hT : ¬ p T) (hL : ¬ p L) (hE : ¬ p E) (hlb : ∀ g, lb = some g → ¬ p g) : TelS w' T L E es lb tl :=
  ⟨h.tel.only hO hT hL h.log.lt, hO.cell hT h.c4, hO.cell hT h.c5, h.log.only hO hL hlb, h.dead.only hO hE, h.tL, h.tE, h.lE, h.lbT, h.lbE⟩

theorem add_full (T L E : Nat) (e : Evt) (es : List Evt) (lb : Option Nat) (tl : List (Value × Value)) (w : World) (h : TelS w T L E es lb tl) (hes : es.length ≤ 10) (hq : e.q ≠ 5) :
    Calls Yba.prog 29 #[.pointer (some ⟨T, 0, none⟩), .agg e.cells] w fun r w' => r = .returned (.tuple #[]) ∧
      ∃ g', TelS w' T L E (es ++ [e]) (some g') tl ∧ (some g' = lb ∨ w.heap.size ≤ g') ∧ Only (fun q => q = T ∨ q = L ∨ some q = lb) w w' := by
  refine (add_walk T L E e es lb w h.tel h.c4 h.c5 h.log h.tL h.lbT hes hq).mono ?_
  rintro r w' ⟨rfl, p1, p2, p3, g', p4, p5, p6⟩
  have hT := h.lt
  have hE := h.dead.lt
  refine ⟨rfl, g', ⟨p1, p2, p3, p4, h.dead.only p6 ?_, h.tL, h.tE, h.lE, ?_, ?_⟩, p5, p6⟩
  · rintro (e | e | e)
    · exact h.tE e.symm
    · exact h.lE e.symm
    · exact h.lbE e.symm
  · intro e
    rcases p5 with k | k
    · exact h.lbT (k ▸ e)
    · cases e; omega
  · intro e
    rcases p5 with k | k
    · exact h.lbE (k ▸ e)
    · cases e; omega

theorem told_only {b : Bool} {p : Int} {w w' : World} {T L E : Nat} {es : List Evt} {lb : Option Nat} {tl : List (Value × Value)} (h : TelS w T L E es lb tl) (hO : Only (fun q => q = E) w w') (hE : MapAt w' E []) : TelS w' T L E es lb [] :=
  ⟨h.tel.only hO h.tE h.lE h.log.lt, hO.cell h.tE h.c4, hO.cell h.tE h.c5, h.log.only hO h.lE (fun g hg e => h.lbE (by rw [hg, e])), hE, h.tL, h.tE, h.lE, h.lbT, h.lbE⟩

/-- The event 'taken back'. -/
def evBack (p : Int) : Evt := ⟨4, p, xS, 0, ⟨#[]⟩⟩
theorem evBack_cells (p : Int) : evA 4 p xS 0 ⟨#[]⟩ = (evBack p).cells := rfl

set_option maxRecDepth 100000 in
set_option maxHeartbeats 1000000 in
theorem heard_walk (T L E : Nat) (p : Int) (b : Bool) (w : World) (hp : (Lit.int .u8 p).wf = true) (h : TelS w T L E [] none (told b p)) :
    Calls Yba.prog 27 #[.pointer (some ⟨T, 0, none⟩), .agg (prA p xS)] w fun r w' => r = .returned (.tuple #[]) ∧
      ∃ lb', TelS w' T L E (if b then [evBack p] else []) lb' [] ∧ (∀ g, lb' = some g → w.heap.size ≤ g) ∧ Only (fun q => q = T ∨ q = L ∨ q = E) w w' := by
  have hT := h.lt
  have hE := h.dead.lt
  have h1 : TelS (w.alloc (.cells (prA p xS) 31)) T L E [] none (told b p) := h.only (p := fun _ => False) (Only.alloc (Only.refl _ _) _) (by simp) (by simp) (by simp) (by simp)
  have m1 := marked_walk T E p b (w.alloc (.cells (prA p xS) 31)) hp h1.tel.c2 (h1.tel.fz 2) h1.tel.c7 h1.dead h.tE
  have r1 := range_new w (prA p xS) 31 w.heap.size rfl
  have M1 := hideP m1
  have H1 := hideP h1
  have R1 := hideP r1
  clear m1 h1 r1 h
  go_enter Yba.func27, Yba.ntmps27
  go_wp2_with fail
  refine M1.out.mono ?_
  rintro e w2 ⟨rfl, hE2, hO2⟩
  have t2 := told_only (b := b) (p := p) H1.out hO2 hE2
  have r2 := hO2.range (b := w.heap.size) (by omega) R1.out
  obtain ⟨p2, e1, e2⟩ := pr_facts r2
  have T2 := hideP t2
  have OO2 := hideP (((Only.refl _ w).alloc _).trans hO2)
  have bw : w.heap.size < w2.heap.size := by have := hO2.size; simp at this; omega
  clear hE2 hO2 r2 t2 M1 H1 R1
  cases b
  · go_wp2
    go_end0
    exact ⟨rfl, none, T2.out, by simp, OO2.out.weaken (fun q _ h => .inr (.inr h))⟩
  · go_wp2_with fail
    rw [evBack_cells]
    refine (add_full T L E (evBack p) [] none [] w2 T2.out (by simp) (show (4 : Int) ≠ 5 by decide)).mono ?_
    rintro e w3 ⟨rfl, g', p1, p3, p4⟩
    have P1 := hideP p1
    have P3 := hideP p3
    have P4 := hideP p4
    clear p1 p3 p4
    go_wp2
    go_end0
    refine ⟨rfl, some g', P1.out, ?_, ?_⟩
    · intro g hg
      cases hg
      rcases P3.out with h | h
      · cases h
      · omega
    · refine (OO2.out.weaken (fun q _ h => .inr (.inr h))).trans (P4.out.weaken (fun q _ h => ?_))
      rcases h with h | h | h
      · exact .inl h
      · exact .inr (.inl h)
      · cases h
end Go.Proofs.Ybulkbpmg
