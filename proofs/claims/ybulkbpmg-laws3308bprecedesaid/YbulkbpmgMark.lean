/-
  YbulkbpmgMark: teller.marked(p, false); a lock taken and let go leaves no trace.
-/
import Derived.Test.YbulkbpmgMp
import Derived.Test.YbulkbpmgLocks
import Derived.Conc.MuLone
namespace Go.Proofs.Ybulkbpmg
open Go.RowKit Go.MuLone
set_option linter.unusedVariables false
set_option linter.unusedSimpArgs false
attribute [local go_sem] setCell_drewN alloc_drewN setCells_drewN setCells_drew setCells_alloc_at setCells_alloc_past there_new there_past idA_size prA_size idA_len prA_len run_load29 run_load31 run_store29 run_store31 run_build31 idLie_alloc prLie_alloc idLie_new prLie_new idLie_prnew idLie_drewN prLie_drewN idLie_drew prLie_drew idA0 idA1 prA0 prA1 prA20 idA_0 idA_1 prA_0 prA_1 prA_20 intAt strAt oInt_int oStr_string
attribute [local go_sem ↓] zero31 zero29 load29_in load31_in store29_in store31_in build31_in

theorem only_lock {p : Nat → Prop} {w w2 : World} {a : Addr} {v0 v1 : Value} (h : Only p (w.setCell a v1) w2) (hp : ¬ p a.block) (hc : w.cell? a = some v0) : Only p w (w2.setCell a v0) := by
  have hs : (w.setCell a v1).heap.size = w.heap.size := by simp [World.setCell]
  have hlt := World.block_lt_of_cell? _ _ hc
  refine ⟨h.os, h.tape, h.output, ?_, fun k hk hpk => ?_, fun x hx => ?_⟩
  · have := h.size
    simp [World.setCell] at this ⊢
    exact this
  · by_cases e : k = a.block
    · subst e
      have hb := h.block a.block (by omega) hp
      simp only [World.setCell, Array.getElem?_modify] at hb ⊢
      simp only [if_true] at hb ⊢
      rw [hb]
      unfold World.cell? at hc
      cases hw : w.heap[a.block]? with
      | none => simp [hw] at hc
      | some ob =>
        cases ob with
        | cells cs t f =>
          simp [hw] at hc ⊢
          obtain ⟨h1, h2⟩ := hc
          obtain ⟨hlt', h2⟩ := Array.getElem?_eq_some_iff.1 h2
          simp [h1]
          apply Array.ext_getElem?
          intro i
          by_cases e : i = a.off
          · subst e; simp [hlt', h2]
          · rw [Array.getElem?_setIfInBounds_ne (fun h => e h.symm)]
        | _ => simp [hw] at hc ⊢
    · rw [Below.heap_setCell _ _ _ _ e]
      exact (h.block k (by omega) hpk).trans (Below.heap_setCell _ _ _ _ e)
  · rw [World.frozen?_setCell, h.frozen x (by omega), World.frozen?_setCell]

def told (b : Bool) (p : Int) : List (Value × Value) := if b then [(.agg (idA p 0), .bool true)] else []

set_option maxRecDepth 100000 in
set_option maxHeartbeats 1000000 in
theorem marked_walk (T E : Nat) (p : Int) (b : Bool) (w : World) (hp : (Lit.int .u8 p).wf = true) (h2 : w.cell? ⟨T, 2, none⟩ = some (.int .i32 0)) (f2 : w.frozen? ⟨T, 2, none⟩ = false) (h7 : w.cell? ⟨T, 7, none⟩ = some (.map (some E))) (hE : MapAt w E (told b p)) (hTE : T ≠ E) :
    Calls Yba.prog 41 #[.pointer (some ⟨T, 0, none⟩), .agg (prA p xS), .bool false] w fun e w' => e = .returned (.bool b) ∧ MapAt w' E [] ∧ Only (fun q => q = E) w w' := by
  have hT : T < w.heap.size := World.block_lt_of_cell? _ _ h2
  have hEl := hE.lt
  have o1 : Only (fun _ => False) w (w.alloc (.cells (prA p xS) 31)) := Only.alloc (Only.refl _ _) _
  have h2' := o1.cell (by simp) h2
  have f2' := (o1.frozen ⟨T, 2, none⟩ hT).trans f2
  have O1 := hideP o1
  have HE := hideP hE
  clear hE o1
  go_enter_defers Yba.func41, Yba.ntmps41
  go_wp2_with (go_at_call 17; refine (lock_free Yba.muLib ⟨T, 2, none⟩ _ h2' f2').mono ?_; rintro e w' ⟨rfl, rfl⟩)
  have hW : ((w.alloc (.cells (prA p xS) 31)).setCell ⟨T, 2, none⟩ (.int .i32 1)).rangeAt w.heap.size 0 (prA p xS).toList := fun j v hv => by
    rw [World.cell?_setCell_other _ _ _ _ (by simp <;> omega)]
    exact range_new w (prA p xS) 31 _ rfl j v hv
  have h7' : ((w.alloc (.cells (prA p xS) 31)).setCell ⟨T, 2, none⟩ (.int .i32 1)).cell? ⟨T, 7, none⟩ = some (.map (some E)) := by
    rw [World.cell?_setCell_other _ _ _ _ (by simp)]
    exact O1.out.cell (by simp) h7
  have hE' : MapAt ((w.alloc (.cells (prA p xS) 31)).setCell ⟨T, 2, none⟩ (.int .i32 1)) E (told b p) :=
    HE.out.only (p := fun q => q = T) (Only.setCell (p := fun q => q = T) (Only.alloc (Only.refl _ _) _) (q := ⟨T, 2, none⟩) rfl _) (fun e => hTE e.symm)
  have h2'' : ((w.alloc (.cells (prA p xS) 31)).setCell ⟨T, 2, none⟩ (.int .i32 1)).cell? ⟨T, 2, none⟩ = some (.int .i32 1) := World.cell?_setCell_same _ _ _ h2'
  have f2'' : ((w.alloc (.cells (prA p xS) 31)).setCell ⟨T, 2, none⟩ (.int .i32 1)).frozen? ⟨T, 2, none⟩ = false := by rw [World.frozen?_setCell]; exact f2'
  have hsz : ((w.alloc (.cells (prA p xS) 31)).setCell ⟨T, 2, none⟩ (.int .i32 1)).heap.size = w.heap.size + 1 := by simp [World.setCell]
  have fin : ∀ w2, Only (fun q => q = E) ((w.alloc (.cells (prA p xS) 31)).setCell ⟨T, 2, none⟩ (.int .i32 1)) w2 → Only (fun q => q = E) w (w2.setCell ⟨T, 2, none⟩ (.int .i32 0)) := fun w2 h =>
    ((Only.alloc (Only.refl _ _) _).trans (only_lock h (by simpa using hTE) h2'))
  have FIN := hideP fin
  clear fin
  rw [World.setCell_alloc_past _ _ _ _ (show (⟨T, 2, none⟩ : Addr).block < w.heap.size from hT)] at hW h7' hE' h2'' f2'' hsz FIN
  generalize ((w.setCell ⟨T, 2, none⟩ (.int .i32 1)).alloc (.cells (prA p xS) 31)) = W1 at hW h7' hE' h2'' f2'' hsz FIN ⊢
  obtain ⟨i1, e1, e2⟩ := id_facts (pr_id hW)
  have key := keyOf29 hp wf0
  have hlook : ∀ m, (Instr.lookup 91 (.map (some E)) (.agg (idA p 0)) false).run Yba.prog (W1.drewN m) = .ok (.bool b) (W1.drewN m) := fun m => by
    have hE2 : MapAt (W1.drewN m) E (told b p) := hE'
    cases b with
    | true => exact look_some Yba.underlying91 key hE2 (v := .bool true) (by simp [told]) (by simp [told]) false
    | false => exact look_none Yba.underlying91 key hE2 (by simp [told]) (Yba.zeroValue4 _) false
  obtain ⟨w3, hdel, hE3, hO3⟩ : ∃ w', (∀ m, (Builtin.delete_ #[91, 29] 0 #[.map (some E), .agg (idA p 0)]).run Yba.prog (W1.drewN m) = .ok (.tuple #[]) (w'.drewN m)) ∧ MapAt w' E [] ∧ Only (fun q => q = E) W1 w' := by
    cases b with
    | true => exact del_last (es := []) Yba.underlying91 key hE' (by simp) 0
    | false => exact del_none Yba.underlying91 key hE' (by simp [told]) 0
  have HLOOK := hideP hlook
  have HE3 := hideP hE3
  have HO3 := hideP hO3
  clear hE' hE3 hO3
  go_quiet (fail)
  clear hlook
  go_wp2
  go_region
  have u2 : w3.cell? ⟨T, 2, none⟩ = some (.int .i32 1) := HO3.out.cell (by simpa using hTE) h2''
  have g2 : w3.frozen? ⟨T, 2, none⟩ = false := (HO3.out.frozen ⟨T, 2, none⟩ (World.block_lt_of_cell? _ _ h2'')).trans f2''
  clear hdel
  go_wp2
  refine leaves_cons (f := 18) (args := #[.pointer (some ⟨T, 2, none⟩)]) (by simp) (by simp [go_sem]) ?_
  refine (unlock_deferred Yba.muLib ⟨T, 2, none⟩ .returning (w3.drewN (nq + 1)) u2 g2).mono ?_
  rintro e u' w'' ⟨rfl, rfl, rfl⟩
  refine ⟨_, results_tmp rfl _ _ _, rfl, ?_, ?_⟩
  · exact MapAt.only (p := fun q => q = T) (show MapAt (w3.drewN _) E [] from HE3.out) (Only.setCell (p := fun q => q = T) (Only.refl _ _) (q := ⟨T, 2, none⟩) rfl _) (fun e => hTE e.symm)
  · exact FIN.out _ (HO3.out.drewN _)
end Go.Proofs.Ybulkbpmg
