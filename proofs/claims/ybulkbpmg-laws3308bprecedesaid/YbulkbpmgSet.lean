/-
  YbulkbpmgSet: Node.setSuccessorsLocked where the first successor changes.
-/
import Derived.Test.YbulkbpmgNod
namespace Go.Proofs.Ybulkbpmg
open Go.RowKit Go.MuLone
set_option linter.unusedVariables false
set_option linter.unusedSimpArgs false
attribute [local go_sem] run_build88a run_build88b setCell_drewN alloc_drewN setCells_drewN setCells_drew setCells_alloc_at setCells_alloc_past there_new there_past idA_size prA_size idA_len prA_len run_load29 run_load31 run_store29 run_store31 run_build31 idLie_alloc prLie_alloc idLie_new prLie_new idLie_prnew idLie_drewN prLie_drewN idLie_drew prLie_drew idA0 idA1 prA0 prA1 prA20 idA_0 idA_1 prA_0 prA_1 prA_20 intAt strAt oInt_int oStr_string
attribute [local go_sem ↓] zero31 zero29 load29_in load31_in store29_in store31_in build31_in build88_in

theorem neq31 {k k' : Int} (h1 : (Lit.int .u8 k).wf = true) (h3 : (Lit.int .u8 k').wf = true) (b : Bool) (hb : b = !decide (k = k')) (w : World) :
    (binOp .neq 31 (.agg (prA k xS)) (.agg (prA k' xS))).run Yba.prog w = .ok (.bool b) w := by
  have h := eq31 (s := xS) (s' := xS) h1 (by decide) h3 (by decide) w
  simp at h
  simp [binOp, h, hb]

/-- The event 'successor changed'. -/
def evChg (p k : Int) : Evt := ⟨2, p, xS, k, xS⟩
theorem evChg_cells (p k : Int) : evA 2 p xS k xS = (evChg p k).cells := rfl

set_option maxRecDepth 100000 in
set_option maxHeartbeats 1000000 in
theorem setl_walk (N S T D C L E n c g m cap : Nat) (sf rr mu hr rl p k : Int) (es : List Evt) (lb : Option Nat) (tl : List (Value × Value)) (w : World) (hp : (Lit.int .u8 p).wf = true) (hk : (Lit.int .u8 k).wf = true) (h : Nod w N S T D C n c sf rr mu hr rl) (hT : TelS w T L E es lb tl)
    (hn : 0 < n) (hm : 0 < m) (rS : w.rangeAt S 0 (prA k xS).toList) (rg : w.rangeAt g 0 (prA p xS).toList) (hne : p ≠ k) (hes : es.length ≤ 9) (o2 : T ≠ N) (o3 : L ≠ N) (o4 : lb ≠ some N) (o5 : E ≠ N) :
    Calls Yba.prog 21 #[.pointer (some ⟨N, 0, none⟩), .slice (some ⟨g, 0, none⟩) m cap] w fun r w' => r = .returned (.tuple #[]) ∧
      ∃ g', Nod w' N g T D C m cap sf rr mu hr rl ∧ TelS w' T L E (es ++ [evChg p k]) (some g') tl ∧ (some g' = lb ∨ w.heap.size ≤ g') ∧ Only (fun q => q = N ∨ q = T ∨ q = L ∨ some q = lb) w w' := by
  have hq := fun v => neq31 hp hk true (by simp [hne]) v
  obtain ⟨p1, a1, a2⟩ := pr_facts rS
  obtain ⟨p2, b1, b2⟩ := pr_facts rg
  have cs := h.succs
  have ce := h.ev
  have bN := h.lt
  have bS : S < w.heap.size := World.block_lt_of_cell? _ _ a1
  have bg : g < w.heap.size := World.block_lt_of_cell? _ _ b1
  have n0 : (0 : Int) < (n : Int) := by omega
  have m0 : (0 : Int) < (m : Int) := by omega
  have H := hideP h
  have HT := hideP hT
  have M : Hid (∀ w', Only (fun _ => False) w w' → Calls Yba.prog 29 #[.pointer (some ⟨T, 0, none⟩), .agg (evA 2 p xS k xS)] w' fun r w'' => r = .returned (.tuple #[]) ∧
      ∃ g', TelS w'' T L E (es ++ [evChg p k]) (some g') tl ∧ (some g' = lb ∨ w'.heap.size ≤ g') ∧ Only (fun q => q = T ∨ q = L ∨ some q = lb) w' w'') := fun w' hw' => add_full T L E (evChg p k) es lb tl w' (hT.only hw' (by simp) (by simp) (by simp) (by simp)) (by omega) (show (2 : Int) ≠ 5 by decide)
  clear h hT rS rg hes
  go_enter Yba.func21, Yba.ntmps21
  go_upto_if 13 with (go_quiet (fail))
  go_cut [] from 4 (fun wd => ∃ g', TelS wd T L E (es ++ [evChg p k]) (some g') tl ∧ (some g' = lb ∨ w.heap.size ≤ g') ∧ Only (fun q => q = T ∨ q = L ∨ some q = lb) w wd)
  case first =>
    go_wp2_with fail
    go_region_with (go_at_call 29; refine (M.out _ ((Only.refl _ _).drewN _).drew).mono ?_; rintro e7 w7 ⟨rfl, g', t7, q7, o7⟩)
    all_goals (
      have T7 := hideP t7
      have Q7 := hideP q7
      have O7 := hideP o7
      clear t7 q7 o7
      go_wp2_with fail
      go_meet
      case rel => exact ⟨g', T7.out, Q7.out, ((Only.refl _ w).drewN _).drew.trans O7.out⟩)
  case rest =>
    obtain ⟨g', t, q, o⟩ := hcut
    have nN : ¬ (N = T ∨ N = L ∨ some N = lb) := fun h => by
      rcases h with h | h | h
      · exact o2 h.symm
      · exact o3 h.symm
      · exact o4 h.symm
    have n1 := H.out.only o nN
    have c1 := n1.succs
    have f1 := n1.fz 30
    have T1 := hideP t
    have Q1 := hideP q
    have O1 := hideP o
    have N1 := hideP n1
    clear t q o n1
    go_wp2_with fail
    go_end0
    have oS : Only (fun q => q = N) wc (wc.setCell ⟨N, 30, none⟩ (.slice (some ⟨g, 0, none⟩) m cap)) := Only.setCell (p := fun q => q = N) (Only.refl _ _) (q := ⟨N, 30, none⟩) rfl _
    refine ⟨rfl, g', N1.out.setSuccs g m cap, T1.out.only oS o2 o3 o5 ?_, Q1.out, (O1.out.weaken (fun q _ h => .inr h)).trans (oS.weaken (fun q _ h => .inl h))⟩
    intro x hx e
    cases hx
    rcases Q1.out with h | h
    · exact o4 (by rw [← h, e])
    · omega
end Go.Proofs.Ybulkbpmg
