/-
  YbulkbpmgPeer: zzs3308bpeer, zzs3308bopen, ID.Compare, ID.Between, ID.strictlyBetween.
-/
import Derived.Test.YbulkbpmgPld
namespace Go.Proofs.Ybulkbpmg
open Go.RowKit
set_option linter.unusedVariables false
set_option linter.unusedSimpArgs false
attribute [local go_sem] setCell_drewN alloc_drewN setCells_drewN setCells_drew setCells_alloc_at setCells_alloc_past there_new there_past idA_size prA_size idA_len prA_len run_load29 run_load31 run_store29 run_store31 run_build31 idLie_alloc prLie_alloc idLie_new prLie_new idLie_prnew idLie_drewN prLie_drewN idLie_drew prLie_drew idA0 idA1 prA0 prA1 prA20 idA_0 idA_1 prA_0 prA_1 prA_20 intAt strAt oInt_int oStr_string
attribute [local go_sem ↓] zero31 zero29 load29_in load31_in store29_in store31_in build31_in

theorem idA_set0 (k m v : Int) : (idA k m).setIfInBounds 0 (.int .u8 v) = idA v m := by simp [idA]
attribute [local go_sem] idA_set0

theorem results_cell1 {fn : Func} {p : Tmp} {ty : TypeId} (h : fn.results = #[.cell p ty]) (tmps : Array Value) (P : Program) (w : World) (b o : Nat) (ha : tmps[p]?.getD undef = .pointer (some ⟨b, o, none⟩)) (v : Value)
    (hv : (loadVar ty ⟨b, o, none⟩).run P w = .ok v w) : (results fn tmps).run P w = .ok v w := by
  simp only [results, h]
  simp [Sem.run_bind, ha, asAddr, hv]

set_option maxRecDepth 100000 in
theorem peer_walk (k : Int) (w : World) :
    Calls Yba.prog 10 #[.int .u8 k] w fun e w' => e = .returned (.agg (prA k xS)) ∧ w' = (w.alloc (.cells (prA k xS) 31)).alloc (.cells (idA k 0) 29) := by
  go_enter Yba.func10, Yba.ntmps10
  go_wp2
  exact bodyPost_ret (v := .agg (prA k xS)) (results_cell1 Yba.results10 _ _ _ w.heap.size 0 rfl _ (run_loadVar_mid _ _ _ 31 (prA k xS).toList _ (range_later ((Below.refl _ _).alloc (Nat.le_refl _) _) (range_new w (prA k xS) 31 _ rfl)) Yba.underlying31 rfl (by rw [size31, prA_len]))) rfl ⟨rfl, rfl⟩

end Go.Proofs.Ybulkbpmg
