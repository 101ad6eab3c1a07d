/-
  YbulkbpmgIdx: slices.Index, slices.Contains over a row of peers.
-/
import Derived.Test.YbulkbpmgCmp
namespace Go.Proofs.Ybulkbpmg
open Go.RowKit
set_option linter.unusedVariables false
set_option linter.unusedSimpArgs false
attribute [local go_sem] setCell_drewN alloc_drewN setCells_drewN setCells_drew setCells_alloc_at setCells_alloc_past there_new there_past idA_size prA_size idA_len prA_len run_load29 run_load31 run_store29 run_store31 run_build31 idLie_alloc prLie_alloc idLie_new prLie_new idLie_prnew idLie_drewN prLie_drewN idLie_drew prLie_drew idA0 idA1 prA0 prA1 prA20 idA_0 idA_1 prA_0 prA_1 prA_20 intAt strAt oInt_int oStr_string
attribute [local go_sem ↓] zero31 zero29 load29_in load31_in store29_in store31_in build31_in

/-- The peers 'ks' lie in a row from offset o of block g on. -/
def PRow (w : World) (g o : Nat) (ks : List Int) : Prop := ∀ i k, ks[i]? = some k → w.rangeAt g (o + i * 21) (prA k xS).toList

theorem PRow.later {w w' : World} {g o : Nat} {ks : List Int} (h : PRow w g o ks) (b : Below w.heap.size w w') : PRow w' g o ks := fun i k hk => range_later b (h i k hk)

theorem pr_facts {w : World} {b o : Nat} {k : Int} {s : ByteArray} (h : w.rangeAt b o (prA k s).toList) : PrLie w b o ∧ w.cell? ⟨b, o, none⟩ = some (.int .u8 k) ∧ w.cell? ⟨b, o + 20, none⟩ = some (.string s) := by
  have h0 := h 0 (.int .u8 k) (by simp [prA])
  have h1 := h 20 (.string s) (by simp [prA])
  simp only [Nat.add_zero] at h0
  exact ⟨⟨k, s, h⟩, h0, h1⟩

theorem eql31 {k k' : Int} (h1 : (Lit.int .u8 k).wf = true) (h3 : (Lit.int .u8 k').wf = true) (b : Bool) (hb : b = decide (k = k')) (w : World) :
    (binOp .eql 31 (.agg (prA k xS)) (.agg (prA k' xS))).run Yba.prog w = .ok (.bool b) w := by rw [binop31 h1 h3 w, hb]

set_option maxRecDepth 100000 in
set_option maxHeartbeats 1000000 in
theorem idx_walk (g o n c : Nat) (ks : List Int) (k : Int) (w : World) (hk : (Lit.int .u8 k).wf = true) (hn : ks.length = n) (hks : ∀ j ∈ ks, (Lit.int .u8 j).wf = true) (hm : n ≤ 100000) (hr : PRow w g o ks) :
    Calls Yba.prog 44 #[.slice (some ⟨g, o, none⟩) n c, .agg (prA k xS)] w fun e w' => ∃ r : Int, e = .returned (.int .i64 r) ∧ (0 ≤ r ↔ k ∈ ks) ∧ Below w.heap.size w w' := by
  have r1 := range_new w (prA k xS) 31 w.heap.size rfl
  have hb1 : Below w.heap.size w (w.alloc (.cells (prA k xS) 31)) := (Below.refl _ _).alloc (Nat.le_refl _) _
  have R1 := hideP r1
  have HB := hideP hb1
  have HR := hideP hr
  have HKS := hideP hks
  clear r1 hb1 hr hks
  go_enter Yba.func44, Yba.ntmps44
  go_wp2
  go_loopw [8] (fun t wr => ∃ i : Nat, i ≤ n ∧ t = .int .i64 i ∧ k ∉ ks.take i ∧ Below w.heap.size w wr ∧ wr.rangeAt w.heap.size 0 (prA k xS).toList) (fun t _ => n - (intOf t).toNat)
  case atStart => exact ⟨0, Nat.zero_le _, rfl, by simp, HB.out, R1.out⟩
  case round =>
    obtain ⟨i, hi, rfl, hno, hb, hrg⟩ := hrel
    by_cases hlt : i < n
    · obtain ⟨j, hj⟩ : ∃ j, ks[i]? = some j := ⟨_, List.getElem?_eq_getElem (by omega)⟩
      obtain ⟨p1, c1, c2⟩ := pr_facts hrg
      obtain ⟨p2, d1, d2⟩ := pr_facts (range_later hb (HR.out i j hj))
      have hwj := HKS.out j (List.mem_of_getElem? hj)
      have i0 : (0 : Int) ≤ (i : Int) := by omega
      have i1 : (i : Int) < (n : Int) := by omega
      have HJ := hideP hj
      have HNO := hideP hno
      have HBB := hideP hb
      have HRG := hideP hrg
      clear hj hno hb hrg
      by_cases he : k = j
      · have hq := fun v => eql31 hk hwj true (by simp [he]) v
        have HE := hideP he
        clear he
        go_wp2
        go_quiet (fail)
        go_wp2
        go_ret
        exact ⟨(i : Int), rfl, ⟨fun _ => HE.out ▸ List.mem_of_getElem? HJ.out, fun _ => by omega⟩, below_drewN HBB.out _⟩
      · have hq := fun v => eql31 hk hwj false (by simp [he]) v
        have HE := hideP he
        clear he
        go_wp2
        go_quiet (fail)
        go_wp2
        go_roundw
        case rel =>
          refine ⟨i + 1, by omega, by go_num, ?_, below_drewN HBB.out _, HRG.out⟩
          rw [List.take_add_one, HJ.out]
          simp only [List.mem_append, not_or]
          exact ⟨HNO.out, by simpa using HE.out⟩
        case measure => simp [intOf]; omega
    · obtain rfl : i = n := by omega
      have HNO := hideP hno
      have HBB := hideP hb
      clear hno hb hrg
      go_wp2
      go_ret
      refine ⟨-1, rfl, ⟨fun h => by omega, fun h => ?_⟩, HBB.out⟩
      exact absurd (by rw [List.take_of_length_le (by omega)]; exact h) HNO.out

set_option maxRecDepth 100000 in
theorem contains_walk (g o n c : Nat) (ks : List Int) (k : Int) (w : World) (hk : (Lit.int .u8 k).wf = true) (hn : ks.length = n) (hks : ∀ j ∈ ks, (Lit.int .u8 j).wf = true) (hm : n ≤ 100000) (hr : PRow w g o ks) (b : Bool) (hb : b = true ↔ k ∈ ks) :
    Calls Yba.prog 30 #[.slice (some ⟨g, o, none⟩) n c, .agg (prA k xS)] w fun e w' => e = .returned (.bool b) ∧ Below w.heap.size w w' := by
  have hb1 : Below w.heap.size w (w.alloc (.cells (prA k xS) 31)) := (Below.refl _ _).alloc (Nat.le_refl _) _
  have hr1 := hr.later hb1
  have HB := hideP hb1
  have HBQ := hideP hb
  have HKS := hideP hks
  have HR1 := hideP hr1
  clear hb1 hb hr hr1 hks
  go_enter Yba.func30, Yba.ntmps30
  go_wp2_with fail
  refine (idx_walk g o n c ks k _ hk hn HKS.out hm HR1.out).mono ?_
  rintro e w1 ⟨r, rfl, hr, bel⟩
  have hb2 : Below w.heap.size w w1 := HB.out.trans (bel.mono (by simp))
  have HB2 := hideP hb2
  clear hb2 bel
  have HRR := hideP hr
  clear hr
  by_cases h0 : 0 ≤ r
  · obtain rfl : b = true := HBQ.out.2 (HRR.out.1 h0)
    go_wp2
    go_ret
    exact ⟨rfl, HB2.out⟩
  · obtain rfl : b = false := by
      cases b with
      | false => rfl
      | true => exact absurd (HRR.out.2 (HBQ.out.1 rfl)) h0
    have H0 := hideP h0
    go_wp2
    go_ret
    exact ⟨bool_ret (decide_eq_false (by have := H0.out; omega)), HB2.out⟩
end Go.Proofs.Ybulkbpmg
