/-
  YbulkbpmgExt: Node.extend.
-/
import Derived.Test.YbulkbpmgRow
namespace Go.Proofs.Ybulkbpmg
open Go.RowKit
set_option linter.unusedVariables false
set_option linter.unusedSimpArgs false
attribute [local go_sem] setCell_drewN alloc_drewN setCells_drewN setCells_drew setCells_alloc_at setCells_alloc_past there_new there_past idA_size prA_size idA_len prA_len run_load29 run_load31 run_store29 run_store31 run_build31 idLie_alloc prLie_alloc idLie_new prLie_new idLie_prnew idLie_drewN prLie_drewN idLie_drew prLie_drew idA0 idA1 prA0 prA1 prA20 idA_0 idA_1 prA_0 prA_1 prA_20 intAt strAt oInt_int oStr_string
attribute [local go_sem ↓] zero31 zero29 load29_in load31_in store29_in store31_in build31_in

/-- The cells of a row of peers. -/
def prs (ks : List Int) : List Value := ks.flatMap fun k => (prA k xS).toList
theorem prs_len (ks : List Int) : (prs ks).length = ks.length * 21 := by
  induction ks with
  | nil => rfl
  | cons k ks ih => simp only [prs, List.flatMap_cons, List.length_append, prA_len, List.length_cons] at *; rw [ih]; omega
theorem prs_get : ∀ (ks : List Int) (i j : Nat) (k : Int), ks[i]? = some k → j < 21 → (prs ks)[i * 21 + j]? = (prA k xS).toList[j]?
  | [], _, _, _, h, _ => by simp at h
  | k :: ks, 0, j, k', h, hj => by
    simp at h; subst h
    rw [prs, List.flatMap_cons, List.getElem?_append_left (by rw [prA_len]; omega)]; simp
  | k :: ks, i + 1, j, k', h, hj => by
    rw [prs, List.flatMap_cons, List.getElem?_append_right (by rw [prA_len]; omega), prA_len, show (i + 1) * 21 + j - 21 = i * 21 + j by omega]
    exact prs_get ks i j k' (by simpa using h) hj
theorem prow_of {w : World} {g o : Nat} {ks : List Int} (h : w.rangeAt g o (prs ks)) : PRow w g o ks := fun i k hk j v hv => by
  have hj : j < 21 := by
    have := (List.getElem?_eq_some_iff.1 hv).1
    rwa [prA_len] at this
  have := h (i * 21 + j) v (by rw [prs_get ks i j k hk hj]; exact hv)
  rwa [← Nat.add_assoc] at this
theorem prs_snoc (ks : List Int) (k : Int) : prs (ks ++ [k]) = prs ks ++ (prA k xS).toList := by simp [prs]
theorem prs_one (ks : List Int) : ∀ v ∈ prs ks, v.oneCell' = true := by
  intro v hv
  obtain ⟨k, _, hv⟩ := List.mem_flatMap.1 hv
  have := one31 k xS
  rw [Array.all_eq_true_iff_forall_mem] at this
  exact this v (by simpa using hv)

/-- What extend computes. -/
def extK (sf rr : Int) : List Int → List Int → List Int
  | acc, [] => acc
  | acc, k :: ks => if k = sf ∨ rr ≤ acc.length then acc else extK sf rr (if k ∈ acc then acc else acc ++ [k]) ks

def bsl45 (n : Nat) (ps : Array (Nat × Value)) : Sem Value := Instr.buildSlice 45 n ps
theorem bsl45_in (n : Nat) (ps : Array (Nat × Value)) : Instr.buildSlice 45 n ps = bsl45 n ps := rfl
theorem run_bsl45' (w : World) (k : Int) : (bsl45 1 #[(0, .agg (prA k xS))]).run Yba.prog w = .ok (.slice (some ⟨w.heap.size, 0, none⟩) 1 1) (w.alloc (.cells (prA k xS) 31)) := by kernel_rfl
theorem run_bsl45 (w : World) (k : Int) : (bsl45 1 #[(0, .agg (prA k xS))]).run Yba.prog w = .ok (.slice (some ⟨w.heap.size, 0, none⟩) 1 1) (w.alloc (.cells (prA k xS) 31)) := by rw [run_bsl45' w k]
attribute [local go_sem] run_bsl45
attribute [local go_sem ↓] bsl45_in

theorem info31 : (Yba.prog.info? 31).map (fun i => (i.zero, i.size, i.bytes)) = some (some (.agg (prA 0 ⟨#[]⟩)), 21, 40) := by kernel_rfl

structure ExtInv (w : World) (G : Nat) (sf rr p : Int) (ks : List Int) (n i g m cap : Nat) (ac : List Int) (wr : World) : Prop where
  le : i ≤ n
  row : Row wr g 0 m cap 21 (prs ac)
  len : ac.length = m
  ge : G ≤ g
  lt : g < wr.heap.size
  only : Only (fun q => G ≤ q) w wr
  ext : extK sf rr ac (ks.drop i) = extK sf rr [p] ks
  wf : ∀ j ∈ ac, (Lit.int .u8 j).wf = true
  small : m ≤ i + 1

theorem ext_stop {sf rr j : Int} {ac ks R : List Int} {i : Nat} (hj : ks[i]? = some j) (h : extK sf rr ac (ks.drop i) = R) (hc : j = sf ∨ rr ≤ ac.length) : R = ac := by
  rw [List.drop_eq_getElem?_toList_append, hj] at h
  simp only [Option.toList_some, List.singleton_append, extK, if_pos hc] at h
  exact h.symm
theorem ext_go {sf rr j : Int} {ac ks R : List Int} {i : Nat} (hj : ks[i]? = some j) (h : extK sf rr ac (ks.drop i) = R) (hc : ¬ (j = sf ∨ rr ≤ ac.length)) : extK sf rr (if j ∈ ac then ac else ac ++ [j]) (ks.drop (i + 1)) = R := by
  rw [List.drop_eq_getElem?_toList_append, hj] at h
  simp only [Option.toList_some, List.singleton_append] at h
  rw [extK, if_neg hc] at h
  exact h
theorem only_drewN {p : Nat → Prop} {a w : World} (h : Only p a w) (n : Nat) : Only p a (w.drewN n) := h.drewN n
theorem row_drewN {w : World} {g o n cap size : Nat} {cs : List Value} (h : Row w g o n cap size cs) (m : Nat) : Row (w.drewN m) g o n cap size cs := ⟨h.len, h.le, h.at', h.there, h.one⟩

theorem Only.range {p : Nat → Prop} {w w' : World} (h : Only p w w') {b o : Nat} {cs : List Value} (hb : ¬ p b) (hr : w.rangeAt b o cs) : w'.rangeAt b o cs := fun j v hv => h.cell hb (hr j v hv)

set_option maxRecDepth 100000 in
set_option maxHeartbeats 2000000 in
theorem ext_walk (N S so n c G : Nat) (sf rr p : Int) (ks : List Int) (w : World) (hp : (Lit.int .u8 p).wf = true) (hs : (Lit.int .u8 sf).wf = true) (hks : ∀ j ∈ ks, (Lit.int .u8 j).wf = true) (hn : ks.length = n) (hm : n ≤ 2000)
    (hself : w.rangeAt N 0 (prA sf xS).toList) (hr : w.cell? ⟨N, 22, none⟩ = some (.int .i64 rr)) (hrow : PRow w S so ks) (hacc : Row w G 0 1 1 21 (prs [p])) (hN : N < G) (hS : S < G) (hG : G < w.heap.size) :
    Calls Yba.prog 22 #[.pointer (some ⟨N, 0, none⟩), .slice (some ⟨G, 0, none⟩) 1 1, .slice (some ⟨S, so, none⟩) n c] w fun e w' =>
      ∃ g m cap, e = .returned (.slice (some ⟨g, 0, none⟩) m cap) ∧ Row w' g 0 m cap 21 (prs (extK sf rr [p] ks)) ∧ (extK sf rr [p] ks).length = m ∧ G ≤ g ∧ g < w'.heap.size ∧ Only (fun q => G ≤ q) w w' := by
  have HKS := hideP hks
  have HSELF := hideP hself
  have HROW := hideP hrow
  have HACC := hideP hacc
  clear hks hself hrow hacc
  go_enter Yba.func22, Yba.ntmps22
  go_wp2
  go_loopw [1, 11] (fun a t wr => ∃ (i g m cap : Nat) (ac : List Int), t = .int .i64 i ∧ a = .slice (some ⟨g, 0, none⟩) m cap ∧ ExtInv w G sf rr p ks n i g m cap ac wr) (fun _ t _ => n - (intOf t).toNat)
  case atStart => exact ⟨0, G, 1, 1, [p], rfl, rfl, ⟨Nat.zero_le _, HACC.out, rfl, Nat.le_refl _, hG, Only.refl _ _, by simp, by simpa using hp, by omega⟩⟩
  case round =>
    obtain ⟨i, g, m, cap, ac, rfl, rfl, I⟩ := hrel
    have hle := I.le
    by_cases hlt : i < n
    · obtain ⟨j, hj⟩ : ∃ j, ks[i]? = some j := ⟨_, List.getElem?_eq_getElem (by omega)⟩
      have hwj := HKS.out j (List.mem_of_getElem? hj)
      obtain ⟨p1, c1, c2⟩ := pr_facts (I.only.range (by omega) (HROW.out i j hj))
      obtain ⟨p2, d1, d2⟩ := pr_facts (I.only.range (by omega) HSELF.out)
      have r1 := I.only.cell (by simp; omega) hr
      have bS : S < wr.heap.size := by have := I.only.size; omega
      have bN : N < wr.heap.size := by have := I.only.size; omega
      have i0 : (0 : Int) ≤ (i : Int) := by omega
      have i1 : (i : Int) < (n : Int) := by omega
      have HJ := hideP hj
      have HI := hideP I
      have mm := I.small
      clear hj I
      by_cases he : j = sf
      · have hq := fun v => eql31 hwj hs true (by simp [he]) v
        have HE := hideP he
        clear he
        go_wp2
        go_quiet (fail)
        go_wp2
        go_ret
        have I := HI.out
        have hR := ext_stop HJ.out I.ext (.inl HE.out)
        rw [hR]
        exact ⟨g, m, cap, rfl, row_drewN (I.row.later (Only.alloc (Only.refl (fun _ => False) _) _) (by simp) I.lt) _, I.len, I.ge, by have := I.lt; simp; omega, (I.only.alloc _).drewN _⟩
      · have hq := fun v => eql31 hwj hs false (by simp [he]) v
        have HE := hideP he
        clear he
        by_cases hfull : rr ≤ (m : Int)
        · go_wp2
          go_quiet (fail)
          go_wp2
          go_ret
          have I := HI.out
          have hR := ext_stop HJ.out I.ext (.inr (by rw [I.len]; exact hfull))
          rw [hR]
          exact ⟨g, m, cap, rfl, row_drewN (I.row.later (Only.alloc (Only.refl (fun _ => False) _) _) (by simp) I.lt) _, I.len, I.ge, by have := I.lt; simp; omega, (I.only.alloc _).drewN _⟩
        · go_wp2
          go_quiet (fail)
          go_wp2_with fail
          have I := HI.out
          have hgo := ext_go HJ.out I.ext (by rw [I.len]; exact fun h => h.elim HE.out (fun h' => by omega))
          have hrow' : Row ((wr.alloc (.cells (prA j xS) 31)).drewN nq) g 0 m cap 21 (prs ac) := row_drewN (I.row.later (Only.alloc (Only.refl (fun _ => False) _) _) (by simp) I.lt) _
          have hlt' : g < ((wr.alloc (.cells (prA j xS) 31)).drewN nq).heap.size := by have := I.lt; simp; omega
          have honly' : Only (fun q => G ≤ q) w ((wr.alloc (.cells (prA j xS) 31)).drewN nq) := (I.only.alloc _).drewN _
          have hjrow : ((wr.alloc (.cells (prA j xS) 31)).drewN nq).rangeAt wr.heap.size 0 (prA j xS).toList := range_new wr (prA j xS) 31 _ rfl
          have hszw : ((wr.alloc (.cells (prA j xS) 31)).drewN nq).heap.size = wr.heap.size + 1 := by simp
          generalize ((wr.alloc (.cells (prA j xS) 31)).drewN nq) = w2 at hrow' hlt' honly' hjrow hszw ⊢
          refine (contains_walk g 0 m cap ac j w2 hwj I.len I.wf (by omega) (prow_of hrow'.at') (decide (j ∈ ac)) decide_eq_true_iff).mono ?_
          rintro e w3 ⟨rfl, bel⟩
          obtain ⟨p3, e1, e2⟩ := pr_facts (range_later bel hjrow)
          have b3 : wr.heap.size < w3.heap.size := by have := bel.size; omega
          have row3 : Row w3 g 0 m cap 21 (prs ac) := hrow'.later (Only.of_below (p := fun _ => False) bel) (by simp) hlt'
          have lt3 : g < w3.heap.size := by have := bel.size; omega
          have only3 : Only (fun q => G ≤ q) w w3 := honly'.trans ((Only.of_below (p := fun _ => False) bel).weaken (by simp))
          have ROW3 := hideP row3
          have ONLY3 := hideP only3
          have GO := hideP hgo
          have II := hideP I
          clear I hgo hrow' hlt' honly' hjrow hszw bel row3 only3 HI
          by_cases hin : j ∈ ac
          · rw [decide_eq_true hin]
            have HIN := hideP hin
            clear hin
            go_wp2
            go_roundw
            case rel =>
              have I := II.out
              have hgo := GO.out
              rw [if_pos HIN.out] at hgo
              exact ⟨i + 1, g, m, cap, ac, by go_num, rfl, ⟨by omega, ROW3.out, I.len, I.ge, lt3, ONLY3.out, hgo, I.wf, by omega⟩⟩
            case measure => simp [intOf]; omega
          · rw [decide_eq_false hin]
            have HIN := hideP hin
            clear hin
            obtain ⟨inf, hinf, hinf'⟩ := Option.map_eq_some_iff.1 info31
            simp only [Prod.mk.injEq] at hinf'
            obtain ⟨hz, hsz, hbb⟩ := hinf'
            have hr4 : Row (w3.alloc (.cells (prA j xS) 31)) g 0 m cap 21 (prs ac) := ROW3.out.later (Only.alloc (Only.refl (fun _ => False) _) _) (by simp) lt3
            have hlt4 : g < (w3.alloc (.cells (prA j xS) 31)).heap.size := by simp; omega
            have hc4 : (w3.alloc (.cells (prA j xS) 31)).rangeAt w3.heap.size 0 (prA j xS).toList := range_new w3 (prA j xS) 31 _ rfl
            have hl4 : (prA j xS).toList.length = 1 * 21 := by rw [prA_len]
            have h14 : ∀ u ∈ (prA j xS).toList, u.oneCell' = true := fun u hu => prs_one [j] u (by simpa [prs] using hu)
            have B1 : m + 1 ≤ maxLen := by unfold maxLen; omega
            have B2 : (m + 1) * 40 ≤ 140737488355328 := by omega
            have B3 : 0 < 21 := by decide
            have B4 : 0 < 1 := by decide
            have B5 : (Value.agg (prA 0 ⟨#[]⟩)).cells.size = 21 := prA_size 0 _
            go_wp2_with (at_builtin; go_must (refine wpList_append_row _ rfl _ _ 45 rfl 31 inf _ 21 40 Yba.underlying45 hinf hz hsz hbb B5 B3 g 0 m cap (prs ac) rfl hr4 w3.heap.size 1 1 (prA j xS).toList rfl B4 hl4 hc4 h14 B1 B2 (fun g' o' cap' w5 hrow5 hcs hlt5 hO5 hq5 => ?_) hlt4; obtain rfl : o' = 0 := (hcs.elim (fun h => h.2.1) (fun h => h.2)); have HR5 := hideP hrow5; have HC5 := hideP hcs; have HL5 := hideP hlt5; have HO5 := hideP hO5; clear hrow5 hcs hlt5 hO5 hq5))
            go_roundw
            case rel =>
              have I := II.out
              have hgo := GO.out
              rw [if_neg HIN.out] at hgo
              refine ⟨i + 1, g', m + 1, cap', ac ++ [j], by go_num, rfl, ⟨by omega, by rw [prs_snoc]; exact HR5.out, by simp [I.len], ?_, HL5.out, ?_, hgo, ?_, by omega⟩⟩
              · rcases HC5.out with ⟨rfl, _⟩ | ⟨h, _⟩
                · exact I.ge
                · have := ONLY3.out.size; simp at h; omega
              · exact (ONLY3.out.alloc _).trans (HO5.out.weaken (fun q _ h => by rw [h]; exact I.ge))
              · intro x hx
                rcases List.mem_append.1 hx with h | h
                · exact I.wf x h
                · simp at h; rw [h]; exact hwj
            case measure => simp [intOf]; omega
    · obtain rfl : i = n := by omega
      have HI := hideP I
      clear I
      go_wp2
      go_ret
      have I := HI.out
      have hR := I.ext
      rw [List.drop_of_length_le (by omega), extK] at hR
      rw [← hR]
      exact ⟨g, m, cap, rfl, I.row, I.len, I.ge, I.lt, I.only⟩
end Go.Proofs.Ybulkbpmg
