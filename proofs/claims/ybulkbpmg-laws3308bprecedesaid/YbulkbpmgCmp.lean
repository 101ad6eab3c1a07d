/-
  YbulkbpmgCmp: ID.Compare, ID.Between, ID.strictlyBetween.
-/
import Derived.Test.YbulkbpmgPeer
import Derived.Test.YbulkbpmgOpn
import Derived.Lib.BytesEntry
import Derived.Lib.Bytealg
namespace Go.Proofs.Ybulkbpmg
open Go.RowKit
set_option linter.unusedVariables false
set_option linter.unusedSimpArgs false
attribute [local go_sem] setCell_drewN alloc_drewN setCells_drewN setCells_drew setCells_alloc_at setCells_alloc_past there_new there_past idA_size prA_size idA_len prA_len run_load29 run_load31 run_store29 run_store31 run_build31 idLie_alloc prLie_alloc idLie_new prLie_new idLie_prnew idLie_drewN prLie_drewN idLie_drew prLie_drew idA0 idA1 prA0 prA1 prA20 idA_0 idA_1 prA_0 prA_1 prA_20 intAt strAt oInt_int oStr_string
attribute [local go_sem ↓] zero31 zero29 load29_in load31_in store29_in store31_in build31_in

def idZ (k : Int) : List Int := [k, 0, 0, 0, 0, 0, 0, 0, 0, 0, 0, 0, 0, 0, 0, 0, 0, 0, 0, 0]
/-- -1, 0 or 1. -/
def cmpK (k j : Int) : Int := if k < j then -1 else if j < k then 1 else 0
theorem cmp_bytes (x y : UInt8) : Extern.BytealgCompare.cmp ⟨#[x, 0, 0, 0, 0, 0, 0, 0, 0, 0, 0, 0, 0, 0, 0, 0, 0, 0, 0, 0]⟩ ⟨#[y, 0, 0, 0, 0, 0, 0, 0, 0, 0, 0, 0, 0, 0, 0, 0, 0, 0, 0, 0]⟩ = cmpK x.toNat y.toNat := by
  have e1 : (⟨#[x, 0, 0, 0, 0, 0, 0, 0, 0, 0, 0, 0, 0, 0, 0, 0, 0, 0, 0, 0]⟩ : ByteArray).size = 20 := rfl
  have e2 : (⟨#[y, 0, 0, 0, 0, 0, 0, 0, 0, 0, 0, 0, 0, 0, 0, 0, 0, 0, 0, 0]⟩ : ByteArray).size = 20 := rfl
  have g : ∀ (z : UInt8) (i : Nat), (⟨#[z, 0, 0, 0, 0, 0, 0, 0, 0, 0, 0, 0, 0, 0, 0, 0, 0, 0, 0, 0]⟩ : ByteArray)[i]! = if i = 0 then z else 0 := by
    intro z i
    by_cases hi : i < 20
    · match i, hi with
      | 0, _ => rfl
      | n + 1, hi =>
        have : n = 0 ∨ n = 1 ∨ n = 2 ∨ n = 3 ∨ n = 4 ∨ n = 5 ∨ n = 6 ∨ n = 7 ∨ n = 8 ∨ n = 9 ∨ n = 10 ∨ n = 11 ∨ n = 12 ∨ n = 13 ∨ n = 14 ∨ n = 15 ∨ n = 16 ∨ n = 17 ∨ n = 18 := by omega
        rcases this with rfl | rfl | rfl | rfl | rfl | rfl | rfl | rfl | rfl | rfl | rfl | rfl | rfl | rfl | rfl | rfl | rfl | rfl | rfl <;> rfl
    · rw [if_neg (by omega)]
      simp only [getElem!_def]
      rw [getElem?_neg _ _ (by simpa [ByteArray.size] using hi)]
      rfl
  unfold Extern.BytealgCompare.cmp
  rw [e1, e2]
  simp only [g]
  by_cases h : x = y
  · subst h
    rw [List.find?_eq_none.2 (by simp)]
    simp [cmpK]
  · have hf : (List.range (min 20 20)).find? (fun i => (if i = 0 then x else 0) != (if i = 0 then y else 0)) = some 0 := by
      rw [show List.range (min 20 20) = 0 :: (List.range 20).tail from rfl, List.find?_cons_of_pos (by simpa using h)]
    rw [hf]
    simp only [if_true]
    have hne : x.toNat ≠ y.toNat := fun e => h (UInt8.toNat_inj.1 e)
    by_cases hl : x < y
    · have : x.toNat < y.toNat := hl
      rw [if_pos hl, cmpK, if_pos (by omega)]
    · have : ¬ x.toNat < y.toNat := hl
      rw [if_neg hl, cmpK, if_neg (by omega), if_pos (by omega)]

theorem call59 (args : Array Value) (w : World) : (callFunc 59 args).run Yba.prog w = ((Extern.BytealgCompare.compare args).run Yba.prog w).andThen fun v w' => .ok (.value v) w' :=
  run_callFunc_extern Yba.func59 (by kernel_rfl) (by kernel_rfl) (by kernel_rfl) (e := Extern.BytealgCompare.compare) (by kernel_rfl) args w

theorem bytesOf_id (w : World) (b : Nat) (k : Int) (h0 : 0 ≤ k) (h1 : k ≤ 255) (h : w.rangeAt b 0 (idA k 0).toList) (c : Nat) :
    (Extern.Bytes.bytesOf (.slice (some ⟨b, 0, none⟩) 20 c)).run Yba.prog w = .ok ⟨#[UInt8.ofNat k.toNat, 0, 0, 0, 0, 0, 0, 0, 0, 0, 0, 0, 0, 0, 0, 0, 0, 0, 0, 0]⟩ w := by
  have := Lib.run_loadBytesX (P := Yba.prog) w (idZ k) ⟨b, 0, none⟩ .empty (fun j x hx => by
    rw [Addr.add_lit]
    exact h j _ (by
      have e : (idA k 0).toList = (idZ k).map (Value.int .u8) := by simp [idA, idZ]
      rw [e, List.getElem?_map, hx]; rfl))
  simp only [Extern.Bytes.bytesOf]
  rw [show (20 : Nat) = (idZ k).length from rfl, this]
  simp [Lib.bytesOf, idZ]

theorem compare_ids (w : World) (b b' : Nat) (k j : Int) (h0 : 0 ≤ k) (h1 : k ≤ 255) (h0' : 0 ≤ j) (h1' : j ≤ 255) (h : w.rangeAt b 0 (idA k 0).toList) (h' : w.rangeAt b' 0 (idA j 0).toList) (c c' : Nat) :
    (Extern.BytealgCompare.compare #[.slice (some ⟨b, 0, none⟩) 20 c, .slice (some ⟨b', 0, none⟩) 20 c']).run Yba.prog w = .ok (.int .i64 (cmpK k j)) w := by
  change Sem.run Yba.prog (do pure (goInt (Extern.BytealgCompare.cmp (← Extern.Bytes.bytesOf (.slice (some ⟨b, 0, none⟩) 20 c)) (← Extern.Bytes.bytesOf (.slice (some ⟨b', 0, none⟩) 20 c'))))) w = _
  simp only [Sem.run_bind, bytesOf_id w b k h0 h1 h c, bytesOf_id w b' j h0' h1' h' c', Result.andThen_ok, Sem.run_pure]
  rw [cmp_bytes]
  have a1 : ((UInt8.ofNat k.toNat).toNat : Int) = k := by simp; omega
  have a2 : ((UInt8.ofNat j.toNat).toNat : Int) = j := by simp; omega
  rw [a1, a2]
  rfl

attribute [local go_sem] call59
theorem bcmp_walk (w : World) (b b' : Nat) (k j : Int) (h0 : 0 ≤ k) (h1 : k ≤ 255) (h0' : 0 ≤ j) (h1' : j ≤ 255) (h : w.rangeAt b 0 (idA k 0).toList) (h' : w.rangeAt b' 0 (idA j 0).toList) :
    Calls Yba.prog 56 #[.slice (some ⟨b, 0, none⟩) 20 20, .slice (some ⟨b', 0, none⟩) 20 20] w fun e w' => e = .returned (.int .i64 (cmpK k j)) ∧ w' = w := by
  have hc := compare_ids w b b' k j h0 h1 h0' h1' h h' 20 20
  clear h h'
  go_enter Yba.func56, Yba.ntmps56
  go_wp2
  go_ret
  exact ⟨rfl, rfl⟩

theorem below_drewN {B : Nat} {a w : World} (h : Below B a w) (n : Nat) : Below B a (w.drewN n) := ⟨h.os, h.tape, h.output, h.size, h.block⟩

theorem compare_walk (k j : Int) (h0 : 0 ≤ k) (h1 : k ≤ 255) (h0' : 0 ≤ j) (h1' : j ≤ 255) (w : World) :
    Calls Yba.prog 42 #[.agg (idA k 0), .agg (idA j 0)] w fun e w' => e = .returned (.int .i64 (cmpK k j)) ∧ Below w.heap.size w w' := by
  have F : Hid (∀ m, Calls Yba.prog 56 #[.slice (some ⟨w.heap.size, 0, none⟩) 20 20, .slice (some ⟨w.heap.size + 1, 0, none⟩) 20 20] (((w.alloc (.cells (idA k 0) 29)).alloc (.cells (idA j 0) 29)).drewN m)
      fun e w' => e = .returned (.int .i64 (cmpK k j)) ∧ w' = (((w.alloc (.cells (idA k 0) 29)).alloc (.cells (idA j 0) 29)).drewN m)) := fun m =>
    bcmp_walk _ _ _ k j h0 h1 h0' h1' (show World.rangeAt ((w.alloc (.cells (idA k 0) 29)).alloc (.cells (idA j 0) 29)) _ _ _ from range_later ((Below.refl _ _).alloc (Nat.le_refl _) _) (range_new w (idA k 0) 29 _ rfl)) (show World.rangeAt ((w.alloc (.cells (idA k 0) 29)).alloc (.cells (idA j 0) 29)) _ _ _ from range_new _ (idA j 0) 29 _ (by simp))
  go_enter Yba.func42, Yba.ntmps42
  go_wp2
  go_quiet ((go_at_call 56; exact Calls.quiet_of_same (F.out _)))
  go_wp2
  go_ret
  exact ⟨rfl, below_drewN (by go_grown) _⟩

theorem hideP {p : Prop} (h : p) : Hid p := h

theorem id_facts {w : World} {b o : Nat} {k m : Int} (h : w.rangeAt b o (idA k m).toList) : IdLie w b o ∧ w.cell? ⟨b, o, none⟩ = some (.int .u8 k) ∧ w.cell? ⟨b, o + 1, none⟩ = some (.int .u8 m) := by
  have h0 := h 0 (.int .u8 k) (by simp [idA])
  have h1 := h 1 (.int .u8 m) (by simp [idA])
  simp only [Nat.add_zero] at h0
  exact ⟨⟨k, m, h⟩, h0, h1⟩

/-- x in the ring interval (a, b]. -/
def btw (x a b : Int) : Bool := if a < b then decide (a < x) && decide (x ≤ b) else if b < a then decide (a < x) || decide (x ≤ b) else true
theorem cmpK_lt {k j : Int} : cmpK k j < 0 ↔ k < j := by unfold cmpK; split <;> (try split) <;> omega
theorem cmpK_le {k j : Int} : cmpK k j ≤ 0 ↔ k ≤ j := by unfold cmpK; split <;> (try split) <;> omega

abbrev three (w : World) (x a b : Int) : World := ((w.alloc (.cells (idA x 0) 29)).alloc (.cells (idA a 0) 29)).alloc (.cells (idA b 0) 29)
theorem three0 (w : World) (x a b : Int) : (three w x a b).rangeAt w.heap.size 0 (idA x 0).toList :=
  range_later ((Below.refl _ _).alloc (Nat.le_refl _) _) (range_later ((Below.refl _ _).alloc (Nat.le_refl _) _) (range_new w (idA x 0) 29 _ rfl))
theorem three1 (w : World) (x a b : Int) : (three w x a b).rangeAt (w.heap.size + 1) 0 (idA a 0).toList :=
  range_later ((Below.refl _ _).alloc (Nat.le_refl _) _) (range_new _ (idA a 0) 29 _ (by simp))
theorem three2 (w : World) (x a b : Int) : (three w x a b).rangeAt (w.heap.size + 1 + 1) 0 (idA b 0).toList := range_new _ (idA b 0) 29 _ (by simp)
theorem three_below (w : World) (x a b : Int) : Below w.heap.size w (three w x a b) := by unfold three; go_grown
theorem three_size (w : World) (x a b : Int) : (three w x a b).heap.size = w.heap.size + 3 := by unfold three; go_simp

theorem bool_ret {a b : Bool} (h : a = b) : Ending.returned (Value.bool a) = Ending.returned (Value.bool b) := by rw [h]

theorem between_walk (x a b : Int) (x0 : 0 ≤ x) (x1 : x ≤ 255) (a0 : 0 ≤ a) (a1 : a ≤ 255) (b0 : 0 ≤ b) (b1 : b ≤ 255) (w : World) :
    Calls Yba.prog 28 #[.agg (idA x 0), .agg (idA a 0), .agg (idA b 0)] w fun e w' => e = .returned (.bool (btw x a b)) ∧ Below w.heap.size w w' := by
  have r0 := three0 w x a b
  have r1 := three1 w x a b
  have r2 := three2 w x a b
  have hb3 := three_below w x a b
  have hs3 := three_size w x a b
  go_enter Yba.func28, Yba.ntmps28
  go_wp2_with fail
  refine (compare_walk a b a0 a1 b0 b1 (three w x a b)).mono ?_
  rintro e w1 ⟨rfl, bel⟩
  have q0 := range_later bel r0
  have q1 := range_later bel r1
  have q2 := range_later bel r2
  have hb1 : Below w.heap.size w w1 := hb3.trans (bel.mono (by omega))
  have s1 := bel.size
  clear r0 r1 r2 hb3 bel
  obtain ⟨i0, c00, c01⟩ := id_facts q0
  obtain ⟨i1, c10, c11⟩ := id_facts q1
  obtain ⟨i2, c20, c21⟩ := id_facts q2
  have Q0 := hideP q0
  have Q1 := hideP q1
  have Q2 := hideP q2
  clear q0 q1 q2
  by_cases h : a < b
  · rw [show cmpK a b = -1 by rw [cmpK, if_pos h]]
    have EB := hideP (show btw x a b = (decide (a < x) && decide (x ≤ b)) by rw [btw, if_pos h])
    go_wp2_with fail
    refine (compare_walk a x a0 a1 x0 x1 w1).mono ?_
    rintro e w2 ⟨rfl, bel2⟩
    obtain ⟨j0, d00, d01⟩ := id_facts (range_later bel2 Q0.out)
    obtain ⟨j2, d20, d21⟩ := id_facts (range_later bel2 Q2.out)
    have hb2 : Below w.heap.size w w2 := hb1.trans (bel2.mono (by omega))
    have s2 := bel2.size
    clear bel2 Q0 Q1 Q2 i0 i1 i2 c00 c01 c10 c11 c20 c21
    have HC := hideP (@cmpK_lt a x)
    generalize cmpK a x = c at HC ⊢
    by_cases hc : c < 0
    · go_wp2_with fail
      refine (compare_walk x b x0 x1 b0 b1 w2).mono ?_
      rintro e w3 ⟨rfl, bel3⟩
      have hb3 : Below w.heap.size w w3 := hb2.trans (bel3.mono (by omega))
      clear bel3
      have HD := hideP (@cmpK_le x b)
      generalize cmpK x b = d at HD ⊢
      by_cases hd : d ≤ 0 <;>
      · go_wp2
        go_ret
        exact ⟨by rw [EB.out]; refine bool_ret ?_; have h1 := HC.out; have h2 := HD.out; rw [Bool.eq_iff_iff]; simp; omega, hb3⟩
    · go_wp2
      go_ret
      exact ⟨by rw [EB.out]; refine bool_ret ?_; have h1 := HC.out; rw [Bool.eq_iff_iff]; simp; omega, hb2⟩
  · by_cases h' : b < a
    · rw [show cmpK a b = 1 by rw [cmpK, if_neg h, if_pos h']]
      have EB := hideP (show btw x a b = (decide (a < x) || decide (x ≤ b)) by rw [btw, if_neg h, if_pos h'])
      go_wp2_with fail
      refine (compare_walk a x a0 a1 x0 x1 w1).mono ?_
      rintro e w2 ⟨rfl, bel2⟩
      obtain ⟨j0, d00, d01⟩ := id_facts (range_later bel2 Q0.out)
      obtain ⟨j2, d20, d21⟩ := id_facts (range_later bel2 Q2.out)
      have hb2 : Below w.heap.size w w2 := hb1.trans (bel2.mono (by omega))
      have s2 := bel2.size
      clear bel2 Q0 Q1 Q2 i0 i1 i2 c00 c01 c10 c11 c20 c21
      have HC := hideP (@cmpK_lt a x)
      generalize cmpK a x = c at HC ⊢
      by_cases hc : c < 0
      · go_wp2
        go_ret
        exact ⟨by rw [EB.out]; refine bool_ret ?_; have h1 := HC.out; rw [Bool.eq_iff_iff]; simp; omega, hb2⟩
      · go_wp2_with fail
        refine (compare_walk x b x0 x1 b0 b1 w2).mono ?_
        rintro e w3 ⟨rfl, bel3⟩
        have hb3 : Below w.heap.size w w3 := hb2.trans (bel3.mono (by omega))
        clear bel3
        have HD := hideP (@cmpK_le x b)
        generalize cmpK x b = d at HD ⊢
        by_cases hd : d ≤ 0 <;>
        · go_wp2
          go_ret
          exact ⟨by rw [EB.out]; refine bool_ret ?_; have h1 := HC.out; have h2 := HD.out; rw [Bool.eq_iff_iff]; simp; omega, hb3⟩
    · rw [show cmpK a b = 0 by rw [cmpK, if_neg h, if_neg h']]
      have EB := hideP (show btw x a b = true by rw [btw, if_neg h, if_neg h'])
      go_wp2
      go_ret
      exact ⟨by rw [EB.out]; rfl, hb1⟩

theorem neq29 {k k' : Int} (h1 : (Lit.int .u8 k).wf = true) (h3 : (Lit.int .u8 k').wf = true) (w : World) :
    (binOp .neq 29 (.agg (idA k 0)) (.agg (idA k' 0))).run Yba.prog w = .ok (.bool (!decide (k = k'))) w := by
  have h := eq29 h1 wf0 h3 wf0 w
  simp at h
  simp [binOp, h]

theorem wf_u8 {k : Int} (h0 : 0 ≤ k) (h1 : k ≤ 255) : (Lit.int .u8 k).wf = true := by
  have e1 : IntKind.u8.min = 0 := rfl
  have e2 : IntKind.u8.max = 255 := rfl
  simp [Lit.wf, e1, e2]
  omega

set_option maxRecDepth 100000 in
theorem strictly_walk (x a b : Int) (x0 : 0 ≤ x) (x1 : x ≤ 255) (a0 : 0 ≤ a) (a1 : a ≤ 255) (b0 : 0 ≤ b) (b1 : b ≤ 255) (w : World) :
    Calls Yba.prog 20 #[.agg (idA x 0), .agg (idA a 0), .agg (idA b 0)] w fun e w' => e = .returned (.bool (opn x a b)) ∧ Below w.heap.size w w' := by
  have hb3 := three_below w x a b
  have hs3 := three_size w x a b
  have hn := fun v => neq29 (wf_u8 x0 x1) (wf_u8 b0 b1) v
  obtain ⟨i0, c00, c01⟩ := id_facts (three0 w x a b)
  obtain ⟨i1, c10, c11⟩ := id_facts (three1 w x a b)
  obtain ⟨i2, c20, c21⟩ := id_facts (three2 w x a b)
  by_cases hx : x = b
  · subst hx
    have hn' : ∀ v, (binOp .neq 29 (.agg (idA x 0)) (.agg (idA x 0))).run Yba.prog v = .ok (.bool false) v := fun v => by rw [hn v]; simp
    have eo : opn x a x = false := by
      unfold opn
      split
      · simp <;> omega
      · split
        · simp <;> omega
        · simp <;> omega
    rw [eo]
    clear hn eo
    go_enter Yba.func20, Yba.ntmps20
    go_wp2
    go_ret
    exact ⟨rfl, hb3⟩
  · have hn' : ∀ v, (binOp .neq 29 (.agg (idA x 0)) (.agg (idA b 0))).run Yba.prog v = .ok (.bool true) v := fun v => by rw [hn v]; simp [hx]
    have eo : opn x a b = btw x a b := by
      unfold opn btw
      split
      · have : x < b ↔ x ≤ b := by omega
        simp [this]
      · split
        · have : x < b ↔ x ≤ b := by omega
          simp [this]
        · simp; omega
    rw [eo]
    clear hn eo
    go_enter Yba.func20, Yba.ntmps20
    go_wp2_with fail
    refine (between_walk x a b x0 x1 a0 a1 b0 b1 (three w x a b)).mono ?_
    rintro e w1 ⟨rfl, bel⟩
    have hb1 : Below w.heap.size w w1 := hb3.trans (bel.mono (by omega))
    clear bel hb3 hs3
    go_wp2
    go_ret
    exact ⟨rfl, hb1⟩
end Go.Proofs.Ybulkbpmg
