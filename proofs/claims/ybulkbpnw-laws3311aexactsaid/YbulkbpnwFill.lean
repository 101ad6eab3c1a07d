import Derived.Test.YbulkbpnwGrp
namespace Go.Proofs.Ybulkbpnw
open Go.RowKit
set_option linter.unusedVariables false
set_option linter.unusedSimpArgs false

/-- The items that f adds. -/
def presOf (ps : Nat → Nat) (k : Nat) : List Value := (List.range k).map (fun j => .iface 23 (.pointer (some ⟨ps j, 0, none⟩)))
theorem presOf_succ (ps : Nat → Nat) (k : Nat) : presOf ps (k + 1) = presOf ps k ++ [.iface 23 (.pointer (some ⟨ps k, 0, none⟩))] := by
  simp [presOf, List.range_succ]

/-- The variables that f captures, each in a block of its own below gb. -/
structure Caps (w : World) (cb ob nb pb fb eb pr N : Nat) (ps : Nat → Nat) (fl : Bool) (ev : Value) : Prop where
  o : w.cell? ⟨ob, 0, none⟩ = some (.bool true)
  p : w.cell? ⟨pb, 0, none⟩ = some (.slice (some ⟨pr, 0, none⟩) N N)
  f : w.cell? ⟨fb, 0, none⟩ = some (.bool fl)
  e : w.cell? ⟨eb, 0, none⟩ = some ev
  row : ∀ k, k < N → w.cell? ⟨pr, k, none⟩ = some (.pointer (some ⟨ps k, 0, none⟩))

theorem Caps.later {w w' : World} {cb ob nb pb fb eb pr N : Nat} {ps : Nat → Nat} {fl : Bool} {ev : Value} (h : Caps w cb ob nb pb fb eb pr N ps fl ev) {p : Nat → Prop} (hO : Only p w w')
    (h1 : ¬ p ob) (h2 : ¬ p pb) (h3 : ¬ p fb) (h4 : ¬ p eb) (h5 : ¬ p pr) : Caps w' cb ob nb pb fb eb pr N ps fl ev :=
  ⟨hO.cell h1 h.o, hO.cell h2 h.p, hO.cell h3 h.f, hO.cell h4 h.e, fun k hk => hO.cell h5 (h.row k hk)⟩

set_option maxRecDepth 100000 in
set_option maxHeartbeats 1000000 in
theorem f_any {w : World} {gb cb ob nb pb fb eb pr N : Nat} {ps : Nat → Nat} {fl : Bool} {et : TypeId} {ea : Value} (hN : N ≤ 255) (hG : Grp w gb gb 0 []) (hG2 : w.cell? ⟨gb, 2, none⟩ = some (.slice none 0 0)) (hC : Caps w cb ob nb pb fb eb pr N ps fl (.iface et ea))
    (hc : w.cell? ⟨cb, 0, none⟩ = some (.int .i64 0)) (hcf : w.frozen? ⟨cb, 0, none⟩ = false) (hn : w.cell? ⟨nb, 0, none⟩ = some (.pointer none)) (hnf : w.frozen? ⟨nb, 0, none⟩ = false)
    (l1 : cb < gb) (l2 : ob < gb) (l3 : nb < gb) (l4 : pb < gb) (l5 : fb < gb) (l6 : eb < gb) (l7 : pr < gb) (d1 : cb ≠ nb) (d2 : cb ≠ ob) (d3 : nb ≠ ob) (d4 : cb ≠ pb) (d5 : nb ≠ pb) (d6 : cb ≠ fb) (d7 : nb ≠ fb) (d8 : cb ≠ eb) (d9 : nb ≠ eb) (d10 : cb ≠ pr) (d11 : nb ≠ pr) :
    Calls Yba.prog 6 #[.pointer (some ⟨gb, 0, none⟩), .pointer (some ⟨cb, 0, none⟩), .pointer (some ⟨ob, 0, none⟩), .pointer (some ⟨nb, 0, none⟩), .pointer (some ⟨pb, 0, none⟩), .pointer (some ⟨fb, 0, none⟩), .pointer (some ⟨eb, 0, none⟩)] w fun e w' =>
      e = .returned (if fl then .iface et ea else .nilIface) ∧ ∃ g, Grp w' gb g N (presOf ps N) ∧ gb ≤ g ∧ w'.cell? ⟨cb, 0, none⟩ = some (.int .i64 1) ∧ w'.cell? ⟨nb, 0, none⟩ = some (.pointer (some ⟨gb, 0, none⟩)) ∧
        Only (fun k => k = cb ∨ k = nb ∨ gb ≤ k) w w' := by
  have g0 := hG.k0
  have g1 := hG.k1
  have co := hC.o
  have cp := hC.p
  have cf := hC.f
  have ce := hC.e
  have n1 : gb ≠ cb := by omega
  have n2 : gb ≠ nb := by omega
  have O1 : Only (fun q => q = cb ∨ q = nb) w ((w.setCell ⟨cb, 0, none⟩ (.int .i64 1)).setCell ⟨nb, 0, none⟩ (.pointer (some ⟨gb, 0, none⟩))) := ((Only.refl (fun q => q = cb ∨ q = nb) w).setCell (q := ⟨cb, 0, none⟩) (.inl rfl) _).setCell (q := ⟨nb, 0, none⟩) (.inr rfl) _
  have HG1 := hide (hG.later O1 (by simp [n1, n2]) (by simp [n1, n2]))
  have HO1 := hide O1
  clear O1
  go_enter Yba.func6, Yba.ntmps6
  go_wp2
  go_loopw [9] (fun t wr => ∃ (k g : Nat), k ≤ N ∧ t = .int .i64 k ∧ Grp wr gb g k (presOf ps k) ∧ gb ≤ g ∧ Only (fun q => gb ≤ q) ((w.setCell ⟨cb, 0, none⟩ (.int .i64 1)).setCell ⟨nb, 0, none⟩ (.pointer (some ⟨gb, 0, none⟩))) wr) (fun t _ => N - (intOf t).toNat)
  case atStart => exact ⟨0, gb, Nat.zero_le _, rfl, HG1.out, Nat.le_refl _, Only.refl _ _⟩
  case round =>
    obtain ⟨k, g, hk, rfl, hS, hg, hB⟩ := hrel
    have hA : Only (fun q => q = cb ∨ q = nb ∨ gb ≤ q) w wr := (HO1.out.weaken (fun q _ h => h.elim .inl (fun h => .inr (.inl h)))).trans (hB.weaken (fun q _ h => .inr (.inr h)))
    have rp := hA.cell (a := ⟨pb, 0, none⟩) (by simp; omega) cp
    by_cases hlt : k < N
    · have k0 : (0 : Int) ≤ (k : Int) := by omega
      have k1 : (k : Int) < (N : Int) := by omega
      have rr := hA.cell (a := ⟨pr, k, none⟩) (by simp; omega) (hC.row k hlt)
      go_wp2_with fail
      refine (gadd_any hS (by omega) 23 (.pointer (some ⟨ps k, 0, none⟩))).mono ?_
      rintro e w' ⟨rfl, g', h1, h2, h3⟩
      rw [← presOf_succ] at h1
      have hz := hB.size
      have hz2 := hG.gb_lt
      have hgg : gb ≤ g' := by
        simp at hz
        omega
      go_wp2
      go_roundw
      case rel => exact ⟨k + 1, g', by omega, by go_num, h1, hgg, hB.trans (h3.weaken (fun q _ h => by omega))⟩
      case measure => simp [intOf]; omega
    · have hkN : k = N := by omega
      subst hkN
      have rf := hA.cell (a := ⟨fb, 0, none⟩) (by simp; omega) cf
      have re := hA.cell (a := ⟨eb, 0, none⟩) (by simp; omega) ce
      have r1 : wr.cell? ⟨cb, 0, none⟩ = some (.int .i64 1) := hB.cell (by simp; omega) (by rw [World.cell?_setCell_other _ _ _ _ (by simp [d1.symm]), World.cell?_setCell_same _ _ _ hc])
      have r2 : wr.cell? ⟨nb, 0, none⟩ = some (.pointer (some ⟨gb, 0, none⟩)) := hB.cell (by simp; omega) (World.cell?_setCell_same _ _ _ (by rw [World.cell?_setCell_other _ _ _ _ (by simp [d1])]; exact hn))
      cases fl with
      | true =>
        go_wp2
        go_ret
        exact ⟨rfl, g, hS, hg, r1, r2, hA⟩
      | false =>
        go_wp2
        go_ret
        exact ⟨rfl, g, hS, hg, r1, r2, hA⟩
end Go.Proofs.Ybulkbpnw
