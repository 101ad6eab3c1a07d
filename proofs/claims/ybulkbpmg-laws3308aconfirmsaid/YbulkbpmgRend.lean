import Derived.Test.YbulkbpmgRound
namespace Go.Proofs.Ybulkbpmg
open Go.RowKit
set_option linter.unusedVariables false
set_option linter.unusedSimpArgs false
attribute [local go_sem] setCell_drewN alloc_drewN

/-- A settling's ten cells and its two rows. -/
structure Settled (w : World) (b o n rt rb : Nat) (size : Int) (pending reached : Bool) (since lk after confirmed : Int) (row : Nat → Int) : Prop where
  s0 : w.cell? ⟨b, o, none⟩ = some (.int .i64 size)
  s1 : w.cell? ⟨b, o + 1, none⟩ = some (.slice (some ⟨rt, 0, none⟩) n n)
  s2 : w.cell? ⟨b, o + 2, none⟩ = some (.int .i64 0)
  s3 : w.cell? ⟨b, o + 3, none⟩ = some (.bool pending)
  s4 : w.cell? ⟨b, o + 4, none⟩ = some (.int .i64 since)
  s5 : w.cell? ⟨b, o + 5, none⟩ = some (.int .u64 lk)
  s6 : w.cell? ⟨b, o + 6, none⟩ = some (.slice (some ⟨rb, 0, none⟩) n n)
  s7 : w.cell? ⟨b, o + 7, none⟩ = some (.int .i64 confirmed)
  s8 : w.cell? ⟨b, o + 8, none⟩ = some (.bool reached)
  s9 : w.cell? ⟨b, o + 9, none⟩ = some (.int .i64 after)
  rt0 : ∀ k, k < n → w.cell? ⟨rt, k, none⟩ = some (.bool false)
  rb0 : ∀ k, k < n → w.cell? ⟨rb, k, none⟩ = some (.int .u64 (row k))

def outC (started lk r0 : Int) : Bool := decide (lk ≤ started) && !(r0 == lk)
def outD (started lk r0 size : Int) : Bool := outC started lk r0 && (size == 1)
def rowOut (i : Nat) (started lk r0 : Int) (k : Nat) : Int := if k = i then (if outC started lk r0 then lk else r0) else 0

/-- What the round's end leaves of one settling. -/
def Ended (w : World) (b o n rt rb i : Nat) (size started lk r0 now : Int) : Prop :=
  Settled w b o n rt rb size (!outD started lk r0 size) (outD started lk r0 size) now lk (if outD started lk r0 size then now else 0) (if outC started lk r0 then 1 else 0) (rowOut i started lk r0)

/-- One settling's part of 'JP', the rows told. -/
structure SP (w : World) (b o n rt rb i : Nat) (lk now size r0 : Int) : Prop where
  hi : i < n
  base : Settled w b o n rt rb size true false now lk 0 0 (fun k => if k = i then r0 else 0)
  hf : ∀ k, w.frozen? ⟨b, o + k, none⟩ = false
  hfb : w.frozen? ⟨rb, i, none⟩ = false
  hrt : rt ≠ b
  hrb : rb ≠ b
  hrr : rt ≠ rb

set_option maxHeartbeats 400000 in
theorem rend_any {w : World} {b o n rt rb i : Nat} {lk now size r0 : Int} (started : Int) (J : SP w b o n rt rb i lk now size r0) :
    Calls Yba.prog 16 #[.pointer (some ⟨b, o, none⟩), .int .i64 i, .int .u64 started] w fun e w' => e = .returned (.tuple #[]) ∧ Ended w' b o n rt rb i size started lk r0 now ∧
      Only (fun k => k = b ∨ k = rb) w w' ∧ (∀ a : Addr, a.block = b → (a.off < o ∨ o + 10 ≤ a.off) → w'.cell? a = w.cell? a) := by
  obtain ⟨hi, ⟨s0, s1, s2, s3, s4, s5, s6, s7, s8, s9, rt0, rb0⟩, hf, hfb, hrt, hrb, hrr⟩ := J
  have hr := rb0 i hi
  simp only [if_true] at hr
  by_cases c1 : started < lk
  · refine (re_early b o i lk started w c1 s3 s5).mono ?_
    rintro e w' ⟨rfl, m, rfl⟩
    have hC : outC started lk r0 = false := by unfold outC; simp; omega
    have hD : outD started lk r0 size = false := by unfold outD; simp [hC]
    refine ⟨rfl, ?_, (Only.refl _ _).drewN m, fun a _ _ => by simp⟩
    unfold Ended
    rw [hD, hC]
    exact ⟨s0, s1, s2, s3, s4, s5, s6, s7, s8, s9, rt0, fun k hk => by rw [World.cell?_drewN, rb0 k hk]; simp [rowOut, hC]⟩
  · by_cases c2 : r0 = lk
    · subst c2
      refine (re_had b o rb n i r0 started w hi c1 s3 s5 s6 hr).mono ?_
      rintro e w' ⟨rfl, m, rfl⟩
      have hC : outC started r0 r0 = false := by unfold outC; simp
      have hD : outD started r0 r0 size = false := by unfold outD; simp [hC]
      refine ⟨rfl, ?_, (Only.refl _ _).drewN m, fun a _ _ => by simp⟩
      unfold Ended
      rw [hD, hC]
      exact ⟨s0, s1, s2, s3, s4, s5, s6, s7, s8, s9, rt0, fun k hk => by rw [World.cell?_drewN, rb0 k hk]; simp [rowOut, hC]⟩
    · have hC : outC started lk r0 = true := by unfold outC; simp; omega
      have hrow : ∀ k, k < n → (w.setCell ⟨rb, i, none⟩ (.int .u64 lk)).cell? ⟨rb, k, none⟩ = some (.int .u64 (rowOut i started lk r0 k)) := fun k hk => by
        by_cases e : k = i
        · subst e; rw [World.cell?_setCell_same _ _ _ hr]; simp [rowOut, hC]
        · rw [World.cell?_setCell_other _ _ _ _ (by simp <;> omega), rb0 k hk]; simp [rowOut, e]
      by_cases c3 : size = 1
      · subst c3
        have hD : outD started lk r0 1 = true := by unfold outD; simp [hC]
        refine (re_done b o rb n i lk started r0 now w hi c1 (by simpa using c2) hrb.symm s0 s3 s4 s5 s6 s7 ⟨_, s8⟩ ⟨_, s9⟩ hr hf hfb).mono ?_
        rintro e w' ⟨rfl, m, rfl⟩
        refine ⟨rfl, ?_, ?_, ?_⟩
        · unfold Ended
          rw [hD, hC]
          refine ⟨?_, ?_, ?_, ?_, ?_, ?_, ?_, ?_, ?_, ?_, fun k hk => ?_, fun k hk => ?_⟩
          case refine_11 => simp [World.cell?_setCell_other, hrt.symm, hrr.symm, rt0 k hk]
          case refine_12 =>
            have := hrow k hk
            simp [World.cell?_setCell_other, hrb.symm, this]
          all_goals simp [World.cell?_setCell_other, World.cell?_setCell_same', hrb, s0, s1, s2, s3, s4, s5, s6, s7, s8, s9]
        · exact ((((((Only.refl (fun k => k = b ∨ k = rb) w).setCell (q := ⟨rb, i, none⟩) (.inr rfl) _).setCell (.inl rfl) _).setCell (.inl rfl) _).setCell (.inl rfl) _).setCell (.inl rfl) _).drewN m
        · intro a ha ho
          obtain ⟨ab, ao, sp⟩ := a
          simp only at ha ho
          subst ha
          simp only [World.cell?_drewN]
          rw [World.cell?_setCell_other _ _ _ _ (by simp <;> omega), World.cell?_setCell_other _ _ _ _ (by simp <;> omega), World.cell?_setCell_other _ _ _ _ (by simp <;> omega), World.cell?_setCell_other _ _ _ _ (by simp <;> omega), World.cell?_setCell_other _ _ _ _ (by simp [hrb])]
      · have hD : outD started lk r0 size = false := by unfold outD; simp [hC, c3]
        refine (re_new b o rb n i lk started r0 size now w hi c1 (by simpa using c2) hrb.symm s0 (by simp; omega) s3 s5 s6 s7 hr hf hfb).mono ?_
        rintro e w' ⟨rfl, m, rfl⟩
        refine ⟨rfl, ?_, ?_, ?_⟩
        · unfold Ended
          rw [hD, hC]
          refine ⟨?_, ?_, ?_, ?_, ?_, ?_, ?_, ?_, ?_, ?_, fun k hk => ?_, fun k hk => ?_⟩
          case refine_11 => simp [World.cell?_setCell_other, hrt.symm, hrr.symm, rt0 k hk]
          case refine_12 =>
            have := hrow k hk
            simp [World.cell?_setCell_other, hrb.symm, this]
          all_goals simp [World.cell?_setCell_other, World.cell?_setCell_same', hrb, s0, s1, s2, s3, s4, s5, s6, s7, s8, s9]
        · exact (((Only.refl (fun k => k = b ∨ k = rb) w).setCell (q := ⟨rb, i, none⟩) (.inr rfl) _).setCell (.inl rfl) _).drewN m
        · intro a ha ho
          obtain ⟨ab, ao, sp⟩ := a
          simp only at ha ho
          subst ha
          simp only [World.cell?_drewN]
          rw [World.cell?_setCell_other _ _ _ _ (by simp <;> omega), World.cell?_setCell_other _ _ _ _ (by simp [hrb])]
end Go.Proofs.Ybulkbpmg
