/-
  YbulkbpmgTell: teller.tell with one event waiting.
-/
import Derived.Test.YbulkbpmgLog
namespace Go.Proofs.Ybulkbpmg
open Go.RowKit Go.MuLone
set_option linter.unusedVariables false
set_option linter.unusedSimpArgs false
theorem evtLie_alloc (w : World) (ob : Obj) (b o : Nat) (h : b < w.heap.size) : EvtLie (w.alloc ob) b o ↔ EvtLie w b o := by
  unfold EvtLie World.rangeAt
  simp only [World.cell?_alloc_past _ _ _ h]
theorem evtLie_setCell (w : World) (a : Addr) (v : Value) (b o : Nat) (h : a.block ≠ b) : EvtLie (w.setCell a v) b o ↔ EvtLie w b o := by
  unfold EvtLie World.rangeAt
  have : ∀ j, (w.setCell a v).cell? ⟨b, o + j, none⟩ = w.cell? ⟨b, o + j, none⟩ := fun j => World.cell?_setCell_other _ _ _ _ (by rintro rfl; exact h rfl)
  simp only [this]
theorem evtAt_setCell (w : World) (a : Addr) (v : Value) (b o : Nat) (h : a.block ≠ b) : evtAt (w.setCell a v) b o = evtAt w b o := by
  have : ∀ j, (w.setCell a v).cell? ⟨b, j, none⟩ = w.cell? ⟨b, j, none⟩ := fun j => World.cell?_setCell_other _ _ _ _ (by rintro rfl; exact h rfl)
  simp only [evtAt, intAt, strAt, this]
theorem evtLie_drewN (w : World) (n b o : Nat) : EvtLie (w.drewN n) b o ↔ EvtLie w b o := Iff.rfl
theorem evtLie_drew (w : World) (b o : Nat) : EvtLie w.drew b o ↔ EvtLie w b o := Iff.rfl
theorem evtAt_drewN (w : World) (n b o : Nat) : evtAt (w.drewN n) b o = evtAt w b o := rfl
theorem evtAt_drew (w : World) (b o : Nat) : evtAt w.drew b o = evtAt w b o := rfl
attribute [local go_sem] evtLie_drewN evtLie_drew evtAt_drewN evtAt_drew evtLie_setCell evtAt_setCell evtLie_alloc setCell_drewN alloc_drewN setCells_drewN setCells_drew setCells_alloc_at setCells_alloc_past there_new there_past Evt.size Evt.len run_load88 run_store88 run_bsl85 evtLie_new evtAt_new
attribute [local go_sem ↓] zero88 load88_in store88_in bsl85_in

/-- The teller, ready: its cells. -/
structure Tel (w : World) (T L E : Nat) : Prop where
  c0 : w.cell? ⟨T, 0, none⟩ = some (.func (.func 11) #[] #[.pointer (some ⟨L, 0, none⟩)])
  c1 : w.cell? ⟨T, 1, none⟩ = some (.func (.func 12) #[] #[])
  c2 : w.cell? ⟨T, 2, none⟩ = some (.int .i32 0)
  c6 : w.cell? ⟨T, 6, none⟩ = some (.bool false)
  c7 : w.cell? ⟨T, 7, none⟩ = some (.map (some E))
  fz : ∀ k, w.frozen? ⟨T, k, none⟩ = false
  fl : w.frozen? ⟨L, 0, none⟩ = false

theorem Tel.only {p : Nat → Prop} {w w' : World} {T L E : Nat} (h : Tel w T L E) (hO : Only p w w') (hT : ¬ p T) (hL : ¬ p L) (hl : L < w.heap.size) : Tel w' T L E :=
  have hT' : T < w.heap.size := World.block_lt_of_cell? _ _ h.c0
  ⟨hO.cell hT h.c0, hO.cell hT h.c1, hO.cell hT h.c2, hO.cell hT h.c6, hO.cell hT h.c7, fun k => (hO.frozen ⟨T, k, none⟩ hT').trans (h.fz k), (hO.frozen ⟨L, 0, none⟩ hl).trans h.fl⟩
theorem Tel.set {w : World} {T L E : Nat} (h : Tel w T L E) (k : Nat) (hk : k = 4 ∨ k = 5) (v : Value) : Tel (w.setCell ⟨T, k, none⟩ v) T L E :=
  have cc : ∀ {j : Nat} {u : Value}, j ≠ k → w.cell? ⟨T, j, none⟩ = some u → (w.setCell ⟨T, k, none⟩ v).cell? ⟨T, j, none⟩ = some u := fun hj hu => by
    rw [World.cell?_setCell_other _ _ _ _ (by simp <;> omega)]; exact hu
  ⟨cc (by omega) h.c0, cc (by omega) h.c1, cc (by omega) h.c2, cc (by omega) h.c6, cc (by omega) h.c7, fun j => by rw [World.frozen?_setCell]; exact h.fz j, by rw [World.frozen?_setCell]; exact h.fl⟩

def waits (w : World) (T : Nat) : Nat := match w.cell? ⟨T, 4, none⟩ with | some (.slice _ n _) => n | _ => 0

set_option maxRecDepth 100000 in
set_option maxHeartbeats 1000000 in
theorem tell_one (T L E g cap : Nat) (e : Evt) (es : List Evt) (lb : Option Nat) (v5 : Value) (w : World) (h : Tel w T L E) (h4 : w.cell? ⟨T, 4, none⟩ = some (.slice (some ⟨g, 0, none⟩) 1 cap)) (hg : w.rangeAt g 0 e.cells.toList) (h5 : w.cell? ⟨T, 5, none⟩ = some v5) (hlog : LogAt w L es lb) (hTL : T ≠ L) (hlb : lb ≠ some T) (hes : es.length ≤ 10) (hgT : T ≠ g) :
    Calls Yba.prog 43 #[.pointer (some ⟨T, 0, none⟩)] w fun r w' => r = .returned (.tuple #[]) ∧ Tel w' T L E ∧ w'.cell? ⟨T, 4, none⟩ = some (.slice none 0 0) ∧ w'.cell? ⟨T, 5, none⟩ = some (.bool false) ∧
      ∃ g', LogAt w' L (es ++ [e]) (some g') ∧ (some g' = lb ∨ w.heap.size ≤ g') ∧ Only (fun q => q = T ∨ q = L ∨ some q = lb) w w' := by
  go_enter Yba.func43, Yba.ntmps43
  go_wp2
  go_loopw [3] (fun _ wr => Tel wr T L E ∧ (∃ v, wr.cell? ⟨T, 5, none⟩ = some v) ∧ ((waits wr T = 1 ∧ wr = w) ∨ (waits wr T = 0 ∧ (∃ a c, wr.cell? ⟨T, 4, none⟩ = some (.slice a 0 c)) ∧ ∃ g', LogAt wr L (es ++ [e]) (some g') ∧ (some g' = lb ∨ w.heap.size ≤ g') ∧ g' ≠ T ∧ Only (fun q => q = T ∨ q = L ∨ some q = lb) w wr))) (fun _ wr => waits wr T)
  case atStart => exact ⟨h, ⟨_, h5⟩, .inl ⟨by simp [waits, h4], rfl⟩⟩
  case round =>
    obtain ⟨tel, ⟨v, hv⟩, hst⟩ := hrel
    rcases hst with ⟨hw1, rfl⟩ | ⟨hw0, ⟨a, c, ha⟩, g', hl', hg', hgT', hO⟩
    · have c2 := tel.c2
      have f2 := tel.fz 2
      have c0 := tel.c0
      have f4 := tel.fz 4
      have bT : T < wr.heap.size := World.block_lt_of_cell? _ _ c2
      have bg : g < wr.heap.size := World.block_lt_of_cell? _ _ (hg 0 _ (List.getElem?_eq_getElem (by rw [Evt.len]; decide)))
      have evl : EvtLie wr g 0 := ⟨e, hg⟩
      have eva : evtAt wr g 0 = e := evtAt_of hg
      have TEL := hideP tel
      have LOG := hideP hlog
      have HG := hideP hg
      clear tel hlog hg h
      go_wp2_with (go_at_call 17; refine (lock_free Yba.muLib ⟨T, 2, none⟩ _ c2 f2).mono ?_; rintro e w' ⟨rfl, rfl⟩)
      all_goals (
        refine (unlock_held Yba.muLib ⟨T, 2, none⟩ _ (by go_simp) (by go_simp)).mono ?_
        rintro e6 w6 ⟨rfl, hw6⟩
        have O6 : Only (fun q => q = T) wr w6 := by
          rw [hw6]
          exact Only.setCell (p := fun q => q = T) (Only.alloc (Only.setCell (p := fun q => q = T) (Only.setCell (p := fun q => q = T) (Only.refl _ _) (q := ⟨T, 2, none⟩) rfl _) (q := ⟨T, 4, none⟩) rfl _) _) (q := ⟨T, 2, none⟩) rfl _
        have log6 : LogAt w6 L es lb := LOG.out.only O6 (fun h => hTL h.symm) (fun q hq h => hlb (by rw [hq, h]))
        have f6 : w6.frozen? ⟨L, 0, none⟩ = false := by
          have hL : L < wr.heap.size := by
            have := LOG.out
            cases lb with
            | none => exact World.block_lt_of_cell? _ _ this.1
            | some q => obtain ⟨_, h1, _⟩ := this; exact World.block_lt_of_cell? _ _ h1
          exact (O6.frozen ⟨L, 0, none⟩ hL).trans TEL.out.fl
        have d0 : w6.cell? ⟨T, 0, none⟩ = some (.func (.func 11) #[] #[.pointer (some ⟨L, 0, none⟩)]) := by rw [hw6]; go_simp
        have d2 : w6.cell? ⟨T, 2, none⟩ = some (.int .i32 0) := by rw [hw6]; go_simp
        have el6 : EvtLie w6 wr.heap.size 0 := by rw [hw6]; rw [evtLie_setCell _ _ _ _ _ (by simp; omega)]; exact (evtLie_new _ _ _ _ (by simp)).2 trivial
        have ea6 : evtAt w6 wr.heap.size 0 = e := by rw [hw6]; rw [evtAt_setCell _ _ _ _ _ (by simp; omega)]; exact evtAt_new _ _ _ _ (by simp)
        have t1 := TEL.out.c1
        have t6 := TEL.out.c6
        have t7 := TEL.out.c7
        have tel6 : Tel w6 T L E := ⟨d0, by rw [hw6]; go_simp, d2, by rw [hw6]; go_simp, by rw [hw6]; go_simp, fun k => (O6.frozen ⟨T, k, none⟩ bT).trans (TEL.out.fz k), f6⟩
        have d4 : ∃ a c, w6.cell? ⟨T, 4, none⟩ = some (.slice a 0 c) := ⟨_, _, by rw [hw6]; go_simp; exact ⟨rfl, rfl⟩⟩
        have d5 : w6.cell? ⟨T, 5, none⟩ = some v := by rw [hw6]; go_simp
        have hL6 : L < w6.heap.size := by
          have h6 := log6
          cases lb with
          | none => exact World.block_lt_of_cell? _ _ h6.1
          | some q => obtain ⟨_, h1, _⟩ := h6; exact World.block_lt_of_cell? _ _ h1
        have HT6 := hideP tel6
        have HD4 := hideP d4
        have HD5 := hideP d5
        clear t1 t6 t7 tel6 d4 d5
        have HW6 := hideP hw6
        have HO6 := hideP O6
        have HLOG6 := hideP (log6.only (p := fun _ => False) (Only.refl _ _).drew (by simp) (by simp))
        clear hw6 O6 log6
        go_wp2
        go_region_with (go_at_call 11; refine (log_any L es lb e w6.drew HLOG6.out f6 hes).mono ?_; rintro e7 w7 ⟨rfl, g7, l7, q7, o7⟩)
        all_goals (
          have L7 := hideP l7
          have Q7 := hideP q7
          have OO7 := hideP o7
          clear l7 q7 o7
          go_wp2
          go_roundw
          case rel =>
            have nT : ¬ (T = L ∨ some T = lb) := fun h => h.elim hTL (fun h => hlb h.symm)
            have tel6 := HT6.out
            obtain ⟨a, c, d4⟩ := HD4.out
            have e4 : w7.cell? ⟨T, 4, none⟩ = some (.slice a 0 c) := OO7.out.cell nT d4
            have hTw : T < w6.heap.size := World.block_lt_of_cell? _ _ d4
            have o7 := OO7.out
            have q7 := Q7.out
            have l7 := L7.out
            refine ⟨⟨o7.cell nT tel6.c0, o7.cell nT tel6.c1, o7.cell nT tel6.c2, o7.cell nT tel6.c6, o7.cell nT tel6.c7, fun k => (o7.frozen ⟨T, k, none⟩ hTw).trans (tel6.fz k), (o7.frozen ⟨L, 0, none⟩ hL6).trans tel6.fl⟩, ⟨v, o7.cell nT HD5.out⟩, .inr ⟨by simp [waits, e4], ⟨a, c, e4⟩, g7, l7, ?_, ?_, ?_⟩⟩
            · exact q7.imp id (fun h => Nat.le_trans HO6.out.size h)
            · rintro rfl
              rcases q7 with h | h
              · exact hlb h.symm
              · exact absurd hTw (Nat.not_lt.2 h)
            · exact (HO6.out.weaken (fun q _ h => .inl h)).trans ((Only.refl _ w6).drew.trans (o7.weaken (fun q _ h => .inr h)))
          case measure =>
            obtain ⟨a, c, d4⟩ := HD4.out
            have nT : ¬ (T = L ∨ some T = lb) := fun h => h.elim hTL (fun h => hlb h.symm)
            have e4 : w7.cell? ⟨T, 4, none⟩ = some (.slice a 0 c) := OO7.out.cell nT d4
            simp [waits, e4, h4]))
    · have c2 := tel.c2
      have f2 := tel.fz 2
      have f4 := tel.fz 4
      have f5 := tel.fz 5
      have bT : T < wr.heap.size := World.block_lt_of_cell? _ _ c2
      have TEL := hideP tel
      have LOG := hideP hl'
      have HOO := hideP hO
      have HG' := hideP hg'
      clear tel hl' hO hg' h hlog hg
      go_wp2_with (go_at_call 17; refine (lock_free Yba.muLib ⟨T, 2, none⟩ _ c2 f2).mono ?_; rintro e w' ⟨rfl, rfl⟩)
      refine (unlock_held Yba.muLib ⟨T, 2, none⟩ _ (by go_simp) (by go_simp)).mono ?_
      rintro e6 w6 ⟨rfl, hw6⟩
      have O6 : Only (fun q => q = T) wr w6 := by
        rw [hw6]
        exact Only.setCell (p := fun q => q = T) (Only.setCell (p := fun q => q = T) (Only.setCell (p := fun q => q = T) (Only.setCell (p := fun q => q = T) (Only.refl _ _) (q := ⟨T, 2, none⟩) rfl _) (q := ⟨T, 4, none⟩) rfl _) (q := ⟨T, 5, none⟩) rfl _) (q := ⟨T, 2, none⟩) rfl _
      have t0 := TEL.out.c0
      have t1 := TEL.out.c1
      have t6 := TEL.out.c6
      have t7 := TEL.out.c7
      have hL : L < wr.heap.size := by obtain ⟨_, h1, _⟩ := LOG.out; exact World.block_lt_of_cell? _ _ h1
      have tel6 : Tel w6 T L E := ⟨by rw [hw6]; go_simp, by rw [hw6]; go_simp, by rw [hw6]; go_simp, by rw [hw6]; go_simp, by rw [hw6]; go_simp, fun k => (O6.frozen ⟨T, k, none⟩ bT).trans (TEL.out.fz k), (O6.frozen ⟨L, 0, none⟩ hL).trans TEL.out.fl⟩
      have d4 : w6.cell? ⟨T, 4, none⟩ = some (.slice none 0 0) := by rw [hw6]; go_simp
      have d5 : w6.cell? ⟨T, 5, none⟩ = some (.bool false) := by rw [hw6]; go_simp
      have HT6 := hideP tel6
      have HD4 := hideP d4
      have HD5 := hideP d5
      have HO6 := hideP O6
      clear t0 t1 t6 t7 tel6 d4 d5 O6 hw6
      go_wp2
      refine bodyPost_ret (v := .tuple #[]) (results_none rfl _ _ _) rfl ?_
      exact ⟨rfl, HT6.out, HD4.out, HD5.out, g', LOG.out.only HO6.out (fun h => hTL h.symm) (fun q hq h => hgT' (by cases hq; exact h)), HG'.out, HOO.out.trans (HO6.out.weaken (fun q _ h => .inl h))⟩
end Go.Proofs.Ybulkbpmg
