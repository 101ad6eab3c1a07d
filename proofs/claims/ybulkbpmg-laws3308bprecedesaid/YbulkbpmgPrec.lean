/-
  YbulkbpmgPrec: Node.Precede.
-/
import Derived.Test.YbulkbpmgSet
import Derived.Deep.RegionHeld3
namespace Go.Proofs.Ybulkbpmg
open Go.RowKit Go.MuLone
set_option linter.unusedVariables false
set_option linter.unusedSimpArgs false
attribute [local go_sem] run_bsl45 setCell_drewN alloc_drewN setCells_drewN setCells_drew setCells_alloc_at setCells_alloc_past there_new there_past idA_size prA_size idA_len prA_len run_load29 run_load31 run_store29 run_store31 run_build31 idLie_alloc prLie_alloc idLie_new prLie_new idLie_prnew idLie_drewN prLie_drewN idLie_drew prLie_drew idA0 idA1 prA0 prA1 prA20 idA_0 idA_1 prA_0 prA_1 prA_20 intAt strAt oInt_int oStr_string
attribute [local go_sem ↓] bsl45_in zero31 zero29 load29_in load31_in store29_in store31_in build31_in

theorem extK_head (sf rr : Int) : ∀ (ks acc : List Int) (p : Int), ∃ tl, extK sf rr (p :: acc) ks = p :: tl
  | [], acc, p => ⟨acc, rfl⟩
  | k :: ks, acc, p => by
    rw [extK]
    split
    · exact ⟨acc, rfl⟩
    · split
      · exact extK_head sf rr ks acc p
      · exact extK_head sf rr ks (acc ++ [k]) p
theorem extK_wf {sf rr : Int} : ∀ (ks acc : List Int), (∀ j ∈ acc, (Lit.int .u8 j).wf = true) → (∀ j ∈ ks, (Lit.int .u8 j).wf = true) → ∀ j ∈ extK sf rr acc ks, (Lit.int .u8 j).wf = true
  | [], acc, h, _ => h
  | k :: ks, acc, h, h' => by
    rw [extK]
    split
    · exact h
    · refine extK_wf ks _ ?_ (fun j hj => h' j (List.mem_cons_of_mem _ hj))
      split
      · exact h
      · intro j hj
        rcases List.mem_append.1 hj with hj | hj
        · exact h j hj
        · simp at hj; subst hj; exact h' _ (List.mem_cons_self ..)
theorem prow_head {w : World} {g : Nat} {k : Int} {ks : List Int} (h : PRow w g 0 (k :: ks)) : w.rangeAt g 0 (prA k xS).toList := by
  have := h 0 k rfl
  simpa using this
theorem Only.prow {p : Nat → Prop} {w w' : World} (h : Only p w w') {g o : Nat} {ks : List Int} (hg : ¬ p g) (hr : PRow w g o ks) : PRow w' g o ks := fun i k hk => h.range hg (hr i k hk)

theorem row_new (w : World) (p : Int) : Row (w.alloc (.cells (prA p xS) 31)) w.heap.size 0 1 1 21 (prs [p]) := by
  have e : prs [p] = (prA p xS).toList := by simp [prs]
  refine ⟨by rw [prs_len]; rfl, Nat.le_refl _, by rw [e]; exact range_new w (prA p xS) 31 _ rfl, fun j hj => ?_, prs_one [p]⟩
  rw [World.cell?_alloc_at _ _ _ _ rfl, World.frozen?_alloc_at _ _ _ _ rfl]
  refine ⟨?_, rfl⟩
  have : j < (prA p xS).size := by rw [prA_size]; omega
  simp [this]
theorem opn_ne {x a b : Int} (h : opn x a b = true) : x ≠ b := by
  rintro rfl
  unfold opn at h
  split at h
  · simp at h <;> omega
  · split at h
    · simp at h <;> omega
    · simp at h <;> omega

/-- What Precede leaves. -/
structure After (w w' : World) (N S T D C L E : Nat) (sf rr h1 p k0 : Int) (ks : List Int) (b2 b3 tk : Bool) (S' n' c' : Nat) (lb' : Option Nat) : Prop where
  nod : Nod w' N S' T D C n' c' sf rr 0 h1 (if tk then 1 else 0)
  row : PRow w' S' 0 (if tk then extK sf rr [p] (k0 :: ks) else k0 :: ks)
  len : (if tk then extK sf rr [p] (k0 :: ks) else k0 :: ks).length = n'
  dead : MapAt w' D (deadL false p)
  call : MapAt w' C (callL b2 p h1)
  tel : TelS w' T L E ((if b3 then [evBack p] else []) ++ (if tk then [evChg p k0] else [])) lb' []
  lb : ∀ g, lb' = some g → w.heap.size ≤ g
  only : Only (fun q => q = N ∨ q = D ∨ q = C ∨ q = T ∨ q = L ∨ q = E) w w'

set_option maxRecDepth 100000 in
set_option maxHeartbeats 6000000 in
theorem prec_walk (N S T D C L E n c : Nat) (sf rr hr p k0 : Int) (ks : List Int) (b1 b2 b3 : Bool) (w : World) (p0 : 0 ≤ p) (p1 : p ≤ 255) (s0 : 0 ≤ sf) (s1 : sf ≤ 255) (hks : ∀ j ∈ k0 :: ks, 0 ≤ j ∧ j ≤ 255) (hn : (k0 :: ks).length = n) (hm : n ≤ 2000) (h : Nod w N S T D C n c sf rr 0 hr 0) (hrow : PRow w S 0 (k0 :: ks)) (hD : MapAt w D (deadL b1 p)) (hC : MapAt w C (callL b2 p 0)) (hT : TelS w T L E [] none (told b3 p))
    (o0 : S < D) (o1 : D < C) (o2 : C < L) (o3 : L < E) (o4 : E < T) (o5 : T < N) :
    Calls Yba.prog 13 #[.pointer (some ⟨N, 0, none⟩), .agg (prA p xS)] w fun r w' => r = .returned (.tuple #[]) ∧ ∃ S' n' c' lb', After w w' N S T D C L E sf rr (IntKind.u64.wrap (hr + 1)) p k0 ks b2 b3 (opn p sf k0) S' n' c' lb' := by
  have hp := wf_u8 p0 p1
  have mu := h.mu
  have fm := h.fz 28
  have bN := h.lt
  have oA : Only (fun _ => False) w (w.alloc (.cells (prA p xS) 31)) := Only.alloc (Only.refl _ _) _
  have mu' := oA.cell (by simp) mu
  have fm' := (oA.frozen ⟨N, 28, none⟩ bN).trans fm
  have oW : Only (fun q => q = N) w ((w.setCell ⟨N, 28, none⟩ (.int .i32 1)).alloc (.cells (prA p xS) 31)) := Only.alloc (Only.setCell (p := fun q => q = N) (Only.refl _ _) (q := ⟨N, 28, none⟩) rfl _) _
  have n1 : Nod ((w.setCell ⟨N, 28, none⟩ (.int .i32 1)).alloc (.cells (prA p xS) 31)) N S T D C n c sf rr 1 hr 0 := (h.setMu 1).only (p := fun _ => False) (Only.alloc (Only.refl _ _) _) (by simp)
  have r1 : ((w.setCell ⟨N, 28, none⟩ (.int .i32 1)).alloc (.cells (prA p xS) 31)).rangeAt w.heap.size 0 (prA p xS).toList := range_new _ (prA p xS) 31 _ (by simp)
  have sz : ((w.setCell ⟨N, 28, none⟩ (.int .i32 1)).alloc (.cells (prA p xS) 31)).heap.size = w.heap.size + 1 := by simp
  have H := hideP h
  have HROW := hideP hrow
  have HD := hideP hD
  have HC := hideP hC
  have HT := hideP hT
  have OW := hideP oW
  have N1 := hideP n1
  have R1 := hideP r1
  have HKS := hideP hks
  clear h hrow hD hC hT oA oW n1 r1 hks
  go_enter_defers Yba.func13, Yba.ntmps13
  go_wp2_with (go_at_call 17; refine (lock_free Yba.muLib ⟨N, 28, none⟩ _ mu' fm').mono ?_; rintro e w' ⟨rfl, rfl⟩)
  generalize ((w.setCell ⟨N, 28, none⟩ (.int .i32 1)).alloc (.cells (prA p xS) 31)) = W1 at *
  refine (hearl_walk N S T D C L E n c sf rr 1 hr 0 p b1 b2 b3 W1 hp N1.out (HD.out.only OW.out (by omega)) (HC.out.only OW.out (by omega)) (HT.out.only OW.out (by omega) (by omega) (by omega) (by simp)) o1 o2 o3 o4 o5).mono ?_
  rintro e w2 ⟨rfl, lb2, n2, d2, c2, t2, l2, O2⟩
  have k00 := HKS.out k0 (List.mem_cons_self ..)
  have k01 := k00.2
  replace k00 := k00.1
  obtain ⟨tk, htk⟩ : ∃ tk, Hid (tk = opn p sf k0) := ⟨_, rfl⟩
  generalize hh : IntKind.u64.wrap (hr + 1) = h1 at n2 c2
  have HH := hideP hh
  clear hh
  have r2 := O2.range (by omega) R1.out
  have row2 := O2.prow (by omega) (OW.out.prow (by omega) HROW.out)
  have oo : Only (fun q => q = N ∨ q = D ∨ q = C ∨ q = T ∨ q = L ∨ q = E) w w2 := (OW.out.weaken (fun q _ h => .inl h)).trans O2
  have l2' : ∀ g, lb2 = some g → w.heap.size ≤ g ∧ g < w2.heap.size := fun g hg => ⟨by have := l2 g hg; omega, by have := t2.log; subst hg; obtain ⟨_, _, _, _, h4⟩ := this; exact h4⟩
  obtain ⟨i1, e1, e2⟩ := id_facts (pr_id r2)
  obtain ⟨i2, e3, e4⟩ := id_facts (pr_id n2.me)
  obtain ⟨i3, e5, e6⟩ := id_facts (pr_id (prow_head row2))
  have cs := n2.succs
  have bN2 := n2.lt
  have bw2 : w.heap.size < w2.heap.size := World.block_lt_of_cell? _ _ e1
  have bS2 : S < w2.heap.size := World.block_lt_of_cell? _ _ e5
  have n0 : (0 : Int) < (n : Int) := by simp at hn; omega
  have NN := hideP n2
  have DD := hideP d2
  have CC := hideP c2
  have TT := hideP t2
  have LL := hideP l2'
  have RR := hideP r2
  have ROW := hideP row2
  have OO := hideP oo
  have SW : Hid (∀ w', Calls Yba.prog 20 #[.agg (idA p 0), .agg (idA sf 0), .agg (idA k0 0)] w' fun e w'' => e = .returned (.bool tk) ∧ Below w'.heap.size w' w'') := by
    intro w'
    rw [htk.out]
    exact strictly_walk p sf k0 p0 p1 s0 s1 k00 k01 w'
  clear n2 d2 c2 t2 l2 l2' r2 row2 oo O2 N1 R1 OW HD HC HT sz mu fm mu' fm'
  go_wp2_with fail
  go_cut [28] from 14 (fun s28 wd => s28 = .bool tk ∧ Only (fun _ => False) w2 wd)
  case first =>
    refine wp_region_noPanic ?_
    go_region_with (go_at_call 20; refine (SW.out _).mono ?_; rintro e w3 ⟨rfl, bel⟩)
    all_goals (
      refine NoPanic.normal ?_
      have BEL := hideP bel
      clear bel
      go_wp2_with fail
      go_meet
      case rel => exact ⟨rfl, (Only.refl _ w2).drew.trans (Only.of_below BEL.out)⟩)
  case rest =>
    obtain ⟨rfl, hO⟩ := hcut
    cases tk
    · have n3 := NN.out.only hO (by simp)
      have m3 := n3.mu
      have f3 := n3.fz 28
      have d3 := DD.out.only hO (by simp)
      have c3 := CC.out.only hO (by simp)
      have t3 := TT.out.only hO (by simp) (by simp) (by simp) (by simp)
      have row3 := hO.prow (by simp) ROW.out
      have oo3 := OO.out.trans (hO.weaken (by simp))
      have NN3 := hideP n3
      have DD3 := hideP d3
      have CC3 := hideP c3
      have TT3 := hideP t3
      have ROW3 := hideP row3
      have OO3 := hideP oo3
      clear n3 d3 c3 t3 row3 oo3 hO
      go_wp2
      refine leaves_cons (f := 18) (args := #[.pointer (some ⟨N, 28, none⟩)]) (by simp) (by simp [go_sem]) ?_
      refine (unlock_deferred Yba.muLib ⟨N, 28, none⟩ .returning _ m3 f3).mono ?_
      rintro e u' w'' ⟨rfl, rfl, rfl⟩
      refine ⟨_, results_none rfl _ _ _, rfl, S, n, c, lb2, ?_⟩
      have oN : Only (fun q => q = N) wc (wc.setCell ⟨N, 28, none⟩ (.int .i32 0)) := Only.setCell (p := fun q => q = N) (Only.refl _ _) (q := ⟨N, 28, none⟩) rfl _
      rw [← htk.out, HH.out]
      refine ⟨NN3.out.setMu 0, oN.prow (by omega) ROW3.out, hn, DD3.out.only oN (by omega), CC3.out.only oN (by omega), ?_, fun g hg => (LL.out g hg).1, OO3.out.trans (oN.weaken (fun q _ h => .inl h))⟩
      simp only [Bool.false_eq_true, if_false, List.append_nil]
      exact TT3.out.only oN (by omega) (by omega) (by omega) (fun g hg => by have := (LL.out g hg).1; omega)
    · have n3 := NN.out.only hO (by simp)
      have d3 := DD.out.only hO (by simp)
      have c3 := CC.out.only hO (by simp)
      have t3 := TT.out.only hO (by simp) (by simp) (by simp) (by simp)
      have r3 := hO.range (by simp) RR.out
      have row3 := hO.prow (by simp) ROW.out
      have oo3 := OO.out.trans (hO.weaken (by simp))
      obtain ⟨q1, a1, a2⟩ := pr_facts r3
      have cs3 := n3.succs
      have bN3 := n3.lt
      have bw3 : w.heap.size < wc.heap.size := World.block_lt_of_cell? _ _ a1
      have bS3 : S < wc.heap.size := by omega
      have NN3 := hideP n3
      have DD3 := hideP d3
      have CC3 := hideP c3
      have TT3 := hideP t3
      have ROW3 := hideP row3
      have OO3 := hideP oo3
      clear n3 d3 c3 t3 r3 row3 oo3 i1 e1 e2 i2 e3 e4 i3 e5 e6 cs
      have hwf : ∀ j ∈ k0 :: ks, (Lit.int .u8 j).wf = true := fun j hj => wf_u8 (HKS.out j hj).1 (HKS.out j hj).2
      have oB : Only (fun _ => False) wc (wc.alloc (.cells (prA p xS) 31)).drew := (Only.alloc (Only.refl _ _) _).drew
      have szB : (wc.alloc (.cells (prA p xS) 31)).drew.heap.size = wc.heap.size + 1 := World.size_alloc _ _
      have nB := NN3.out.only oB (by simp)
      have X22 := hideP (ext_walk N S 0 n c wc.heap.size sf rr p (k0 :: ks) (wc.alloc (.cells (prA p xS) 31)).drew hp (wf_u8 s0 s1) hwf hn hm nB.me nB.r (oB.prow (by simp) ROW3.out) ⟨(row_new wc p).len, (row_new wc p).le, (row_new wc p).at', (row_new wc p).there, (row_new wc p).one⟩ bN3 bS3 (by omega))
      have K21 : Hid (∀ (g m cap : Nat) (w3 : World), Row w3 g 0 m cap 21 (prs (extK sf rr [p] (k0 :: ks))) → (extK sf rr [p] (k0 :: ks)).length = m → wc.heap.size ≤ g → g < w3.heap.size → Only (fun q => wc.heap.size ≤ q) (wc.alloc (.cells (prA p xS) 31)).drew w3 →
          Calls Yba.prog 21 #[.pointer (some ⟨N, 0, none⟩), .slice (some ⟨g, 0, none⟩) m cap] w3 fun r wd => r = .returned (.tuple #[]) ∧ (∃ S' n' c' g', Nod wd N S' T D C n' c' sf rr 1 h1 0 ∧ PRow wd S' 0 (extK sf rr [p] (k0 :: ks)) ∧ (extK sf rr [p] (k0 :: ks)).length = n' ∧ MapAt wd D (deadL false p) ∧ MapAt wd C (callL b2 p h1) ∧ TelS wd T L E ((if b3 then [evBack p] else []) ++ [evChg p k0]) (some g') [] ∧ w.heap.size ≤ g' ∧ N < S' ∧ Only (fun q => q = N ∨ q = D ∨ q = C ∨ q = T ∨ q = L ∨ q = E) w wd)) := by
        intro g m cap w3 hrow hlen hge hlt hO3
        obtain ⟨tl, htl⟩ := extK_head sf rr (k0 :: ks) [] p
        have o3 : Only (fun q => wc.heap.size ≤ q) wc w3 := (oB.weaken (by simp)).trans hO3
        have prw := prow_of hrow.at'
        have hm0 : 0 < m := by rw [← hlen, htl]; simp
        have hlb : ∀ x, lb2 = some x → w.heap.size ≤ x ∧ x < wc.heap.size := fun x hx => ⟨(LL.out x hx).1, Nat.lt_of_lt_of_le (LL.out x hx).2 hO.size⟩
        refine (setl_walk N S T D C L E n c g m cap sf rr 1 h1 0 p k0 (if b3 then [evBack p] else []) lb2 [] w3 hp (wf_u8 k00 k01) (NN3.out.only o3 (by omega)) (TT3.out.only o3 (by omega) (by omega) (by omega) (fun x hx => by have := hlb x hx; omega)) (by rw [← hn]; simp) hm0 (prow_head (o3.prow (by omega) ROW3.out)) (by rw [htl] at prw; exact prow_head prw) (opn_ne htk.out.symm) (by split <;> simp) (by omega) (by omega) (fun e => by have := (hlb N e).1; omega) (by omega)).mono ?_
        rintro r w4 ⟨rfl, g', n4, t4, q4, O4⟩
        have ng : ∀ x, lb2 = some x → x ≠ D ∧ x ≠ C ∧ x ≠ g := fun x hx => by have := hlb x hx; omega
        refine ⟨rfl, g, m, cap, g', n4, O4.prow ?_ prw, hlen, (DD3.out.only o3 (by omega)).only O4 ?_, (CC3.out.only o3 (by omega)).only O4 ?_, t4, ?_, by omega, ?_⟩
        · rintro (h | h | h | h)
          · omega
          · omega
          · omega
          · exact (ng g h.symm).2.2 rfl
        · rintro (h | h | h | h)
          · omega
          · omega
          · omega
          · exact (ng D h.symm).1 rfl
        · rintro (h | h | h | h)
          · omega
          · omega
          · omega
          · exact (ng C h.symm).2.1 rfl
        · rcases q4 with h | h
          · exact (hlb g' h.symm).1
          · have := o3.size; omega
        · refine (OO3.out.andThen o3 (fun i hi h => by omega)).andThen O4 (fun i hi h => ?_)
          rcases h with h | h | h | h
          · exact .inl h
          · exact .inr (.inr (.inr (.inl h)))
          · exact .inr (.inr (.inr (.inr (.inl h))))
          · have := (hlb i h.symm).1; omega
      clear oB szB nB hwf hO
      go_wp2_with fail
      go_cut [] from 14 (fun wd => (∃ S' n' c' g', Nod wd N S' T D C n' c' sf rr 1 h1 0 ∧ PRow wd S' 0 (extK sf rr [p] (k0 :: ks)) ∧ (extK sf rr [p] (k0 :: ks)).length = n' ∧ MapAt wd D (deadL false p) ∧ MapAt wd C (callL b2 p h1) ∧ TelS wd T L E ((if b3 then [evBack p] else []) ++ [evChg p k0]) (some g') [] ∧ w.heap.size ≤ g' ∧ N < S' ∧ Only (fun q => q = N ∨ q = D ∨ q = C ∨ q = T ∨ q = L ∨ q = E) w wd))
      case first =>
        refine wp_region_noPanic ?_
        go_region_with (first | (go_at_call 22; refine X22.out.mono ?_; rintro e w3 ⟨g, m, cap, rfl, f1, f2, f3, f4, f5⟩; have X21 := hideP (K21.out g m cap w3 f1 f2 f3 f4 f5); clear f1 f2 f3 f4 f5) | (go_at_call 21; refine X21.out.mono ?_; rintro e w4 ⟨rfl, hrel⟩; have HREL := hideP hrel; clear hrel))
        all_goals (
          refine NoPanic.normal ?_
          go_wp2_with fail
          go_meet
          case rel => exact HREL.out)
      case rest =>
        obtain ⟨S', n', c', g', n4, row4, len4, d4, c4, t4, hg4, hS4, O4⟩ := hcut
        have rk := n4.relk
        have fk := n4.fz 3472
        have bN4 := n4.lt
        have N4 := hideP n4
        have ROW4 := hideP row4
        have LEN4 := hideP len4
        have D4 := hideP d4
        have C4 := hideP c4
        have T4 := hideP t4
        have O4' := hideP O4
        clear n4 row4 len4 d4 c4 t4 O4
        go_wp2
        have n5 := N4.out.setRelk 1
        refine leaves_cons (f := 18) (args := #[.pointer (some ⟨N, 28, none⟩)]) (by simp) (by simp [go_sem]) ?_
        refine (unlock_deferred Yba.muLib ⟨N, 28, none⟩ .returning _ n5.mu (n5.fz 28)).mono ?_
        rintro e u' w'' ⟨rfl, rfl, rfl⟩
        refine ⟨_, results_none rfl _ _ _, rfl, S', n', c', some g', ?_⟩
        have oN : Only (fun q => q = N) wc ((wc.setCell ⟨N, 3472, none⟩ (.int .i64 1)).setCell ⟨N, 28, none⟩ (.int .i32 0)) := Only.setCell (p := fun q => q = N) (Only.setCell (p := fun q => q = N) (Only.refl _ _) (q := ⟨N, 3472, none⟩) rfl _) (q := ⟨N, 28, none⟩) rfl _
        rw [← htk.out, HH.out]
        refine ⟨n5.setMu 0, oN.prow (by omega) ROW4.out, LEN4.out, D4.out.only oN (by omega), C4.out.only oN (by omega), ?_, fun g hg => by cases hg; exact hg4, O4'.out.trans (oN.weaken (fun q _ h => .inl h))⟩
        simp only [if_true]
        exact T4.out.only oN (by omega) (by omega) (by omega) (fun g hg => by cases hg; omega)
end Go.Proofs.Ybulkbpmg
