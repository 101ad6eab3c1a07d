/-
  YbulkbpmgLa: the law's first part: the keys.
-/
import Derived.Test.YbulkbpmgKeys
import Derived.Test.YbulkbpmgPrec
import Derived.Test.YbulkbpmgStp
import Derived.Deep.RegionLaw
import Derived.Deep.DeepCutAuto
import Derived.Carry
namespace Go.Proofs.Ybulkbpmg
open Go.RowKit Go.MuLone
set_option linter.unusedVariables false
set_option linter.unusedSimpArgs false
attribute [local go_sem] run_bsl45 setCell_drewN alloc_drewN setCells_drewN setCells_drew setCells_alloc_at setCells_alloc_past there_new there_past idA_size prA_size idA_len prA_len run_load29 run_load31 run_store29 run_store31 run_build31 idLie_alloc prLie_alloc idLie_new prLie_new idLie_prnew idLie_drewN prLie_drewN idLie_drew prLie_drew idA0 idA1 prA0 prA1 prA20 idA_0 idA_1 prA_0 prA_1 prA_20 intAt strAt oInt_int oStr_string
attribute [local go_sem ↓] bsl45_in zero31 zero29 load29_in load31_in store29_in store31_in build31_in build65_in

theorem byte_at {w : World} {K n cap i : Nat} {ks : List Int} {k : Int} (h : Row w K 0 n cap 1 (bys ks)) (hk : ks[i]? = some k) : w.cell? ⟨K, i, none⟩ = some (.int .u8 k) := by
  have := h.at' i _ (bys_get hk)
  rwa [Nat.zero_add] at this

theorem idA_set1 (k m v : Int) : (idA k m).setIfInBounds 1 (.int .u8 v) = idA k v := by simp [idA]
attribute [local go_sem] idA_set1 run_build65 run_makeMap run_build88a run_build88b run_bsl85e run_load88 evtLie_drewN evtLie_drew evtAt_drewN evtAt_drew
attribute [local go_sem ↓] build88_in bsl85_in load88_in

/-- The keys' row. -/
structure Kr (w : World) (K n cap : Nat) (ks : List Int) : Prop where
  row : Row w K 0 n cap 1 (bys ks)
  len : ks.length = n
  lt : K < w.heap.size

theorem TelS.setDead {w w' : World} {T L E : Nat} {es : List Evt} {lb : Option Nat} {tl tl' : List (Value × Value)} (h : TelS w T L E es lb tl) (hO : Only (fun q => q = E) w w') (hE : MapAt w' E tl') : TelS w' T L E es lb tl' :=
  ⟨h.tel.only hO h.tE h.lE h.log.lt, hO.cell h.tE h.c4, hO.cell h.tE h.c5, h.log.only hO h.lE (fun g hg e => h.lbE (by rw [hg, e])), hE, h.tL, h.tE, h.lE, h.lbT, h.lbE⟩
/-- The teller, as it is built. -/
theorem tels_new (w : World) : TelS (((w.alloc (.cells #[.slice none 0 0] 85)).alloc (.map #[] 0)).alloc (.cells #[.func (.func 11) #[] #[.pointer (some ⟨w.heap.size, 0, none⟩)], .func (.func 12) #[] #[], .int .i32 0, .int .u32 0, .slice none 0 0, .bool false, .bool false, .map (some (w.heap.size + 1))] 93)) (w.heap.size + 1 + 1) w.heap.size (w.heap.size + 1) [] none [] := by
  have cT : ∀ k, (((w.alloc (.cells #[.slice none 0 0] 85)).alloc (.map #[] 0)).alloc (.cells #[.func (.func 11) #[] #[.pointer (some ⟨w.heap.size, 0, none⟩)], .func (.func 12) #[] #[], .int .i32 0, .int .u32 0, .slice none 0 0, .bool false, .bool false, .map (some (w.heap.size + 1))] 93)).cell? ⟨w.heap.size + 1 + 1, k, none⟩ = #[.func (.func 11) #[] #[.pointer (some ⟨w.heap.size, 0, none⟩)], .func (.func 12) #[] #[], .int .i32 0, .int .u32 0, .slice none 0 0, .bool false, .bool false, .map (some (w.heap.size + 1))][k]? := fun k => World.cell?_alloc_at _ _ _ _ (by simp)
  have oL : Only (fun _ => False) (w.alloc (.cells #[.slice none 0 0] 85)) (((w.alloc (.cells #[.slice none 0 0] 85)).alloc (.map #[] 0)).alloc (.cells #[.func (.func 11) #[] #[.pointer (some ⟨w.heap.size, 0, none⟩)], .func (.func 12) #[] #[], .int .i32 0, .int .u32 0, .slice none 0 0, .bool false, .bool false, .map (some (w.heap.size + 1))] 93)) := ((Only.refl _ _).alloc _).alloc _
  have hL : (w.alloc (.cells #[.slice none 0 0] 85)).cell? ⟨w.heap.size, 0, none⟩ = some (.slice none 0 0) := World.cell?_alloc_at _ _ _ _ rfl
  have fL : (w.alloc (.cells #[.slice none 0 0] 85)).frozen? ⟨w.heap.size, 0, none⟩ = false := World.frozen?_alloc_at _ _ _ _ rfl
  refine ⟨⟨cT 0, cT 1, cT 2, cT 6, cT 7, fun k => World.frozen?_alloc_at _ _ _ _ (by simp), (oL.frozen ⟨w.heap.size, 0, none⟩ (by simp)).trans fL⟩, cT 4, cT 5, ⟨oL.cell (by simp) hL, rfl⟩, ?_, by omega, by omega, by omega, by simp, by simp⟩
  exact MapAt.only (p := fun _ => False) (mapAt_new (w.alloc (.cells #[.slice none 0 0] 85)) (w.heap.size + 1) (by simp)) ((Only.refl _ _).alloc _) (by simp)

/-- What the law has laid ahead of the maps. -/
structure Old (w wd : World) (K S SB PB XB n cap : Nat) (sf p : Int) (ks : List Int) : Prop where
  kr : Row wd K 0 n cap 1 (bys ks)
  row : PRow wd S 0 ks
  rS : wd.rangeAt SB 0 (prA sf xS).toList
  rP : wd.rangeAt PB 0 (prA p xS).toList
  rX : wd.rangeAt XB 0 (idA 0 1).toList
  bel : Below w.heap.size w wd
  lt : XB < wd.heap.size
  oK : w.heap.size ≤ K ∧ K < XB
  oS : w.heap.size ≤ S ∧ S < XB
  oB : SB < XB ∧ PB < XB ∧ w.heap.size ≤ XB
theorem Old.only {q : Nat → Prop} {w wd wd' : World} {K S SB PB XB n cap : Nat} {sf p : Int} {ks : List Int} (h : Old w wd K S SB PB XB n cap sf p ks) (hO : Only q wd wd') (hq : ∀ k, q k → XB < k) : Old w wd' K S SB PB XB n cap sf p ks := by
  have h1 := h.oK
  have h2 := h.oS
  have h3 := h.oB
  have h4 := h.lt
  have hn : ∀ k, k ≤ XB → ¬ q k := fun k hk hqk => by have := hq k hqk; omega
  exact ⟨h.kr.later hO (hn _ (by omega)) (by omega), hO.prow (hn _ (by omega)) h.row, hO.range (hn _ (by omega)) h.rS, hO.range (hn _ (by omega)) h.rP, hO.range (hn _ (by omega)) h.rX,
    h.bel.trans (hO.below (fun k _ hk => by have := hq k hk; omega) (by omega)), Nat.lt_of_lt_of_le h.lt hO.size, h1, h2, h3⟩

/-- The state behind Precede; every block of it lies below B. -/
structure Fin (B : Nat) (w wd : World) (K S SB PB XB N T D C L E n cap S' n' c' : Nat) (lb : Option Nat) (sf p rr h1 k0 : Int) (ks want : List Int) (b2 b3 tk : Bool) : Prop where
  old : Old w wd K S SB PB XB n cap sf p ks
  nod : Nod wd N S' T D C n' c' sf rr 0 h1 (if tk then 1 else 0)
  row : PRow wd S' 0 want
  len : want.length = n'
  dead : MapAt wd D (deadL false p)
  call : MapAt wd C (callL b2 p h1)
  tel : TelS wd T L E ((if b3 then [evBack p] else []) ++ (if tk then [evChg p k0] else [])) lb []
  bX : XB < B
  bN : N < B ∧ D < B ∧ C < B ∧ T < B ∧ L < B ∧ E < B
  bS : S' < B
  bl : ∀ g, lb = some g → g < B
  bB : B ≤ wd.heap.size
theorem Fin.only {B : Nat} {w wd wd' : World} {K S SB PB XB N T D C L E n cap S' n' c' : Nat} {lb : Option Nat} {sf p rr h1 k0 : Int} {ks want : List Int} {b2 b3 tk : Bool} (h : Fin B w wd K S SB PB XB N T D C L E n cap S' n' c' lb sf p rr h1 k0 ks want b2 b3 tk) (hO : Only (fun q => B ≤ q) wd wd') :
    Fin B w wd' K S SB PB XB N T D C L E n cap S' n' c' lb sf p rr h1 k0 ks want b2 b3 tk := by
  have h1 := h.bX
  have h2 := h.bN
  have h3 := h.bS
  exact ⟨h.old.only hO (fun k hk => by omega), h.nod.only hO (by omega), hO.prow (by omega) h.row, h.len, h.dead.only hO (by omega), h.call.only hO (by omega), h.tel.only hO (by omega) (by omega) (by omega) (fun g hg => by have := h.bl g hg; omega), h1, h2, h3, h.bl, Nat.le_trans h.bB hO.size⟩

theorem extK_len (sf rr : Int) : ∀ (ks acc : List Int), (extK sf rr acc ks).length ≤ acc.length + ks.length
  | [], acc => by simp [extK]
  | k :: ks, acc => by
    rw [extK]
    split
    · simp
    · refine Nat.le_trans (extK_len sf rr ks _) ?_
      split <;> simp <;> omega

def lenM (t ty : TypeId) (args : Array Value) : Sem Value := Builtin.len_ #[t] ty args
theorem len47_in (ty : TypeId) (args : Array Value) : Builtin.len_ #[47] ty args = lenM 47 ty args := rfl
theorem len63_in (ty : TypeId) (args : Array Value) : Builtin.len_ #[63] ty args = lenM 63 ty args := rfl
theorem run_lenM {t e ty : TypeId} {w : World} {b : Nat} {es : List (Value × Value)} (ht : Yba.prog.underlying t = some (.map 29 e)) (h : MapAt w b es) (n : Nat) (hn : es.length = n) : (lenM t ty #[.map (some b)]).run Yba.prog w = .ok (.int .i64 (n : Int)) w := by
  obtain ⟨ms, clock, hb, rfl, _⟩ := h
  simp at hn
  subst hn
  simp [lenM, Builtin.len_, run_underlying ht, MapKept.run_getObj_map hb, goInt, Result.andThen]
attribute [local go_sem ↓] len47_in len63_in

structure WkInv (B : Nat) (w3 wr : World) (sf rr : Int) (ks want : List Int) (n i g m cap : Nat) (ac : List Int) : Prop where
  le : i ≤ n
  row : Row wr g 0 m cap 1 (bys ac)
  len : ac.length = m
  ge : B ≤ g
  lt : g < wr.heap.size
  only : Only (fun q => B ≤ q) w3 wr
  ext : extK sf rr ac (ks.drop i) = want
  small : m ≤ i + 1

set_option maxRecDepth 100000 in
set_option maxHeartbeats 40000000 in
theorem la_walk (sf p r : Int) (ao : Option Addr) (n0 cap0 : Nat) (zs : List Int) (b1 b2 b3 : Bool) (hr : Int) (w : World) (hsrc : Src w ao zs) (hz : zs.length = n0) (hzw : ∀ z ∈ zs, 0 ≤ z ∧ z ≤ 255) (hn : n0 ≤ 1024)
    (s0 : 0 ≤ sf) (s1 : sf ≤ 255) (p0 : 0 ≤ p) (p1 : p ≤ 255) (r0 : 0 ≤ r) (r1 : r ≤ 255) :
    Calls Yba.prog 5 #[.int .u8 sf, .slice ao n0 cap0, .int .u8 p, .int .u8 r, .bool b1, .bool b2, .bool b3, .int .u64 hr] w fun e w' => e = .returned (.bool true) ∧ Below w.heap.size w w' := by
  have hn' : ¬ (1024 : Int) < (n0 : Int) := by omega
  have m81 := make81 (n0 + 1) (by omega)
  simp only [Int.natCast_add, Int.natCast_one] at m81
  have M81 := hideP m81
  have e81 := m81 w
  have SRC := hideP hsrc
  have ZW := hideP hzw
  clear hsrc hzw m81
  go_enter Yba.func5, Yba.ntmps5
  go_upto_region 4 with fail
  go_cut [17] from 345 (fun s17 wd => s17 = .slice (some ⟨w.heap.size, 0, none⟩) n0 (n0 + 1) ∧ Row wd w.heap.size 0 n0 (n0 + 1) 1 (bys zs) ∧ Only (fun q => q = w.heap.size) (w.alloc (.cells (madeCells #[.int .u8 0] (n0 + 1)) 5)) wd)
  case first =>
    rcases SRC.out with ⟨rfl, hz0⟩ | ⟨ad, rfl, hc⟩
    · subst hz0
      simp only [List.length_nil] at hz
      subst hz
      clear SRC ZW M81
      go_wp2_with fail
      go_meet
      case rel => exact ⟨rfl, row_room _ _ _ rfl, Only.refl _ _⟩
    · have rr0 := row_room w (n0 + 1) _ rfl
      have hc' : ∀ j u, (bys zs)[j]? = some u → (w.alloc (.cells (madeCells #[.int .u8 0] (n0 + 1)) 5)).cell? (ad.add j) = some u := fun j u h => cell_later ((Below.refl _ _).alloc (Nat.le_refl _) _) (hc j u h)
      have le1 : n0 ≤ n0 + 1 := by omega
      have le2 : n0 ≤ 2000 := by omega
      clear SRC ZW M81 hc
      go_wp2_with (at_builtin; go_must (refine wpList_append_src _ rfl _ _ rfl w.heap.size (n0 + 1) rfl rr0 ad n0 cap0 zs rfl hz hc' le1 le2 (fun w5 hrow hO => ?_); have HROW := hideP hrow; have HO := hideP hO; clear hrow hO))
      go_meet
      case rel => exact ⟨rfl, HROW.out, HO.out⟩
  case rest =>
    obtain ⟨rfl, hrow, hO⟩ := hcut
    have lt1 : w.heap.size < wc.heap.size := by have := hO.size; simp at this; omega
    have bel1 : Below w.heap.size w wc := ((Below.refl _ w).alloc (Nat.le_refl _) _).trans (hO.below (fun k _ h => by omega) (by simp))
    have ROW := hideP hrow
    have BEL := hideP bel1
    clear hrow hO bel1 e81 M81 SRC
    go_upto_if 58 with fail
    go_cut [17, 58] from 345 (fun s17 _ wd => ∃ K n cap ks, s17 = .slice (some ⟨K, 0, none⟩) n cap ∧ Kr wd K n cap ks ∧ 0 < n ∧ n ≤ 1025 ∧ (∀ k ∈ ks, 0 ≤ k ∧ k ≤ 255) ∧ w.heap.size ≤ K ∧ Below w.heap.size w wd)
    case first =>
      by_cases h0 : n0 = 0
      · subst h0
        obtain rfl : zs = [] := List.length_eq_zero_iff.1 hz

        obtain ⟨inf, hinf, hinf'⟩ := Option.map_eq_some_iff.1 info5
        simp only [Prod.mk.injEq] at hinf'
        obtain ⟨hz, hsz, hbb⟩ := hinf'
        have hr4 : Row (wc.alloc (.cells #[.int .u8 sf] 5)) w.heap.size 0 0 1 1 [] := ROW.out.later (Only.alloc (Only.refl (fun _ => False) _) _) (by simp) lt1
        have hlt4 : w.heap.size < (wc.alloc (.cells #[.int .u8 sf] 5)).heap.size := by simp; omega
        have hc4 : (wc.alloc (.cells #[.int .u8 sf] 5)).rangeAt wc.heap.size 0 [.int .u8 sf] := range_new wc #[.int .u8 sf] 5 _ rfl
        have h14 : ∀ u ∈ [Value.int .u8 sf], u.oneCell' = true := by simp [Value.oneCell']
        clear ROW
        go_wp2_with (at_builtin; go_must (refine wpList_append_row _ rfl _ _ 81 rfl 5 inf _ 1 1 Yba.underlying81 hinf hz hsz hbb rfl (by decide) w.heap.size 0 0 1 [] rfl hr4 wc.heap.size 1 1 [.int .u8 sf] rfl (by decide) rfl hc4 h14 (by decide) (by decide) (fun g' o' cap' w5 hrow5 hcs hlt5 hO5 hq5 => ?_) hlt4; obtain rfl : o' = 0 := (hcs.elim (fun h => h.2.1) (fun h => h.2)); have HR5 := hideP hrow5; have HC5 := hideP hcs; have HL5 := hideP hlt5; have HO5 := hideP hO5; clear hrow5 hcs hlt5 hO5 hq5))
        go_meet
        case rel =>
          refine ⟨_, _, _, [sf], rfl, ⟨HR5.out, rfl, HL5.out⟩, by decide, by decide, by simp; omega, ?_, ?_⟩
          · have := HC5.out; simp at this; omega
          · exact (BEL.out.alloc (Nat.le_of_lt lt1) _).trans (HO5.out.below (fun k _ h => by omega) (by omega))
      · have h0' : ¬ ((n0 : Int) = 0) := by omega
        go_wp2
        go_meet
        case rel => exact ⟨_, _, _, zs, rfl, ⟨ROW.out, hz, lt1⟩, by omega, by omega, ZW.out, Nat.le_refl _, BEL.out⟩
    case rest =>
      clear ROW BEL lt1 ZW hz hn hn'
      obtain ⟨K, n, cap, ks, rfl, kr, n1, n2, kw, kge, bel⟩ := hcut
      have KR := hideP kr
      have KW := hideP kw
      have BEL := hideP bel
      have bK := kr.lt
      clear kr kw bel
      go_upto_region 10 with (go_at_call 10; refine (peer_walk _ _).mono ?_; rintro e w' ⟨rfl, rfl⟩)
      have oA : Only (fun _ => False) wc ((((((wc.alloc (.cells (prA sf xS) 31)).alloc (.cells (idA sf 0) 29)).alloc (.cells (prA sf xS) 31)).alloc (.cells (prA p xS) 31)).alloc (.cells (idA p 0) 29)).alloc (.cells (prA p xS) 31)) := ((((((Only.refl _ _).alloc _).alloc _).alloc _).alloc _).alloc _).alloc _
      have rS : ((((((wc.alloc (.cells (prA sf xS) 31)).alloc (.cells (idA sf 0) 29)).alloc (.cells (prA sf xS) 31)).alloc (.cells (prA p xS) 31)).alloc (.cells (idA p 0) 29)).alloc (.cells (prA p xS) 31)).rangeAt (wc.heap.size + 1 + 1) 0 (prA sf xS).toList :=
        Only.range (p := fun _ => False) ((((Only.refl _ _).alloc _).alloc _).alloc _) (by simp) (range_new ((wc.alloc (.cells (prA sf xS) 31)).alloc (.cells (idA sf 0) 29)) (prA sf xS) 31 _ (by simp))
      have rP : ((((((wc.alloc (.cells (prA sf xS) 31)).alloc (.cells (idA sf 0) 29)).alloc (.cells (prA sf xS) 31)).alloc (.cells (prA p xS) 31)).alloc (.cells (idA p 0) 29)).alloc (.cells (prA p xS) 31)).rangeAt (wc.heap.size + 1 + 1 + 1 + 1 + 1) 0 (prA p xS).toList := range_new _ (prA p xS) 31 _ (by simp)
      have szA : ((((((wc.alloc (.cells (prA sf xS) 31)).alloc (.cells (idA sf 0) 29)).alloc (.cells (prA sf xS) 31)).alloc (.cells (prA p xS) 31)).alloc (.cells (idA p 0) 29)).alloc (.cells (prA p xS) 31)).heap.size = wc.heap.size + 6 := by simp
      generalize hPB : wc.heap.size + 1 + 1 + 1 + 1 + 1 = PB at rP ⊢
      generalize hSB : wc.heap.size + 1 + 1 = SB at rS ⊢
      generalize ((((((wc.alloc (.cells (prA sf xS) 31)).alloc (.cells (idA sf 0) 29)).alloc (.cells (prA sf xS) 31)).alloc (.cells (prA p xS) 31)).alloc (.cells (idA p 0) 29)).alloc (.cells (prA p xS) 31)) = W1 at *
      have hrr0 : 1 ≤ 1 + r % 6 := by omega
      have hrr1 : 1 + r % 6 ≤ 6 := by omega
      generalize 1 + r % 6 = rr at hrr0 hrr1 ⊢
      have kr1 := KR.out.row.later oA (by simp) bK
      have bel1 : Below w.heap.size w W1 := BEL.out.trans (oA.below (fun _ _ h => h.elim) (by have := BEL.out.size; omega))
      have e45 := make45 n (by omega) W1
      have oM : Only (fun _ => False) W1 (W1.alloc (.cells (madeCells (prA 0 ⟨#[]⟩) (n * 21)) 31)) := (Only.refl _ _).alloc _
      have rM := row_made W1 n _ rfl
      have kr2 := kr1.later oM (by simp) (by omega)
      have rS2 := oM.range (by simp) rS
      have rP2 := oM.range (by simp) rP
      have szM : (W1.alloc (.cells (madeCells (prA 0 ⟨#[]⟩) (n * 21)) 31)).heap.size = W1.heap.size + 1 := World.size_alloc _ _
      have bel2 : Below w.heap.size w (W1.alloc (.cells (madeCells (prA 0 ⟨#[]⟩) (n * 21)) 31)) := bel1.trans (oM.below (fun _ _ h => h.elim) (by have := bel1.size; omega))
      have bW0 : w.heap.size ≤ wc.heap.size := BEL.out.size
      have OM := hideP oM
      have RM := hideP rM
      have KR2 := hideP kr2
      have KLEN := hideP KR.out.len
      have RS2 := hideP rS2
      have RP2 := hideP rP2
      have BEL2 := hideP bel2
      have SZM := hideP szM
      have SZA := hideP szA
      have HSB := hideP hSB
      have HPB := hideP hPB
      clear oM rM kr2 rS2 rP2 bel2 szM szA hSB hPB kr1 bel1 oA rS rP KR BEL
      go_wp2_with fail
      clear e45
      generalize hW2 : (W1.alloc (.cells (madeCells (prA 0 ⟨#[]⟩) (n * 21)) 31)) = W2 at *
      clear OM hW2
      have hS0 : W1.heap.size + 1 = W2.heap.size := SZM.out.symm
      have oKS : K ≠ W1.heap.size ∧ SB < W1.heap.size ∧ PB < W1.heap.size ∧ K < W1.heap.size ∧ w.heap.size ≤ W1.heap.size := by
        have h1 := SZA.out; have h2 := HSB.out; have h3 := HPB.out
        omega
      clear SZM SZA HSB HPB
      generalize W1.heap.size = S at *
      go_loopw [76] (fun t wr => ∃ i : Nat, i ≤ n ∧ t = .int .i64 i ∧ Row wr S 0 i n 21 (prs (ks.take i)) ∧ Only (fun q => q = S) W2 wr) (fun t _ => n - (intOf t).toNat)
      case atStart => exact ⟨0, Nat.zero_le _, rfl, RM.out, Only.refl _ _⟩
      case round =>
        obtain ⟨i, hi, rfl, hRow, hO⟩ := hrel
        have bS : S < wr.heap.size := by have := hO.size; omega
        by_cases hlt : i < n
        · have hkl := KLEN.out
          obtain ⟨k, hk⟩ : ∃ k, ks[i]? = some k := ⟨_, List.getElem?_eq_getElem (by omega)⟩
          have kc := hO.cell (a := ⟨K, i, none⟩) oKS.1 (byte_at KR2.out hk)
          have bK2 : K < wr.heap.size := World.block_lt_of_cell? _ _ kc
          have i0 : (0 : Int) ≤ (i : Int) := by omega
          have i1 : (i : Int) < (n : Int) := by omega
          have th : wr.there S (i * 21) 21 := fun j hj => by have := hRow.there (i * 21 + j) (by have : (i + 1) * 21 ≤ n * 21 := Nat.mul_le_mul_right _ hlt; omega); simpa [Nat.add_assoc] using this
          have th2 : ((wr.alloc (.cells (prA k xS) 31)).alloc (.cells (idA k 0) 29)).there S (i * 21) 21 := (there_past _ _ _ _ _ (by simp; omega)).2 ((there_past _ _ _ _ _ bS).2 th)
          have HROW := hideP hRow
          have HO := hideP hO
          have HK := hideP hk
          clear hRow hO hk
          go_wp2_with (go_at_call 10; refine (peer_walk _ _).mono ?_; rintro e w' ⟨rfl, rfl⟩)
          go_roundw
          case rel =>
            have h1 := row_setCells HROW.out 1 (show (prA k xS).toList.length = 1 * 21 by rw [prA_len]) (fun u hu => prs_one [k] u (by simpa [prs] using hu)) hlt
            have e : prs (ks.take (i + 1)) = prs (ks.take i) ++ (prA k xS).toList := by rw [List.take_add_one, HK.out]; exact prs_snoc _ _
            rw [Nat.zero_add] at h1
            refine ⟨i + 1, hlt, by go_num, ?_, ((Only.setCells (p := fun q => q = S) rfl _ _ HO.out).alloc _).alloc _⟩
            rw [e]
            have bS' : S < (wr.setCells S (i * 21) (prA k xS).toList).heap.size := by have := (Only.setCells (p := fun q => q = S) rfl (prA k xS).toList (i * 21) (Only.refl _ wr)).size; omega
            exact h1.later (p := fun _ => False) (((Only.refl _ _).alloc _).alloc _) (by simp) bS'
          case measure => simp [intOf]; omega
        · obtain rfl : n = i := by omega
          have row3 : PRow wr S 0 ks := by have := prow_of hRow.at'; rwa [List.take_of_length_le (by rw [KLEN.out]; exact Nat.le_refl _)] at this
          have kr3 := KR2.out.later hO oKS.1 (by omega)
          have rS3 := hO.range (b := SB) (by omega) RS2.out
          have rP3 := hO.range (b := PB) (by omega) RP2.out
          have bel3 : Below w.heap.size w wr := BEL2.out.trans (hO.below (fun q _ h => by omega) (by omega))
          have ROW3 := hideP row3
          have KR3 := hideP kr3
          have RS3 := hideP rS3
          have RP3 := hideP rP3
          have BEL3 := hideP bel3
          clear row3 kr3 rS3 rP3 bel3 hRow hO RM KR2 RS2 RP2 BEL2 hS0
          go_upto_region 18 with fail
          have oX : Only (fun _ => False) wr (wr.alloc (.cells (idA 0 1) 29)) := (Only.refl _ _).alloc _
          have rX := range_new wr (idA 0 1) 29 _ rfl
          have szX : (wr.alloc (.cells (idA 0 1) 29)).heap.size = wr.heap.size + 1 := World.size_alloc _ _
          have bX : wr.heap.size < (wr.alloc (.cells (idA 0 1) 29)).heap.size := by omega
          have row4 := oX.prow (by simp) ROW3.out
          have kr4 := KR3.out.later oX (by simp) (by omega)
          have rS4 := oX.range (by simp) RS3.out
          have rP4 := oX.range (by simp) RP3.out
          have bel4 := BEL3.out.trans (oX.below (B := w.heap.size) (fun _ _ h => h.elim) (by omega))
          have hXB : S < wr.heap.size := bS
          clear oX ROW3 KR3 RS3 RP3 BEL3
          generalize hXB' : wr.heap.size = XB at *
          generalize (wr.alloc (.cells (idA 0 1) 29)) = W3 at *
          clear hXB' bS
          obtain ⟨ix, x0, x1⟩ := id_facts rX
          obtain ⟨w4, hu, d4, O4⟩ := upd_new (w := W3.alloc (.map #[] 0)) under47 (keyOf29 wf0 (show (Lit.int .u8 1).wf = true by decide)) (mapAt_new W3 W3.heap.size rfl) (by simp) (.int .i64 7)
          have hu0 : (Instr.mapUpdate 47 (.map (some W3.heap.size)) (.agg (idA 0 1)) (.int .i64 7)).run Yba.prog (W3.alloc (.map #[] 0)) = .ok () w4 := hu 0
          have oo : Only (fun _ => False) W3 w4 := ((Only.refl _ _).alloc _).andThen O4 (fun i hi h => by omega)
          have szD : W3.heap.size < w4.heap.size := by have := O4.size; simp at this; omega
          have row5 := oo.prow (by simp) row4
          have kr5 := kr4.later oo (by simp) (by omega)
          have rS5 := oo.range (by simp) rS4
          have rP5 := oo.range (by simp) rP4
          have rX5 := oo.range (by simp) rX
          have bel5 := bel4.trans (oo.below (B := w.heap.size) (fun _ _ h => h.elim) (by omega))
          have D5 := hideP d4
          have ROW5 := hideP row5
          have KR5 := hideP kr5
          have RS5 := hideP rS5
          have RP5 := hideP rP5
          have RX5 := hideP rX5
          have BEL5 := hideP bel5
          clear hu d4 O4 oo row5 kr5 rS5 rP5 rX5 bel5 row4 kr4 rS4 rP4 bel4 rX
          have bSD : S < W3.heap.size := by omega
          have bXD : XB < W3.heap.size := bX
          clear szX
          go_upto_if 91 with fail
          clear hu0 ix x0 x1 bX
          generalize W3.heap.size = D at *
          have hp := wf_u8 p0 p1
          have key := keyOf29 hp wf0
          go_cut [] from 345 (fun wd => MapAt wd D (deadL b1 p) ∧ Only (fun q => q = D) w4 wd)
          case first =>
            obtain ⟨i1, e1, e2⟩ := id_facts (pr_id RP5.out)
            have bP4 : PB < w4.heap.size := World.block_lt_of_cell? _ _ e1
            obtain ⟨w6, hu, d6, O6⟩ := upd_new under47 key D5.out (by intro x hx; simp at hx; subst hx; intro e; rw [idA_inj] at e; omega) (.int .i64 1)
            have hu0 : (Instr.mapUpdate 47 (.map (some D)) (.agg (idA p 0)) (.int .i64 1)).run Yba.prog w4 = .ok () w6 := hu 0
            have D6 := hideP d6
            have O6' := hideP O6
            clear hu d6 O6
            cases b1
            · go_wp2
              go_meet
              case rel => exact ⟨D5.out, Only.refl _ _⟩
            · go_wp2
              go_meet
              case rel => exact ⟨D6.out, O6'.out⟩
          case rest =>
            obtain ⟨d6, O6⟩ := hcut
            have old5 : Old w w4 K S SB PB XB n cap sf p ks := ⟨KR5.out, ROW5.out, RS5.out, RP5.out, RX5.out, BEL5.out, by omega, by omega, by omega, by omega⟩
            have old6 := old5.only O6 (fun k h => by omega)
            have szD6 : D < wc.heap.size := by have := O6.size; omega
            have D6 := hideP d6
            have OLD6 := hideP old6
            clear d6 O6 old5 old6 D5 ROW5 KR5 RS5 RP5 RX5 BEL5 szD
            go_upto_if 96 with fail
            have d7 := D6.out.only (p := fun _ => False) ((Only.refl _ _).alloc (.map #[] 0)) (by simp)
            have old7 := OLD6.out.only (q := fun _ => False) ((Only.refl _ _).alloc (.map #[] 0)) (by simp)
            have cz := mapAt_new wc wc.heap.size rfl
            have szC : wc.heap.size < (wc.alloc (.map #[] 0)).heap.size := by simp
            generalize wc.heap.size = C at *
            generalize wc.alloc (.map #[] 0) = W7 at *
            go_cut [] from 345 (fun wd => MapAt wd C (callL b2 p 0) ∧ Only (fun q => q = C) W7 wd)
            case first =>
              obtain ⟨i1, e1, e2⟩ := id_facts (pr_id old7.rP)
              have bP4 : PB < W7.heap.size := World.block_lt_of_cell? _ _ e1
              obtain ⟨w8, hu, c8, O8⟩ := upd_new under63 key cz (by simp) (.agg #[.int .i64 2, .int .u64 0])
              have hu0 : (Instr.mapUpdate 63 (.map (some C)) (.agg (idA p 0)) (.agg #[.int .i64 2, .int .u64 0])).run Yba.prog W7 = .ok () w8 := hu 0
              have C8 := hideP c8
              have O8' := hideP O8
              have CZ := hideP cz
              clear hu c8 O8 cz old7 d7
              cases b2
              · go_wp2
                go_meet
                case rel => exact ⟨CZ.out, Only.refl _ _⟩
              · go_wp2
                go_meet
                case rel => exact ⟨C8.out, O8'.out⟩
            case rest =>
              obtain ⟨c8, O8⟩ := hcut
              have d8 := d7.only O8 (by omega)
              have old8 := old7.only O8 (fun k h => by omega)
              have szC8 : C < wc.heap.size := by have := O8.size; omega
              have C8 := hideP c8
              have D8 := hideP d8
              have OLD8 := hideP old8
              clear c8 d8 old8 O8 d7 old7 cz D6 OLD6
              go_upto_if 105 with fail
              have tz := tels_new wc
              have oT : Only (fun _ => False) wc (((wc.alloc (.cells #[.slice none 0 0] 85)).alloc (.map #[] 0)).alloc (.cells #[.func (.func 11) #[] #[.pointer (some ⟨wc.heap.size, 0, none⟩)], .func (.func 12) #[] #[], .int .i32 0, .int .u32 0, .slice none 0 0, .bool false, .bool false, .map (some (wc.heap.size + 1))] 93)) := (((Only.refl _ _).alloc _).alloc _).alloc _
              have c9 := C8.out.only oT (by simp)
              have d9 := D8.out.only oT (by simp)
              have old9 := OLD8.out.only oT (by simp)
              clear C8 D8 OLD8 oT
              generalize hWT : (((wc.alloc (.cells #[.slice none 0 0] 85)).alloc (.map #[] 0)).alloc (.cells #[.func (.func 11) #[] #[.pointer (some ⟨wc.heap.size, 0, none⟩)], .func (.func 12) #[] #[], .int .i32 0, .int .u32 0, .slice none 0 0, .bool false, .bool false, .map (some (wc.heap.size + 1))] 93)) = WT at *
              clear hWT
              generalize hT : wc.heap.size + 1 + 1 = T at *
              generalize hE : wc.heap.size + 1 = E at *
              generalize wc.heap.size = L at *
              have oE : L < E := by omega
              have oT : E < T := by omega
              clear hT hE
              go_cut [] from 345 (fun wd => TelS wd T L E [] none (told b3 p) ∧ Only (fun q => q = E) WT wd)
              case first =>
                obtain ⟨i1, e1, e2⟩ := id_facts (pr_id old9.rP)
                have bP4 : PB < WT.heap.size := World.block_lt_of_cell? _ _ e1
                obtain ⟨w8, hu, c8, O8⟩ := upd_new under91 key tz.dead (by simp) (.bool true)
                have hu0 : (Instr.mapUpdate 91 (.map (some E)) (.agg (idA p 0)) (.bool true)).run Yba.prog WT.drew = .ok () w8.drew := hu 1
                have c7 := tz.tel.c7
                have bT : T < WT.heap.size := tz.lt
                have C8 := hideP c8
                have O8' := hideP O8
                have TZ := hideP tz
                clear hu c8 O8 tz old9 c9 d9
                cases b3
                · go_wp2
                  go_meet
                  case rel => exact ⟨TZ.out, Only.refl _ _⟩
                · go_wp2_with fail
                  go_region
                  all_goals (
                    go_wp2
                    go_meet
                    case rel => exact ⟨TZ.out.setDead O8'.out.drew C8.out, O8'.out.drew⟩)
              case rest =>
                obtain ⟨t10, O10⟩ := hcut
                have d10 := d9.only O10 (by omega)
                have c10 := c9.only O10 (by omega)
                have old10 := old9.only O10 (fun k h => by omega)
                have T10 := hideP t10
                have C10 := hideP c10
                have D10 := hideP d10
                have OLD10 := hideP old10
                obtain ⟨p1', a1, a2⟩ := pr_facts old10.rS
                obtain ⟨p2', a3, a4⟩ := pr_facts old10.rP
                have bSB : SB < wc.heap.size := World.block_lt_of_cell? _ _ a1
                have bPB : PB < wc.heap.size := World.block_lt_of_cell? _ _ a3
                have bT10 : T < wc.heap.size := t10.lt
                clear c9 d9 old9 tz t10 O10 d10 c10 old10
                go_wp2_with fail
                have oN : Only (fun _ => False) wc (wc.alloc (.cells (nodCells sf rr S n D C hr T) 65)) := (Only.refl _ _).alloc _
                have oo1 := OLD10.out.oS
                have hkl := KLEN.out
                obtain ⟨k0, ks', rfl⟩ : ∃ k0 ks', ks = k0 :: ks' := by
                  cases ks with
                  | nil => simp at hkl; omega
                  | cons a b => exact ⟨a, b, rfl⟩
                have old11 := OLD10.out.only oN (by simp)
                refine (prec_walk wc.heap.size S T D C L E n n sf rr hr p k0 ks' b1 b2 b3 (wc.alloc (.cells (nodCells sf rr S n D C hr T) 65)) p0 p1 s0 s1 KW.out hkl (by omega) (nod_new wc _ rfl sf rr S n D C hr T) old11.row (D10.out.only oN (by simp)) (C10.out.only oN (by simp)) (T10.out.only oN (by simp) (by simp) (by simp) (by simp)) (by omega) (by omega) (by omega) (by omega) (by omega) bT10).mono ?_
                rintro e w3 ⟨rfl, S', n', c', lb, aft⟩
                obtain ⟨want, hwant⟩ : ∃ want, Hid (want = if opn p sf k0 then extK sf rr [p] (k0 :: ks') else k0 :: ks') := ⟨_, rfl⟩
                obtain ⟨h1, hh1⟩ : ∃ h1, Hid (h1 = IntKind.u64.wrap (hr + 1)) := ⟨_, rfl⟩
                obtain ⟨tk, htk⟩ : ∃ tk, Hid (tk = opn p sf k0) := ⟨_, rfl⟩
                have old12 := old11.only aft.only (fun q h => by omega)
                have fin : Fin w3.heap.size w w3 K S SB PB XB wc.heap.size T D C L E n cap S' n' c' lb sf p rr h1 k0 (k0 :: ks') want b2 b3 tk := by
                  have hl := aft.len
                  have hr' := aft.row
                  rw [← hwant.out] at hl hr'
                  have hsz := aft.only.size
                  simp only [World.size_alloc] at hsz
                  rw [hh1.out, htk.out]
                  refine ⟨old12, aft.nod, hr', hl, aft.dead, aft.call, aft.tel, by have := old12.lt; omega, by omega, ?_, ?_, Nat.le_refl _⟩
                  · obtain ⟨x, tl, hx⟩ : ∃ x tl, want = x :: tl := by
                      rw [hwant.out]
                      split
                      · obtain ⟨tl, h⟩ := extK_head sf rr (k0 :: ks') [] p
                        exact ⟨p, tl, h⟩
                      · exact ⟨k0, ks', rfl⟩
                    have := (pr_facts (prow_head (show PRow w3 S' 0 (x :: tl) by rw [← hx]; exact hr'))).2.1
                    exact World.block_lt_of_cell? _ _ this
                  · intro g hg
                    have := aft.tel.log
                    subst hg
                    obtain ⟨_, _, _, _, h4⟩ := this
                    exact h4
                have FIN := hideP fin
                clear fin aft old12 old11 oN oo1 D10 C10 T10 OLD10 a1 a2 a3 a4 p1' p2' bSB bPB bT10
                generalize wc.heap.size = N at *
                generalize hB : w3.heap.size = B at *
                have OPN : Hid (∀ w, Calls Yba.prog 14 #[.int .u8 p, .int .u8 sf, .int .u8 k0] w fun e w' => e = .returned (.bool tk) ∧ w = w') := by
                  intro w
                  rw [htk.out]
                  exact (open_walk p sf k0 w).mono (fun _ _ h => ⟨h.1, h.2.symm⟩)
                have kc0 := byte_at (i := 0) FIN.out.old.kr rfl
                have bK3 : K < w3.heap.size := World.block_lt_of_cell? _ _ kc0
                have n0' : (0 : Int) < (n : Int) := by omega
                have hBs := hideP hB
                clear hB
                go_upto_if 131 with (go_at_call 14; refine (OPN.out _).mono ?_; rintro e w' ⟨rfl, rfl⟩)
                go_cut [31] from 345 (fun s31 wd => ∃ WK m wcap, s31 = .slice (some ⟨WK, 0, none⟩) m wcap ∧ Row wd WK 0 m wcap 1 (bys want) ∧ want.length = m ∧ WK < wd.heap.size ∧ Only (fun q => B ≤ q) w3 wd)
                case first =>
                  cases tk
                  · have hw : want = k0 :: ks' := by rw [hwant.out, ← htk.out]; rfl
                    go_wp2
                    go_meet
                    case rel =>
                      refine ⟨_, _, _, rfl, ?_, ?_, bK3, Only.refl _ _⟩
                      · rw [hw]; exact FIN.out.old.kr
                      · rw [hw]; exact hkl
                  · have hw : want = extK sf rr [p] (k0 :: ks') := by rw [hwant.out, ← htk.out]; rfl
                    have HW := hideP hw
                    have g0 : (w3.alloc (.cells #[.int .u8 p] 5)).rangeAt w3.heap.size 0 (bys [p]) := range_new w3 #[.int .u8 p] 5 _ rfl
                    have rw0 : Row (w3.alloc (.cells #[.int .u8 p] 5)) w3.heap.size 0 1 1 1 (bys [p]) := ⟨rfl, Nat.le_refl _, g0, there_new _ _ _ _ _ rfl (by simp), bys_one [p]⟩
                    have RW0 := hideP rw0
                    clear hw g0 rw0
                    go_wp2_with fail
                    have bKB : K < B := by have h1 := FIN.out.bX; have h2 := FIN.out.old.oK; omega
                    go_loopw [31, 136] (fun a t wr => ∃ (i g m wcap : Nat) (ac : List Int), t = .int .i64 i ∧ a = .slice (some ⟨g, 0, none⟩) m wcap ∧ WkInv B w3 wr sf rr (k0 :: ks') want n i g m wcap ac) (fun _ t _ => n - (intOf t).toNat)
                    case atStart => exact ⟨0, _, 1, 1, [p], rfl, rfl, ⟨Nat.zero_le _, RW0.out, rfl, by rw [hBs.out]; exact Nat.le_refl _, by simp, (Only.refl _ _).alloc _, HW.out.symm, by omega⟩⟩
                    case round =>
                      obtain ⟨i, g, m, wcap, ac, rfl, rfl, I⟩ := hrel
                      have hle := I.le
                      have bK4 : K < wr.heap.size := by have := I.only.size; omega
                      by_cases hlt : i < n
                      · obtain ⟨k, hk⟩ : ∃ k, (k0 :: ks')[i]? = some k := ⟨_, List.getElem?_eq_getElem (by omega)⟩
                        have kc := I.only.cell (a := ⟨K, i, none⟩) (by simp; omega) (byte_at FIN.out.old.kr hk)
                        have i0 : (0 : Int) ≤ (i : Int) := by omega
                        have i1 : (i : Int) < (n : Int) := by omega
                        have mm := I.small
                        have HI := hideP I
                        have HK := hideP hk
                        clear I hk
                        by_cases he : k = sf
                        · subst he
                          go_wp2
                          go_meet
                          case rel =>
                            have I := HI.out
                            have hR := ext_stop HK.out I.ext (.inl rfl)
                            rw [hR]
                            exact ⟨g, m, wcap, rfl, I.row, I.len, I.lt, I.only⟩
                        · have he' : (k == sf) = false := by simpa using he
                          by_cases hfull : rr ≤ (m : Int)
                          · go_wp2
                            go_meet
                            case rel =>
                              have I := HI.out
                              have hR := ext_stop HK.out I.ext (.inr (by rw [I.len]; exact hfull))
                              rw [hR]
                              exact ⟨g, m, wcap, rfl, I.row, I.len, I.lt, I.only⟩
                          · go_wp2_with fail
                            have bg : g < wr.heap.size := HI.out.lt
                            go_loopw [34, 151] (fun h t wq => ∃ (j : Nat) (hs : Bool), j ≤ m ∧ t = .int .i64 j ∧ h = .bool hs ∧ (hs = true ↔ k ∈ ac.take j) ∧ wr = wq) (fun _ t _ => m - (intOf t).toNat)
                            case atStart => exact ⟨0, false, Nat.zero_le _, rfl, rfl, by simp, rfl⟩
                            case round =>
                              obtain ⟨j, hs, hj, rfl, rfl, hin, rfl⟩ := hrel
                              have HIN := hideP hin
                              clear hin
                              by_cases hjm : j < m
                              · have hal := HI.out.len
                                obtain ⟨x, hx⟩ : ∃ x, ac[j]? = some x := ⟨_, List.getElem?_eq_getElem (by omega)⟩
                                have xc := byte_at HI.out.row hx
                                have j0 : (0 : Int) ≤ (j : Int) := by omega
                                have j1 : (j : Int) < (m : Int) := by omega
                                have HX := hideP hx
                                clear hx hal
                                by_cases hxk : x = k
                                · subst hxk
                                  go_wp2
                                  go_roundw
                                  case rel => exact ⟨j + 1, true, hjm, by go_num, rfl, by rw [List.take_add_one, HX.out]; simp, by first | rfl | trivial⟩
                                  case measure => simp [intOf]; omega
                                · have hxk' : (x == k) = false := by simpa using hxk
                                  have HXK := hideP hxk
                                  go_wp2
                                  go_roundw
                                  case rel =>
                                    refine ⟨j + 1, hs, hjm, by go_num, rfl, ?_, by first | rfl | trivial⟩
                                    rw [HIN.out, List.take_add_one, HX.out]
                                    simp only [Option.toList_some, List.mem_append, List.mem_singleton]
                                    exact ⟨.inl, fun h => h.elim id (fun h => absurd h.symm HXK.out)⟩
                                  case measure => simp [intOf]; omega
                              · have hal := HI.out.len
                                have hin : hs = true ↔ k ∈ ac := by have := HIN.out; rwa [List.take_of_length_le (by omega)] at this
                                have hgo := ext_go HK.out HI.out.ext (by rw [hal]; exact fun h => h.elim he (fun h' => by omega))
                                have HGO := hideP hgo
                                clear hgo HIN hal
                                cases hs
                                · have hni : k ∉ ac := fun h => by have := hin.2 h; cases this
                                  have HNI := hideP hni
                                  obtain ⟨inf, hinf, hinf'⟩ := Option.map_eq_some_iff.1 info5
                                  simp only [Prod.mk.injEq] at hinf'
                                  obtain ⟨hz, hsz, hbb⟩ := hinf'
                                  have hr4 : Row (wr.alloc (.cells #[.int .u8 k] 5)) g 0 m wcap 1 (bys ac) := HI.out.row.later (Only.alloc (Only.refl (fun _ => False) _) _) (by simp) bg
                                  have hlt4 : g < (wr.alloc (.cells #[.int .u8 k] 5)).heap.size := by simp; omega
                                  have hc4 : (wr.alloc (.cells #[.int .u8 k] 5)).rangeAt wr.heap.size 0 [.int .u8 k] := range_new wr #[.int .u8 k] 5 _ rfl
                                  have h14 : ∀ u ∈ [Value.int .u8 k], u.oneCell' = true := by simp [Value.oneCell']
                                  have B1 : m + 1 ≤ maxLen := by unfold maxLen; omega
                                  have B2 : (m + 1) * 1 ≤ 140737488355328 := by omega
                                  clear hni hin
                                  go_wp2_with (at_builtin; go_must (refine wpList_append_row _ rfl _ _ 81 rfl 5 inf _ 1 1 Yba.underlying81 hinf hz hsz hbb rfl (by decide) g 0 m wcap (bys ac) rfl hr4 wr.heap.size 1 1 [.int .u8 k] rfl (by decide) rfl hc4 h14 B1 B2 (fun g' o' cap' w5 hrow5 hcs hlt5 hO5 hq5 => ?_) hlt4; obtain rfl : o' = 0 := (hcs.elim (fun h => h.2.1) (fun h => h.2)); have HR5 := hideP hrow5; have HC5 := hideP hcs; have HL5 := hideP hlt5; have HO5 := hideP hO5; clear hrow5 hcs hlt5 hO5 hq5))
                                  go_roundw
                                  case rel =>
                                    have I := HI.out
                                    have hgo := HGO.out
                                    rw [if_neg HNI.out] at hgo
                                    refine ⟨i + 1, g', m + 1, cap', ac ++ [k], by go_num, rfl, ⟨by omega, by rw [bys_snoc]; exact HR5.out, by simp [I.len], ?_, HL5.out, (I.only.alloc _).trans (HO5.out.weaken (fun q _ h => by rw [h]; exact I.ge)), hgo, by omega⟩⟩
                                    rcases HC5.out with ⟨rfl, _⟩ | ⟨h, _⟩
                                    · exact I.ge
                                    · have := I.only.size; have := hBs.out; simp at h; omega
                                  case measure => simp [intOf]; omega
                                · have hni : k ∈ ac := hin.1 rfl
                                  have HNI := hideP hni
                                  clear hni hin
                                  go_wp2
                                  go_roundw
                                  case rel =>
                                    have I := HI.out
                                    have hgo := HGO.out
                                    rw [if_pos HNI.out] at hgo
                                    exact ⟨i + 1, g, m, wcap, ac, by go_num, rfl, ⟨by omega, I.row, I.len, I.ge, I.lt, I.only, hgo, by omega⟩⟩
                                  case measure => simp [intOf]; omega
                      · obtain rfl : n = i := by omega
                        have HI := hideP I
                        clear I
                        go_wp2
                        go_meet
                        case rel =>
                          have I := HI.out
                          have hR := I.ext
                          rw [List.drop_of_length_le (by omega), extK] at hR
                          rw [← hR]
                          exact ⟨g, m, wcap, rfl, I.row, I.len, I.lt, I.only⟩
                case rest =>
                  obtain ⟨WK, m, wcap, rfl, hwr, hwl, hwlt, hO4⟩ := hcut
                  have fin4 := FIN.out.only hO4
                  have cs4 := fin4.nod.succs
                  have bN4 : N < wc.heap.size := fin4.nod.lt
                  have bWK : WK < wc.heap.size := hwlt
                  obtain rfl : m = n' := hwl.symm.trans fin4.len
                  have FIN4 := hideP fin4
                  have WR := hideP hwr
                  have WL := hideP hwl
                  clear hO4 fin4 FIN OPN kc0 bK3 hBs hwr hwl hwlt
                  have hm2 : m ≤ 1026 := by
                    have h1 := WL.out
                    rw [hwant.out] at h1
                    split at h1
                    · have h2 := extK_len sf rr (k0 :: ks') [p]
                      rw [hkl] at h2
                      simp only [List.length_singleton] at h2
                      omega
                    · omega
                  have wwf : Hid (∀ k ∈ want, (Lit.int .u8 k).wf = true) := by
                    have hk' : ∀ j ∈ k0 :: ks', (Lit.int .u8 j).wf = true := fun j hj => wf_u8 (KW.out j hj).1 (KW.out j hj).2
                    rw [hwant.out]
                    split
                    · exact extK_wf _ _ (by simpa using hp) hk'
                    · exact hk'
                  go_wp2_with fail
                  go_loopw [176] (fun t wr => ∃ i : Nat, i ≤ m ∧ t = .int .i64 i ∧ Only (fun _ => False) wc wr) (fun t _ => m - (intOf t).toNat)
                  case atStart => exact ⟨0, Nat.zero_le _, rfl, Only.refl _ _⟩
                  case round =>
                    obtain ⟨i, hi, rfl, hO⟩ := hrel
                    by_cases hlt : i < m
                    · have hwl := WL.out
                      obtain ⟨k, hk⟩ : ∃ k, want[i]? = some k := ⟨_, List.getElem?_eq_getElem (by omega)⟩
                      have hwk := wwf.out k (List.mem_of_getElem? hk)
                      have kc := hO.cell (by simp) (byte_at WR.out hk)
                      have rk := hO.range (by simp) (FIN4.out.row i k hk)
                      rw [Nat.zero_add] at rk
                      obtain ⟨q1, a1, a2⟩ := pr_facts rk
                      have cs5 := hO.cell (by simp) cs4
                      have bN5 : N < wr.heap.size := World.block_lt_of_cell? _ _ cs5
                      have bW5 : WK < wr.heap.size := World.block_lt_of_cell? _ _ kc
                      have bS5 : S' < wr.heap.size := World.block_lt_of_cell? _ _ a1
                      have i0 : (0 : Int) ≤ (i : Int) := by omega
                      have i1 : (i : Int) < (m : Int) := by omega
                      have hq := fun v => neq31 hwk hwk false (by simp) v
                      have q2 : PrLie ((wr.alloc (.cells (prA k xS) 31)).alloc (.cells (idA k 0) 29)) S' (i * 21) := (prLie_alloc _ _ _ _ (by simp; omega)).2 ((prLie_alloc _ _ _ _ bS5).2 q1)
                      have HO := hideP hO
                      clear hO rk hk hwl
                      go_wp2_with fail
                      go_region_with (go_at_call 10; refine (peer_walk _ _).mono ?_; rintro e w' ⟨rfl, rfl⟩)
                      all_goals (
                        clear q1 q2 a1 a2 hq
                        go_wp2
                        go_roundw
                        case rel => exact ⟨i + 1, hlt, by go_num, ((HO.out.alloc _).alloc _).drew⟩
                        case measure => simp [intOf]; omega)
                    · obtain rfl : m = i := by omega
                      have fin5 := FIN4.out.only (hO.weaken (fun _ _ h => h.elim))
                      have FIN5 := hideP fin5
                      clear hO fin5 FIN4 WR cs4 bN4 bWK
                      go_wp2_with fail
                      go_loopw [194] (fun t wq => ∃ i : Nat, i ≤ n ∧ t = .int .i64 i ∧ Only (fun _ => False) wr wq) (fun t _ => n - (intOf t).toNat)
                      case atStart => exact ⟨0, Nat.zero_le _, rfl, Only.refl _ _⟩
                      case round =>
                        obtain ⟨i, hi, rfl, hO⟩ := hrel
                        by_cases hlt : i < n
                        · obtain ⟨k, hk⟩ : ∃ k, (k0 :: ks')[i]? = some k := ⟨_, List.getElem?_eq_getElem (by omega)⟩
                          have hwk := KW.out k (List.mem_of_getElem? hk)
                          have kc := hO.cell (by simp) (byte_at FIN5.out.old.kr hk)
                          have rk := hO.range (by simp) (FIN5.out.old.row i k hk)
                          rw [Nat.zero_add] at rk
                          obtain ⟨q1, a1, a2⟩ := pr_facts rk
                          have bK5 : K < wr.heap.size := World.block_lt_of_cell? _ _ kc
                          have bS5 : S < wr.heap.size := World.block_lt_of_cell? _ _ a1
                          have i0 : (0 : Int) ≤ (i : Int) := by omega
                          have i1 : (i : Int) < (n : Int) := by omega
                          have hq := fun v => neq31 (wf_u8 hwk.1 hwk.2) (wf_u8 hwk.1 hwk.2) false (by simp) v
                          have q2 : PrLie ((wr.alloc (.cells (prA k xS) 31)).alloc (.cells (idA k 0) 29)) S (i * 21) := (prLie_alloc _ _ _ _ (by simp; omega)).2 ((prLie_alloc _ _ _ _ bS5).2 q1)
                          have HO := hideP hO
                          clear hO rk hk
                          go_wp2_with fail
                          go_region_with (go_at_call 10; refine (peer_walk _ _).mono ?_; rintro e w' ⟨rfl, rfl⟩)
                          all_goals (
                            clear q1 q2 a1 a2 hq
                            go_wp2
                            go_roundw
                            case rel => exact ⟨i + 1, hlt, by go_num, ((HO.out.alloc _).alloc _).drew⟩
                            case measure => simp [intOf]; omega)
                        · obtain rfl : n = i := by omega
                          have fin6 := FIN5.out.only (hO.weaken (fun _ _ h => h.elim))
                          have FIN6 := hideP fin6
                          clear hO fin6 FIN5
                          go_upto_if 207 with fail
                          go_cut [] from 345 (fun wd => wr = wd)
                          case first =>
                            have rl := FIN6.out.nod.relk
                            have bN6 : N < wr.heap.size := FIN6.out.nod.lt
                            cases tk
                            · replace rl : wr.cell? ⟨N, 3472, none⟩ = some (.int .i64 0) := rl
                              go_wp2
                              go_meet
                              case rel => first | rfl | trivial
                            · replace rl : wr.cell? ⟨N, 3472, none⟩ = some (.int .i64 1) := rl
                              go_wp2
                              go_meet
                              case rel => first | rfl | trivial
                          case rest =>
                            subst hcut
                            have hh := hh1.out
                            subst hh
                            have hc := FIN6.out.nod.hear
                            have dc := FIN6.out.nod.dead
                            have bN6 : N < wr.heap.size := FIN6.out.nod.lt
                            obtain ⟨i1, e1, e2⟩ := id_facts (pr_id FIN6.out.old.rP)
                            have bP6 : PB < wr.heap.size := World.block_lt_of_cell? _ _ e1
                            have lk : ∀ m, (Instr.lookup 47 (.map (some D)) (.agg (idA p 0)) true).run Yba.prog (wr.drewN m) = .ok (.tuple #[.int .i64 0, .bool false]) (wr.drewN m) := fun m =>
                              look_none under47 key (show MapAt (wr.drewN m) D (deadL false p) from FIN6.out.dead) (by intro x hx; simp [deadL] at hx; subst hx; intro e; rw [idA_inj] at e; omega) (Yba.zeroValue3 _) true
                            go_wp2_with fail
                            go_quiet (fail)
                            clear lk
                            have fin8 := FIN6.out.only (((Only.refl _ wr).drewN nq).weaken (fun _ _ h => h))
                            clear FIN6 hc dc bN6 i1 e1 e2 bP6
                            generalize wr.drewN nq = W8 at *
                            have dc := fin8.nod.dead
                            have bN6 : N < W8.heap.size := fin8.nod.lt
                            obtain ⟨i1, e1, e2⟩ := id_facts fin8.old.rX
                            have bP6 : XB < W8.heap.size := fin8.old.lt
                            have lk : ∀ m, (Instr.lookup 47 (.map (some D)) (.agg (idA 0 1)) false).run Yba.prog (W8.drewN m) = .ok (.int .i64 7) (W8.drewN m) := fun m =>
                              look_some under47 (keyOf29 wf0 (show (Lit.int .u8 1).wf = true by decide)) (show MapAt (W8.drewN m) D (deadL false p) from fin8.dead) (v := .int .i64 7) (by simp [deadL]) (by simp [deadL]) false
                            have ln : ∀ m ty, (lenM 47 ty #[.map (some D)]).run Yba.prog (W8.drewN m) = .ok (.int .i64 1) (W8.drewN m) := fun m ty => run_lenM under47 (show MapAt (W8.drewN m) D (deadL false p) from fin8.dead) 1 rfl
                            have FIN8 := hideP fin8
                            clear fin8
                            go_wp2_with fail
                            go_quiet (fail)
                            clear lk ln
                            have fin9 := FIN8.out.only (((Only.refl _ W8).drewN nq).weaken (fun _ _ h => h))
                            clear FIN8 dc bN6 i1 e1 e2 bP6
                            generalize W8.drewN nq = W9 at *
                            have FIN9 := hideP fin9
                            clear fin9
                            go_upto_if 251 with fail
                            go_cut [] from 345 (fun wd => Only (fun _ => False) W9 wd)
                            case first =>
                              have cc := FIN9.out.nod.calling
                              have mc := FIN9.out.call
                              have bN9 : N < W9.heap.size := FIN9.out.nod.lt
                              cases b2
                              · have ln : ∀ ty, (lenM 63 ty #[.map (some C)]).run Yba.prog W9 = .ok (.int .i64 0) W9 := fun ty => run_lenM under63 mc 0 rfl
                                clear mc
                                go_wp2
                                go_meet
                                case rel => exact Only.refl _ _
                              · obtain ⟨i1, e1, e2⟩ := id_facts (pr_id FIN9.out.old.rP)
                                have bP9 : PB < W9.heap.size := World.block_lt_of_cell? _ _ e1
                                obtain ⟨hv, hhv⟩ : ∃ hv, Hid (IntKind.u64.wrap (hr + 1) = hv) := ⟨_, rfl⟩
                                have mc' : MapAt W9 C [(.agg (idA p 0), .agg #[.int .i64 2, .int .u64 hv])] := by rw [← hhv.out]; exact mc
                                have lk1 : (Instr.lookup 63 (.map (some C)) (.agg (idA p 0)) false).run Yba.prog W9.drew = .ok (.agg #[.int .i64 2, .int .u64 hv]) W9.drew := look_some under63 key (show MapAt W9.drew C _ from mc') (v := .agg #[.int .i64 2, .int .u64 hv]) (by simp) (by simp) false
                                have lk2 : (Instr.lookup 63 (.map (some C)) (.agg (idA p 0)) false).run Yba.prog (W9.alloc (.cells #[.int .i64 0, .int .u64 0] 84)).drew = .ok (.agg #[.int .i64 2, .int .u64 hv]) (W9.alloc (.cells #[.int .i64 0, .int .u64 0] 84)).drew := look_some under63 key (show MapAt (W9.alloc (.cells #[.int .i64 0, .int .u64 0] 84)).drew C _ from (mc'.only (p := fun _ => False) ((Only.refl _ _).alloc _).drew (by simp))) (v := .agg #[.int .i64 2, .int .u64 hv]) (by simp) (by simp) false
                                have ln : ∀ ty, (lenM 63 ty #[.map (some C)]).run Yba.prog (W9.alloc (.cells #[.int .i64 2, .int .u64 hv] 84)).drew = .ok (.int .i64 1) (W9.alloc (.cells #[.int .i64 2, .int .u64 hv] 84)).drew := fun ty => run_lenM under63 (show MapAt (W9.alloc (.cells #[.int .i64 2, .int .u64 hv] 84)).drew C _ from (mc'.only (p := fun _ => False) ((Only.refl _ _).alloc _).drew (by simp))) 1 rfl
                                have hvw := hhv.out
                                clear mc mc' hvw
                                go_wp2_with fail
                                go_region
                                all_goals (
                                  have hvw := hhv.out
                                  clear lk1 lk2
                                  go_wp2
                                  go_meet
                                  case rel => exact ((Only.refl _ _).alloc _).drew)
                            case rest =>
                              have fin10 := FIN9.out.only (hcut.weaken (fun _ _ h => h.elim))
                              have FIN10 := hideP fin10
                              clear hcut fin10 FIN9
                              go_upto_if 283 with fail
                              go_cut [44] from 345 (fun s44 wd => WantAt B wd s44 (if b3 then [evBack p] else []) ∧ Only (fun q => B ≤ q) wc wd)
                              case first =>
                                cases b3
                                · go_wp2
                                  go_meet
                                  case rel => exact ⟨.inl ⟨rfl, rfl⟩, Only.refl _ _⟩
                                · obtain ⟨q1, a1, a2⟩ := pr_facts FIN10.out.old.rP
                                  have bP : PB < wc.heap.size := World.block_lt_of_cell? _ _ a1
                                  have hrg : (wc.alloc (.cells (evA 4 p xS 0 ⟨#[]⟩) 88)).rangeAt wc.heap.size 0 (evBack p).cells.toList := range_new wc (evA 4 p xS 0 ⟨#[]⟩) 88 _ rfl
                                  go_wp2_with (at_builtin; go_must (refine wpList_append_first rfl _ _ rfl rfl wc.heap.size (evBack p) rfl hrg (fun g cap w5 hrow hge hlt bel => ?_); have HR5 := hideP hrow; have HG5 := hideP hge; have HL5 := hideP hlt; have HB5 := hideP bel; clear hrow hge hlt bel))
                                  go_meet
                                  case rel =>
                                    have hg5 := HG5.out
                                    have hb5 := FIN10.out.bB
                                    simp only [World.size_alloc] at hg5
                                    exact ⟨.inr ⟨g, _, by simp, rfl, HR5.out, HL5.out, by omega⟩, ((Only.refl _ wc).alloc _).trans (Only.of_below HB5.out)⟩
                              case rest =>
                                obtain ⟨hw1, hO11⟩ := hcut
                                have fin11 := FIN10.out.only hO11
                                have FIN11 := hideP fin11
                                have HW1 := hideP hw1
                                clear hw1 hO11 fin11 FIN10
                                go_upto_if 289 with fail
                                go_cut [44] from 345 (fun s44 wd => WantAt B wd s44 ((if b3 then [evBack p] else []) ++ (if tk then [evChg p k0] else [])) ∧ Only (fun q => B ≤ q) wc wd)
                                case first =>
                                  cases tk
                                  · go_wp2
                                    go_meet
                                    case rel => exact ⟨by simp only [Bool.false_eq_true, if_false, List.append_nil]; exact HW1.out, Only.refl _ _⟩
                                  · obtain ⟨q1, a1, a2⟩ := pr_facts FIN11.out.old.rP
                                    obtain ⟨q2, a3, a4⟩ := pr_facts (prow_head FIN11.out.old.row)
                                    have bP : PB < wc.heap.size := World.block_lt_of_cell? _ _ a1
                                    have bS : S < wc.heap.size := World.block_lt_of_cell? _ _ a3
                                    have hrg : (wc.alloc (.cells (evA 2 p xS k0 xS) 88)).drew.rangeAt wc.heap.size 0 (evChg p k0).cells.toList := range_new wc (evA 2 p xS k0 xS) 88 _ rfl
                                    have hbB := FIN11.out.bB
                                    cases b3
                                    · rcases HW1.out with ⟨_, rfl⟩ | ⟨g, cap, h0, _⟩
                                      · go_wp2_with fail
                                        go_region_law (refine step_append_first rfl (.tmp 290) (.tmp 296) rfl rfl wc.heap.size (evChg p k0) rfl hrg (fun g cap w5 hrow hge hlt bel => ?_); have HR5 := hideP hrow; have HG5 := hideP hge; have HL5 := hideP hlt; have HB5 := hideP bel; clear hrow hge hlt bel)
                                        all_goals (
                                          go_wp2_with fail
                                          go_meet
                                          case rel =>
                                            have hg5 := HG5.out
                                            have e5 : (wc.alloc (.cells (evA 2 p xS k0 xS) 88)).drew.heap.size = wc.heap.size + 1 := World.size_alloc _ _
                                            exact ⟨.inr ⟨g, _, by simp, rfl, HR5.out, HL5.out, by omega⟩, ((Only.refl _ wc).alloc _).drew.trans (Only.of_below HB5.out)⟩)
                                      · simp at h0
                                    · rcases HW1.out with ⟨h0, _⟩ | ⟨g, cap, _, rfl, hrow, hgl, hgB⟩
                                      · simp at h0
                                      · have hrow' : Row (wc.alloc (.cells (evA 2 p xS k0 xS) 88)).drew g 0 1 cap 43 (evs [evBack p]) := by
                                          have := hrow.later (p := fun _ => False) ((Only.refl _ _).alloc (.cells (evA 2 p xS k0 xS) 88)).drew (by simp) hgl
                                          exact this
                                        have hgl' : g < (wc.alloc (.cells (evA 2 p xS k0 xS) 88)).drew.heap.size := by
                                          have e5 : (wc.alloc (.cells (evA 2 p xS k0 xS) 88)).drew.heap.size = wc.heap.size + 1 := World.size_alloc _ _
                                          omega
                                        have n10 : 1 ≤ 10 := by decide
                                        clear hrow
                                        go_wp2_with fail
                                        go_region_law (refine step_append_more rfl (.tmp 290) (.tmp 296) rfl g 1 cap [evBack p] rfl hrow' hgl' n10 wc.heap.size (evChg p k0) rfl hrg (fun g' cap' w5 hrow hge hlt hO5 => ?_); have HR5 := hideP hrow; have HG5 := hideP hge; have HL5 := hideP hlt; have HO5 := hideP hO5; clear hrow hge hlt hO5)
                                        all_goals (
                                          go_wp2_with fail
                                          go_meet
                                          case rel =>
                                            have hg5 := HG5.out
                                            have e5 : (wc.alloc (.cells (evA 2 p xS k0 xS) 88)).drew.heap.size = wc.heap.size + 1 := World.size_alloc _ _
                                            refine ⟨.inr ⟨g', _, by simp, rfl, HR5.out, HL5.out, by omega⟩, ?_⟩
                                            exact ((Only.refl _ wc).alloc _).drew.trans (HO5.out.weaken (fun q _ h => by omega)))
                                case rest =>
                                  obtain ⟨hw2, hO12⟩ := hcut
                                  have fin12 := FIN11.out.only hO12
                                  have FIN12 := hideP fin12
                                  have HW2 := hideP hw2
                                  clear hw2 hO12 fin12 FIN11 HW1
                                  obtain ⟨es, hes⟩ : ∃ es : List Evt, Hid (es = (if b3 then [evBack p] else []) ++ (if tk then [evChg p k0] else [])) := ⟨_, rfl⟩
                                  have hw2 := HW2.out
                                  have hlg := FIN12.out.tel.log
                                  rw [← hes.out] at hw2 hlg
                                  obtain ⟨a2, c2, rfl, hsl2⟩ := hw2.sl
                                  obtain ⟨v1, hv1, a1, c1, rfl, hsl1⟩ := hlg.sl
                                  have hel : es.length ≤ 2 := by rw [hes.out]; cases b3 <;> cases tk <;> simp
                                  have hk00 := KW.out k0 (List.mem_cons_self ..)
                                  have hne : Hid (∀ e ∈ es, ∀ v, (binOp .neq 88 (.agg e.cells) (.agg e.cells)).run Yba.prog v = .ok (.bool false) v) := by
                                    intro e he v
                                    rw [hes.out] at he
                                    rcases List.mem_append.1 he with h | h
                                    · cases b3
                                      · simp at h
                                      · simp at h
                                        subst h
                                        exact neq88 _ (show (Lit.int .u8 4).wf = true by decide) hp (show xS.size ≤ maxLen by decide) wf0 (show ByteArray.size ⟨#[]⟩ ≤ maxLen by decide) v
                                    · cases tk
                                      · simp at h
                                      · simp at h
                                        subst h
                                        exact neq88 _ (show (Lit.int .u8 2).wf = true by decide) hp (show xS.size ≤ maxLen by decide) (wf_u8 hk00.1 hk00.2) (show xS.size ≤ maxLen by decide) v
                                  have bL : L < wc.heap.size := World.block_lt_of_cell? _ _ hv1
                                  have HS1 := hideP hsl1
                                  have HS2 := hideP hsl2
                                  clear hw2 hlg hsl1 hsl2 hes HW2
                                  generalize hln : es.length = ln at *
                                  go_wp2_with fail
                                  go_loopw [305] (fun t wq => ∃ i : Nat, i ≤ ln ∧ t = .int .i64 i ∧ Only (fun _ => False) wc wq) (fun t _ => ln - (intOf t).toNat)
                                  case atStart => exact ⟨0, Nat.zero_le _, rfl, Only.refl _ _⟩
                                  case round =>
                                    obtain ⟨i, hi, rfl, hO⟩ := hrel
                                    by_cases hlt : i < ln
                                    · obtain ⟨e, he⟩ : ∃ e, es[i]? = some e := ⟨_, List.getElem?_eq_getElem (by omega)⟩
                                      obtain ⟨g1, ha1, r1⟩ := HS1.out i e he
                                      obtain ⟨g2, ha2, r2⟩ := HS2.out i e he
                                      have hq := hne.out e (List.mem_of_getElem? he)
                                      subst ha1 ha2
                                      have r1' := hO.range (by simp) r1
                                      have r2' := hO.range (by simp) r2
                                      have l1 : EvtLie wr g1 (i * 43) := ⟨e, r1'⟩
                                      have l2 : EvtLie wr g2 (i * 43) := ⟨e, r2'⟩
                                      have v1 : evtAt wr g1 (i * 43) = e := evtAt_of r1'
                                      have v2 : evtAt wr g2 (i * 43) = e := evtAt_of r2'
                                      have hv2 := hO.cell (by simp) hv1
                                      have i0 : (0 : Int) ≤ (i : Int) := by omega
                                      have i1 : (i : Int) < (ln : Int) := by omega
                                      have HO := hideP hO
                                      clear r1 r2 r1' r2' hO he HS1 HS2
                                      go_wp2_with fail
                                      go_quiet (fail)
                                      clear hq l1 l2 v1 v2
                                      go_wp2
                                      go_roundw
                                      case rel => exact ⟨i + 1, hlt, by go_num, HO.out.drewN _⟩
                                      case measure => simp [intOf]; omega
                                    · obtain rfl : ln = i := by omega
                                      have fin13 := FIN12.out.only (hO.weaken (fun _ _ h => h.elim))
                                      have c4 := fin13.tel.c4
                                      have c5 := fin13.tel.c5
                                      have c7 := fin13.tel.tel.c7
                                      have bT : T < wr.heap.size := fin13.tel.lt
                                      obtain ⟨q1, e1, e2⟩ := id_facts (pr_id fin13.old.rP)
                                      have bP : PB < wr.heap.size := World.block_lt_of_cell? _ _ e1
                                      have lk : ∀ m, (Instr.lookup 91 (.map (some E)) (.agg (idA p 0)) false).run Yba.prog (wr.drewN m) = .ok (.bool false) (wr.drewN m) := fun m =>
                                        look_none under91 key (show MapAt (wr.drewN m) E [] from fin13.tel.dead) (by simp) (Yba.zeroValue4 _) false
                                      have FIN13 := hideP fin13
                                      clear fin13 FIN12 hO hv1 HS1 HS2
                                      go_wp2_with fail
                                      go_quiet (fail)
                                      have fin14 := FIN13.out.only (((Only.refl _ wr).drewN nq).weaken (fun _ _ h => h))
                                      clear FIN13 c4 c5 c7 bT q1 e1 e2 bP lk
                                      generalize wr.drewN nq = W14 at *
                                      obtain ⟨q1, e1, e2⟩ := pr_facts fin14.nod.me
                                      obtain ⟨q2, e3, e4⟩ := pr_facts fin14.old.rS
                                      have bN : N < W14.heap.size := World.block_lt_of_cell? _ _ e1
                                      have bSB : SB < W14.heap.size := World.block_lt_of_cell? _ _ e3
                                      have hq := fun v => eql31 (wf_u8 s0 s1) (wf_u8 s0 s1) true (by simp) v
                                      have BEL14 := hideP fin14.old.bel
                                      clear fin14
                                      go_wp2_with fail
                                      go_quiet (fail)
                                      go_wp2
                                      go_ret
                                      exact ⟨rfl, below_drewN BEL14.out _⟩
end Go.Proofs.Ybulkbpmg
