/-
  YbulkbpmgNod: the node's state; Node.heardFromLocked.
-/
import Derived.Test.YbulkbpmgHear
import Derived.Deep.DeepCutAuto
namespace Go.Proofs.Ybulkbpmg
open Go.RowKit Go.MuLone
set_option linter.unusedVariables false
set_option linter.unusedSimpArgs false
attribute [local go_sem] setCell_drewN alloc_drewN setCells_drewN setCells_drew setCells_alloc_at setCells_alloc_past there_new there_past idA_size prA_size idA_len prA_len run_load29 run_load31 run_store29 run_store31 run_build31 idLie_alloc prLie_alloc idLie_new prLie_new idLie_prnew idLie_drewN prLie_drewN idLie_drew prLie_drew idA0 idA1 prA0 prA1 prA20 idA_0 idA_1 prA_0 prA_1 prA_20 intAt strAt oInt_int oStr_string
attribute [local go_sem ↓] zero31 zero29 load29_in load31_in store29_in store31_in build31_in

theorem Only.andThen {p q : Nat → Prop} {a b c : World} (h : Only p a b) (k : Only q b c) (hq : ∀ i, i < a.heap.size → q i → p i) : Only p a c :=
  ⟨k.os.trans h.os, k.tape.trans h.tape, k.output.trans h.output, Nat.le_trans h.size k.size, fun i hi hp => (k.block i (Nat.lt_of_lt_of_le hi h.size) (fun hqi => hp (hq i hi hqi))).trans (h.block i hi hp),
    fun x hx => (k.frozen x (Nat.lt_of_lt_of_le hx h.size)).trans (h.frozen x hx)⟩

/-- The node's cells that the road reads and writes. -/
structure Nod (w : World) (N S T D C n c : Nat) (sf rr mu hr rl : Int) : Prop where
  me : w.rangeAt N 0 (prA sf xS).toList
  r : w.cell? ⟨N, 22, none⟩ = some (.int .i64 rr)
  ev : w.cell? ⟨N, 25, none⟩ = some (.pointer (some ⟨T, 0, none⟩))
  mu : w.cell? ⟨N, 28, none⟩ = some (.int .i32 mu)
  succs : w.cell? ⟨N, 30, none⟩ = some (.slice (some ⟨S, 0, none⟩) n c)
  dead : w.cell? ⟨N, 3415, none⟩ = some (.map (some D))
  calling : w.cell? ⟨N, 3470, none⟩ = some (.map (some C))
  hear : w.cell? ⟨N, 3471, none⟩ = some (.int .u64 hr)
  relk : w.cell? ⟨N, 3472, none⟩ = some (.int .i64 rl)
  fz : ∀ k, w.frozen? ⟨N, k, none⟩ = false
theorem Nod.lt {w : World} {N S T D C n c : Nat} {sf rr mu hr rl : Int} (h : Nod w N S T D C n c sf rr mu hr rl) : N < w.heap.size := World.block_lt_of_cell? _ _ h.r
theorem Nod.only {p : Nat → Prop} {w w' : World} {N S T D C n c : Nat} {sf rr mu hr rl : Int} (h : Nod w N S T D C n c sf rr mu hr rl) (hO : Only p w w') (hN : ¬ p N) : Nod w' N S T D C n c sf rr mu hr rl :=
  ⟨hO.range hN h.me, hO.cell hN h.r, hO.cell hN h.ev, hO.cell hN h.mu, hO.cell hN h.succs, hO.cell hN h.dead, hO.cell hN h.calling, hO.cell hN h.hear, hO.cell hN h.relk, fun k => (hO.frozen ⟨N, k, none⟩ h.lt).trans (h.fz k)⟩
theorem set_cell {w : World} {b k j : Nat} {v u : Value} (hj : j ≠ k) (h : w.cell? ⟨b, j, none⟩ = some u) : (w.setCell ⟨b, k, none⟩ v).cell? ⟨b, j, none⟩ = some u := by
  rw [World.cell?_setCell_other _ _ _ _ (by simp <;> omega)]; exact h
theorem set_range {w : World} {b k o : Nat} {v : Value} {cs : List Value} (hk : o + cs.length ≤ k) (h : w.rangeAt b o cs) : (w.setCell ⟨b, k, none⟩ v).rangeAt b o cs := fun j u hu => by
  have hj : j < cs.length := (List.getElem?_eq_some_iff.1 hu).1
  exact set_cell (by omega) (h j u hu)
theorem Nod.setHear {w : World} {N S T D C n c : Nat} {sf rr mu hr rl : Int} (h : Nod w N S T D C n c sf rr mu hr rl) (x : Int) : Nod (w.setCell ⟨N, 3471, none⟩ (.int .u64 x)) N S T D C n c sf rr mu x rl :=
  ⟨set_range (by rw [prA_len]; omega) h.me, set_cell (by omega) h.r, set_cell (by omega) h.ev, set_cell (by omega) h.mu, set_cell (by omega) h.succs, set_cell (by omega) h.dead, set_cell (by omega) h.calling, World.cell?_setCell_same _ _ _ h.hear, set_cell (by omega) h.relk, fun k => by rw [World.frozen?_setCell]; exact h.fz k⟩
theorem Nod.setMu {w : World} {N S T D C n c : Nat} {sf rr mu hr rl : Int} (h : Nod w N S T D C n c sf rr mu hr rl) (x : Int) : Nod (w.setCell ⟨N, 28, none⟩ (.int .i32 x)) N S T D C n c sf rr x hr rl :=
  ⟨set_range (by rw [prA_len]; omega) h.me, set_cell (by omega) h.r, set_cell (by omega) h.ev, World.cell?_setCell_same _ _ _ h.mu, set_cell (by omega) h.succs, set_cell (by omega) h.dead, set_cell (by omega) h.calling, set_cell (by omega) h.hear, set_cell (by omega) h.relk, fun k => by rw [World.frozen?_setCell]; exact h.fz k⟩
theorem Nod.setRelk {w : World} {N S T D C n c : Nat} {sf rr mu hr rl : Int} (h : Nod w N S T D C n c sf rr mu hr rl) (x : Int) : Nod (w.setCell ⟨N, 3472, none⟩ (.int .i64 x)) N S T D C n c sf rr mu hr x :=
  ⟨set_range (by rw [prA_len]; omega) h.me, set_cell (by omega) h.r, set_cell (by omega) h.ev, set_cell (by omega) h.mu, set_cell (by omega) h.succs, set_cell (by omega) h.dead, set_cell (by omega) h.calling, set_cell (by omega) h.hear, World.cell?_setCell_same _ _ _ h.relk, fun k => by rw [World.frozen?_setCell]; exact h.fz k⟩
theorem Nod.setSuccs {w : World} {N S T D C n c : Nat} {sf rr mu hr rl : Int} (h : Nod w N S T D C n c sf rr mu hr rl) (S' n' c' : Nat) : Nod (w.setCell ⟨N, 30, none⟩ (.slice (some ⟨S', 0, none⟩) n' c')) N S' T D C n' c' sf rr mu hr rl :=
  ⟨set_range (by rw [prA_len]; omega) h.me, set_cell (by omega) h.r, set_cell (by omega) h.ev, set_cell (by omega) h.mu, World.cell?_setCell_same _ _ _ h.succs, set_cell (by omega) h.dead, set_cell (by omega) h.calling, set_cell (by omega) h.hear, set_cell (by omega) h.relk, fun k => by rw [World.frozen?_setCell]; exact h.fz k⟩

def deadL (b : Bool) (p : Int) : List (Value × Value) := [(.agg (idA 0 1), .int .i64 7)] ++ (if b then [(.agg (idA p 0), .int .i64 1)] else [])
def callL (b : Bool) (p x : Int) : List (Value × Value) := if b then [(.agg (idA p 0), .agg #[.int .i64 2, .int .u64 x])] else []

theorem under91 : Yba.prog.underlying 91 = some (.map 29 4) := Yba.underlying91
theorem under47 : Yba.prog.underlying 47 = some (.map 29 3) := Yba.underlying47
theorem under63 : Yba.prog.underlying 63 = some (.map 29 84) := Yba.underlying63

set_option maxRecDepth 100000 in
set_option maxHeartbeats 1000000 in
theorem hearl_walk (N S T D C L E n c : Nat) (sf rr mu hr rl p : Int) (b1 b2 b3 : Bool) (w : World) (hp : (Lit.int .u8 p).wf = true) (h : Nod w N S T D C n c sf rr mu hr rl) (hD : MapAt w D (deadL b1 p)) (hC : MapAt w C (callL b2 p 0)) (hT : TelS w T L E [] none (told b3 p))
    (o1 : D < C) (o2 : C < L) (o3 : L < E) (o4 : E < T) (o5 : T < N) :
    Calls Yba.prog 19 #[.pointer (some ⟨N, 0, none⟩), .agg (prA p xS)] w fun r w' => r = .returned (.tuple #[]) ∧ ∃ lb', Nod w' N S T D C n c sf rr mu (IntKind.u64.wrap (hr + 1)) rl ∧ MapAt w' D (deadL false p) ∧ MapAt w' C (callL b2 p (IntKind.u64.wrap (hr + 1))) ∧ TelS w' T L E (if b3 then [evBack p] else []) lb' [] ∧
      (∀ g, lb' = some g → w.heap.size ≤ g) ∧ Only (fun q => q = N ∨ q = D ∨ q = C ∨ q = T ∨ q = L ∨ q = E) w w' := by
  have c9 := h.hear
  have f9 := h.fz 3471
  have bN := h.lt
  have H := hideP h
  have HD := hideP hD
  have HC := hideP hC
  have HT := hideP hT
  clear h hD hC hT
  go_enter Yba.func19, Yba.ntmps19
  go_wp2_with fail
  have n1 := (H.out.setHear (IntKind.u64.wrap (hr + 1))).only (p := fun _ => False) (Only.alloc (Only.refl _ _) (.cells (prA p xS) 31)) (by simp)
  have oW : Only (fun q => q = N) w ((w.setCell ⟨N, 3471, none⟩ (.int .u64 (IntKind.u64.wrap (hr + 1)))).alloc (.cells (prA p xS) 31)) := Only.alloc (Only.setCell (p := fun q => q = N) (Only.refl _ _) (q := ⟨N, 3471, none⟩) rfl _) _
  have r1 : ((w.setCell ⟨N, 3471, none⟩ (.int .u64 (IntKind.u64.wrap (hr + 1)))).alloc (.cells (prA p xS) 31)).rangeAt w.heap.size 0 (prA p xS).toList := range_new _ (prA p xS) 31 _ (by simp)
  have sz : ((w.setCell ⟨N, 3471, none⟩ (.int .u64 (IntKind.u64.wrap (hr + 1)))).alloc (.cells (prA p xS) 31)).heap.size = w.heap.size + 1 := by simp
  generalize hh : IntKind.u64.wrap (hr + 1) = h1 at n1 oW r1 sz ⊢
  have HH := hideP hh
  clear hh
  generalize ((w.setCell ⟨N, 3471, none⟩ (.int .u64 h1)).alloc (.cells (prA p xS) 31)) = W1 at *
  have dd := HD.out.only oW (by omega)
  have cc := HC.out.only oW (by omega)
  have tt := HT.out.only oW (by omega) (by omega) (by omega) (by simp)
  have key := keyOf29 hp wf0
  obtain ⟨i1, e1, e2⟩ := id_facts (pr_id r1)
  have cl := n1.calling
  obtain ⟨v2, hv2⟩ : ∃ v2 : Int, Hid (v2 = if b2 then 2 else 0) := ⟨_, rfl⟩
  have lk : ∀ w', MapAt w' C (callL b2 p 0) → (Instr.lookup 63 (.map (some C)) (.agg (idA p 0)) true).run Yba.prog w' = .ok (.tuple #[.agg #[.int .i64 v2, .int .u64 0], .bool b2]) w' := fun w' h' => by
    rw [hv2.out]
    cases b2 with
    | true => exact look_some under63 key h' (v := .agg #[.int .i64 2, .int .u64 0]) (by simp [callL]) (by simp [callL]) true
    | false => exact look_none under63 key h' (by simp [callL]) (Yba.zeroValue84 _) true
  have lk1 := lk W1.drew cc
  have lk2 := lk (W1.alloc (.cells #[.int .i64 0, .int .u64 0] 84)).drew (cc.only (p := fun _ => False) (Only.alloc (Only.refl _ _) _).drew (by simp))
  have bw : w.heap.size < W1.heap.size := by omega
  have bN1 : N < W1.heap.size := by omega
  have N1 := hideP n1
  have DD := hideP dd
  have CC := hideP cc
  have TT := hideP tt
  have OW := hideP oW
  have R1 := hideP r1
  have SZ := hideP sz
  clear n1 dd cc tt oW r1 lk c9 f9 sz
  go_cut [4, 5] from 6 (fun s4 s5 wc => s4 = .pointer (some ⟨W1.heap.size, 0, none⟩) ∧ s5 = .bool b2 ∧ wc.cell? ⟨W1.heap.size, 0, none⟩ = some (.int .i64 v2) ∧ wc.cell? ⟨W1.heap.size, 1, none⟩ = some (.int .u64 0) ∧ wc.frozen? ⟨W1.heap.size, 1, none⟩ = false ∧ Only (fun _ => False) W1 wc)
  case first =>
    go_region
    all_goals (
      go_wp2
      go_meet
      case rel => exact ⟨rfl, rfl, by go_simp, by go_simp, by go_simp, (Only.alloc (Only.refl _ _) _).drew⟩)
  case rest =>
    obtain ⟨rfl, rfl, k0, k1, k2, hO⟩ := hcut
    have n2 := N1.out.only hO (by simp)
    have cc2 := CC.out.only hO (by simp)
    have dd2 := DD.out.only hO (by simp)
    have tt2 := TT.out.only hO (by simp) (by simp) (by simp) (by simp)
    have r2 := hO.range (by simp) R1.out
    have oo2 : Only (fun q => q = N ∨ q = C) w wc := (OW.out.weaken (fun q _ h => .inl h)).trans (hO.weaken (by simp))
    obtain ⟨i2, e3, e4⟩ := id_facts (pr_id r2)
    have cl2 := n2.calling
    have hr2 := n2.hear
    have bw2 : W1.heap.size < wc.heap.size := World.block_lt_of_cell? _ _ k0
    have N2 := hideP n2
    have DD2 := hideP dd2
    have CC2 := hideP cc2
    have TT2 := hideP tt2
    have OO2 := hideP oo2
    have R2 := hideP r2
    clear n2 dd2 cc2 tt2 oo2 r2 hO N1 DD CC TT R1 OW lk1 lk2 i1 e1 e2 cl
    go_upto_if 23 with fail
    go_cut [] from 6 (fun wd => Nod wd N S T D C n c sf rr mu h1 rl ∧ MapAt wd D (deadL b1 p) ∧ MapAt wd C (callL b2 p h1) ∧ TelS wd T L E [] none (told b3 p) ∧ wd.rangeAt w.heap.size 0 (prA p xS).toList ∧ Only (fun q => q = N ∨ q = C) w wd)
    case first =>
      cases b2
      · go_wp2
        go_meet
        case rel => exact ⟨N2.out, DD2.out, CC2.out, TT2.out, R2.out, OO2.out⟩
      · have hv : v2 = 2 := hv2.out
        subst hv
        have m2 : MapAt (wc.setCell ⟨W1.heap.size, 1, none⟩ (.int .u64 h1)) C [(.agg (idA p 0), .agg #[.int .i64 2, .int .u64 0])] := CC2.out.only (p := fun q => q = W1.heap.size) (Only.setCell (p := fun q => q = W1.heap.size) (Only.refl _ _) (q := ⟨W1.heap.size, 1, none⟩) rfl _) (by omega)
        go_wp2_with fail
        have o2' : Only (fun q => q = W1.heap.size) wc (wc.setCell ⟨W1.heap.size, 1, none⟩ (.int .u64 h1)) := Only.setCell (p := fun q => q = W1.heap.size) (Only.refl _ _) (q := ⟨W1.heap.size, 1, none⟩) rfl _
        have k0' : (wc.setCell ⟨W1.heap.size, 1, none⟩ (.int .u64 h1)).cell? ⟨W1.heap.size, 0, none⟩ = some (.int .i64 2) := set_cell (by omega) k0
        have k1' : (wc.setCell ⟨W1.heap.size, 1, none⟩ (.int .u64 h1)).cell? ⟨W1.heap.size, 1, none⟩ = some (.int .u64 h1) := World.cell?_setCell_same _ _ _ k1
        generalize (wc.setCell ⟨W1.heap.size, 1, none⟩ (.int .u64 h1)) = W2 at *
        obtain ⟨w3, hu, m3, O3⟩ := upd_one under63 key m2 (.agg #[.int .i64 2, .int .u64 h1])
        have hu1 : (Instr.mapUpdate 63 (.map (some C)) (.agg (idA p 0)) (.agg #[.int .i64 2, .int .u64 h1])).run Yba.prog W2.drew = .ok () w3.drew := hu 1
        obtain ⟨j2, e5, e6⟩ := id_facts (pr_id (o2'.range (by omega) R2.out))
        have cl3 := o2'.cell (by simp; omega) cl2
        have bN2 : N < W2.heap.size := World.block_lt_of_cell? _ _ cl3
        have bW2 : w.heap.size < W2.heap.size := World.block_lt_of_cell? _ _ e5
        have bX2 : W1.heap.size < W2.heap.size := World.block_lt_of_cell? _ _ k0'
        have M3 := hideP m3
        have OX := hideP ((o2'.weaken (q := fun q => q = W1.heap.size ∨ q = C) (fun q _ h => .inl h)).trans (O3.weaken (fun q _ h => .inr h)))
        clear hu m3 O3 m2 o2' i2 e3 e4 cl2 k0 k1 k2
        go_region
        all_goals (
          go_wp2
          go_meet
          case rel =>
            have O := OX.out.drew
            have sz := SZ.out
            exact ⟨N2.out.only O (by omega), DD2.out.only O (by omega), M3.out, TT2.out.only O (by omega) (by omega) (by omega) (by simp), O.range (by omega) R2.out, OO2.out.andThen O (fun i hi h => by omega)⟩)
    case rest =>
      clear N2 DD2 CC2 TT2 OO2 R2 i2 e3 e4 cl2 hr2 bw2 k0 k1 k2
      obtain ⟨n5, d5, c5, t5, r5, o5'⟩ := hcut
      obtain ⟨w6, hdel, d6, O6⟩ : ∃ w', (∀ m, (Builtin.delete_ #[47, 29] 0 #[.map (some D), .agg (idA p 0)]).run Yba.prog (wc.drewN m) = .ok (.tuple #[]) (w'.drewN m)) ∧ MapAt w' D (deadL false p) ∧ Only (fun q => q = D) wc w' := by
        have hne : ∀ x ∈ ([(.agg (idA 0 1), .int .i64 7)] : List (Value × Value)), x.1 ≠ .agg (idA p 0) := by
          intro x hx
          simp at hx
          subst hx
          intro e
          rw [idA_inj] at e
          omega
        cases b1 with
        | true => exact del_last (es := [(.agg (idA 0 1), .int .i64 7)]) under47 key d5 hne 0
        | false => exact del_none under47 key d5 hne 0
      have hdel1 : (Builtin.delete_ #[47, 29] 0 #[.map (some D), .agg (idA p 0)]).run Yba.prog wc.drew = .ok (.tuple #[]) w6.drew := hdel 1
      obtain ⟨j5, e5, e6⟩ := id_facts (pr_id r5)
      have cd := n5.dead
      have bN5 := n5.lt
      have bw5 : w.heap.size < wc.heap.size := World.block_lt_of_cell? _ _ e5
      have n6 := n5.only O6 (by omega)
      have c6 := c5.only O6 (by omega)
      have t6 := t5.only O6 (by omega) (by omega) (by omega) (by simp)
      have r6 := O6.range (by omega) r5
      have o6 : Only (fun q => q = N ∨ q = C ∨ q = D) w w6 := (o5'.weaken (fun q _ h => h.elim .inl (fun h => .inr (.inl h)))).trans (O6.weaken (fun q _ h => .inr (.inr h)))
      obtain ⟨p6, e7, e8⟩ := pr_facts r6
      have ev6 := n6.ev
      have bN6 := n6.lt
      have bw6 : w.heap.size < w6.heap.size := World.block_lt_of_cell? _ _ e7
      have M : Hid (∀ w', Only (fun _ => False) w6 w' → Calls Yba.prog 27 #[.pointer (some ⟨T, 0, none⟩), .agg (prA p xS)] w' fun r w'' => r = .returned (.tuple #[]) ∧
          ∃ lb', TelS w'' T L E (if b3 then [evBack p] else []) lb' [] ∧ (∀ g, lb' = some g → w'.heap.size ≤ g) ∧ Only (fun q => q = T ∨ q = L ∨ q = E) w' w'') := fun w' hw' => heard_walk T L E p b3 w' hp (t6.only hw' (by simp) (by simp) (by simp) (by simp))
      have N6 := hideP n6
      have D6 := hideP d6
      have C6 := hideP c6
      have O6' := hideP o6
      clear n5 d5 c5 t5 r5 o5' hdel O6 n6 d6 c6 t6 r6 o6
      go_wp2_with fail
      go_cut [] from 6 (fun wd => wd = w6.drew)
      case first =>
        go_region
        all_goals (
          go_wp2
          go_meet
          case rel => exact rfl)
      case rest =>
        subst hcut
        go_wp2_with fail
        go_region_with (go_at_call 27; refine (M.out _ (Only.refl _ _).drew.drew).mono ?_; rintro e7 w7 ⟨rfl, lb', t7, q7, o7⟩)
        all_goals (
          go_end0
          have O7 : Only (fun q => q = T ∨ q = L ∨ q = E) w6 w7 := (Only.refl _ w6).drew.drew.trans o7
          rw [HH.out]
          exact ⟨rfl, lb', N6.out.only O7 (by omega), D6.out.only O7 (by omega), C6.out.only O7 (by omega), t7, fun g hg => Nat.le_trans O6'.out.size (q7 g hg), O6'.out.weaken (fun q _ h => by omega) |>.andThen O7 (fun i hi h => by omega)⟩)
end Go.Proofs.Ybulkbpmg
