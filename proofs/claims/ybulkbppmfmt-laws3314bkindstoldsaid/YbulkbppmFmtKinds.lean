/-
  YbulkbppmFmtKinds: the walks of LawS3314BKinds: append onto nil, bytes.Equal, the closure.
-/
import Derived.Test.YbulkbppmFmtWalks
import Derived.Shelf.Bytes.SlEqualAll
import Derived.ArgAppend
import Derived.Laws.AppendOwnNone
import Derived.Handy
import Derived.WalkSpells
import Derived.WalkLawsBesides
namespace Go.Proofs.YbulkbppmFmt
open Go.RowKit Go.Extern.Stop Go.Stop Go.Extern
set_option linter.unusedVariables false
set_option linter.unusedSimpArgs false

theorem hide {p : Prop} (h : p) : Hid p := h

theorem info5 : (Ybaf.prog.info? 5).map (fun i => (i.zero, i.size, i.bytes)) = some (some (.int .u8 0), 1, 1) := by kernel_rfl

/-- 'append([]byte(nil), x...)': the same bytes, in a block of their own (none at all: nil). -/
theorem app_nil {w : World} {ops : Array Oper} {rest : List Oper} {o : Oper} {a : Act} {Q : Exit → Act → World → Prop} (hg : o.guard = none) (x : Operand)
    (hop : o.op = Op.call { callee := Callee.builtin Builtin.append, args := #[.const (.slice none 0 0), x], argTypes := #[22, 22] })
    (p : Option Addr) (n c : Nat) (xs : List Int) (hx : a.eval x = .slice p n c) (hl : xs.length = n) (hn : n ≤ 1024) (h0 : p = none → c = 0) (hin : Lib.BytesIn w p n xs)
    (hK : ∀ p' c' w', Lib.BytesIn w' p' n xs → (p' = none → c' = 0) → (∀ q, p' = some q → w.heap.size ≤ q.block ∧ q.block < w'.heap.size) → Below w.heap.size w w' → wpList Ybaf.prog ops Q rest (a.put o.dst (.slice p' n c')) w') :
    wpList Ybaf.prog ops Q (o :: rest) a w := by
  obtain ⟨i, hi, hi'⟩ := Option.map_eq_some_iff.1 info5
  simp only [Prod.mk.injEq] at hi'
  have hown : w.ownsRow w.heap.size 5 1 (.slice none 0 0) 0 [] := ⟨rfl, .inl ⟨rfl, rfl⟩⟩
  rcases Nat.eq_zero_or_pos n with hz | hpos
  · subst hz
    obtain rfl := List.eq_nil_of_length_eq_zero hl
    cases p with
    | none =>
      have hc := h0 rfl
      subst hc
      exact wpList_append_own_none hg _ x 22 hop w.heap.size 5 i 1 Ybaf.underlying22 hi _ 0 [] rfl hown hx (hK none 0 w (Lib.BytesIn.nil _ _ _) (fun _ => rfl) (fun _ h => by cases h) (Below.refl _ _))
    | some ad =>
      refine wpList_append_own _ hg _ x 22 hop w.heap.size 5 i _ 1 1 Ybaf.underlying22 hi hi'.1 hi'.2.1 hi'.2.2 rfl (by decide) _ 0 [] rfl hown ad 0 c [] hx rfl (fun j u h => by simp at h) (fun u h => by cases h) (by decide) (by decide) (Nat.le_refl _) ?_
      intro v' w' hown' hgr hv
      obtain rfl := hv.2 ⟨rfl, rfl⟩
      exact hK none 0 w' (Lib.BytesIn.nil _ _ _) (fun _ => rfl) (fun _ h => by cases h) ⟨hgr.os, hgr.tape, hgr.output, hgr.size, fun k hk => hgr.block k hk (by show some k ≠ none; simp)⟩
  · obtain ⟨b, off, rfl, hc⟩ := hin.at hpos
    refine wpList_append_own _ hg _ x 22 hop w.heap.size 5 i _ 1 1 Ybaf.underlying22 hi hi'.1 hi'.2.1 hi'.2.2 rfl (by decide) _ 0 [] rfl hown ⟨b, off, none⟩ n c (xs.map (Value.int .u8)) hx (by simp [hl]) (fun j u h => ?_) (fun u h => ?_) (by unfold maxLen; omega) (by omega) (Nat.le_refl _) ?_
    · rw [List.getElem?_map] at h
      cases hj : xs[j]? with
      | none => simp [hj] at h
      | some z =>
        simp [hj] at h
        subst h
        have hlt : j < xs.length := (List.getElem?_eq_some_iff.1 hj).1
        have := hc j (by omega)
        rw [Addr.add_lit]
        simpa [hj] using this
    · obtain ⟨z, _, rfl⟩ := List.mem_map.1 h
      rfl
    · intro v' w' hown' hgr hv
      obtain ⟨hl', h⟩ := hown'
      rcases h with ⟨_, hz⟩ | ⟨g, cap, cur, hv', hb, hg', hcap, hm, hs, ht⟩
      · omega
      · subst hv'
        simp only [Nat.zero_add, Nat.mul_one, List.nil_append] at *
        refine hK (some ⟨g, 0, none⟩) cap w' (fun _ => ⟨g, 0, rfl, fun j hj => ?_⟩) (fun h => by cases h) (fun q h => by cases h; exact ⟨hb, (Array.getElem?_eq_some_iff.1 hg').1⟩) ⟨hgr.os, hgr.tape, hgr.output, hgr.size, fun k hk => hgr.block k hk (by show some k ≠ none; simp)⟩
        have hlt : j < xs.length := by omega
        have e : (cur.toList.take n)[j]? = (xs.map (Value.int .u8))[j]? := by rw [ht]
        rw [List.getElem?_take, if_pos hj, List.getElem?_map, List.getElem?_eq_getElem hlt] at e
        simp only [World.cell?, hg', Nat.zero_add]
        simpa [List.getElem?_eq_getElem hlt] using e

theorem equal_walk (p1 p2 : Option Addr) (n c m d : Nat) (xs ys : List Int) (w : World) (hx : xs.length = n) (hy : ys.length = m) (h1 : Lib.BytesIn w p1 n xs) (h2 : Lib.BytesIn w p2 m ys) (he : xs = ys) :
    Calls Ybaf.prog 8 #[.slice p1 n c, .slice p2 m d] w fun e w' => e = .returned (.bool true) ∧ w' = w := by
  have c1 := h1.convert (P := Ybaf.prog) hx c 22 5 9 Ybaf.underlying22 Ybaf.underlying5 Ybaf.underlying9
  have c2 := h2.convert (P := Ybaf.prog) hy d 22 5 9 Ybaf.underlying22 Ybaf.underlying5 Ybaf.underlying9
  subst he
  clear h1 h2
  go_enter Ybaf.func8, Ybaf.ntmps8
  go_wp2
  go_ret
  exact ⟨rfl, rfl⟩

theorem keepC {w w' : World} {a q : Addr} {v u : Value} (bel : Below (w.setCell a v).heap.size (w.setCell a v) w') (hc : w.cell? q = some u) (hq : q.block ≠ a.block) : w'.cell? q = some u := by
  have h1 : (w.setCell a v).cell? q = some u := by rw [World.cell?_setCell_other _ _ _ _ (fun e => hq (by rw [e]))]; exact hc
  rw [bel.cell (World.block_lt_of_cell? _ _ h1)]; exact h1
theorem keepF {w w' : World} {a q : Addr} {v u : Value} (bel : Below (w.setCell a v).heap.size (w.setCell a v) w') (hc : w.cell? q = some u) (hf : w.frozen? q = false) : w'.frozen? q = false := by
  have h1 : q.block < (w.setCell a v).heap.size := by
    have := World.block_lt_of_cell? _ _ hc
    simpa [World.setCell] using this
  rw [bel.frozen h1, World.frozen?_setCell]; exact hf
theorem keepS {w w' : World} {a : Addr} {v u : Value} (bel : Below (w.setCell a v).heap.size (w.setCell a v) w') (hc : w.cell? a = some u) : w'.cell? a = some v := by
  have h1 : (w.setCell a v).cell? a = some v := World.cell?_setCell_same _ _ _ hc
  rw [bel.cell (World.block_lt_of_cell? _ _ h1)]; exact h1

theorem bytes_later {w w' : World} {p : Option Addr} {n : Nat} {xs : List Int} (h : Lib.BytesIn w p n xs) (hk : ∀ b off, p = some ⟨b, off, none⟩ → ∀ j u, w.cell? ⟨b, off + j, none⟩ = some u → w'.cell? ⟨b, off + j, none⟩ = some u) : Lib.BytesIn w' p n xs := fun hn => by
  obtain ⟨b, off, rfl, hc⟩ := h.at hn
  exact ⟨b, off, rfl, fun i hi => hk b off rfl i _ (hc i hi)⟩

/-- What the closure leaves. -/
structure Left (B n : Nat) (k : Int) (nm : ByteArray) (xs : List Int) (q : Nat) (p' : Option Addr) (c' : Nat) (w w' : World) : Prop where
  bel : Below B w w'
  c0 : w'.cell? ⟨B, 0, none⟩ = some (.int .i64 1)
  c1 : w'.cell? ⟨B + 1, 0, none⟩ = some (.int .i64 k)
  c2 : w'.cell? ⟨B + 2, 0, none⟩ = some (.string nm)
  c3 : w'.cell? ⟨B + 3, 0, none⟩ = some (.slice p' n c')
  got : Lib.BytesIn w' p' n xs
  out : Lib.BytesIn w' (some ⟨q, 0, none⟩) 2 [(n : Int) % 256, 7]

set_option maxHeartbeats 1000000 in
theorem closure_walk (B : Nat) (p : Option Addr) (n c : Nat) (xs : List Int) (k z0 : Int) (nm : ByteArray) (w : World) (hl : xs.length = n) (hn : n ≤ 1024) (h0 : p = none → c = 0) (hin : Lib.BytesIn (w.setCell ⟨B, 0, none⟩ (.int .i64 1)) p n xs)
    (hB : B + 4 ≤ w.heap.size)
    (c0 : w.cell? ⟨B, 0, none⟩ = some (.int .i64 0)) (c1 : w.cell? ⟨B + 1, 0, none⟩ = some (.int .i64 z0)) (c2 : w.cell? ⟨B + 2, 0, none⟩ = some (.string ⟨#[]⟩)) (c3 : w.cell? ⟨B + 3, 0, none⟩ = some (.slice none 0 0))
    (f0 : w.frozen? ⟨B, 0, none⟩ = false) (f1 : w.frozen? ⟨B + 1, 0, none⟩ = false) (f2 : w.frozen? ⟨B + 2, 0, none⟩ = false) (f3 : w.frozen? ⟨B + 3, 0, none⟩ = false) :
    Calls Ybaf.prog 6 #[.slice p n c, .int .i64 k, .string nm, .pointer (some ⟨B, 0, none⟩), .pointer (some ⟨B + 3, 0, none⟩), .pointer (some ⟨B + 1, 0, none⟩), .pointer (some ⟨B + 2, 0, none⟩)] w
      fun e w' => ∃ q p' c', e = .returned (.tuple #[.slice (some ⟨q, 0, none⟩) 2 2, .nilIface]) ∧ Left B n k nm xs q p' c' w w' := by
  go_enter Ybaf.func6, Ybaf.ntmps6
  go_wp2_with (at_builtin; go_must (refine app_nil rfl _ rfl p n c xs rfl hl hn h0 hin (fun p' c' w' hin' hp' hq' bel => ?_); have k0 := keepS bel c0; have k1 := keepC bel c1 (by simp); have k2 := keepC bel c2 (by simp); have k3 := keepC bel c3 (by simp); have g1 := keepF bel c1 f1; have g2 := keepF bel c2 f2; have g3 := keepF bel c3 f3; have HI := hide hin'; have HP := hide hp'; have HQ := hide hq'; have HB := hide bel; clear hin' hp' hq' bel))
  go_ret2
  have HI : Lib.BytesIn w' p' n xs := HI
  have HQ : ∀ q, p' = some q → (w.setCell ⟨B, 0, none⟩ (.int .i64 1)).heap.size ≤ q.block ∧ q.block < w'.heap.size := HQ
  have HB : Below (w.setCell ⟨B, 0, none⟩ (.int .i64 1)).heap.size (w.setCell ⟨B, 0, none⟩ (.int .i64 1)) w' := HB
  have hsz : (w.setCell ⟨B, 0, none⟩ (.int .i64 1)).heap.size = w.heap.size := by simp [World.setCell]
  rw [hsz] at HB HQ
  have hs' := HB.size
  rw [hsz] at hs'
  refine ⟨w'.heap.size, p', c', rfl, ?_⟩
  have cA : ∀ (a : Addr) (u : Value), w'.cell? a = some u → B + 3 < a.block → ((((w'.setCell ⟨B + 3, 0, none⟩ (.slice p' n c')).setCell ⟨B + 1, 0, none⟩ (.int .i64 k)).setCell ⟨B + 2, 0, none⟩ (.string nm)).alloc (.cells #[.int .u8 ((n : Int) % 256), .int .u8 7] 5)).cell? a = some u := by
    intro a u ha hlt
    have hb := World.block_lt_of_cell? _ _ ha
    rw [Below.cell ((Below.refl _ _).alloc (Nat.le_refl _) _) (by simpa [World.setCell] using hb)]
    rw [World.cell?_setCell_other _ _ _ _ (by rintro rfl; simp at hlt), World.cell?_setCell_other _ _ _ _ (by rintro rfl; simp at hlt), World.cell?_setCell_other _ _ _ _ (by rintro rfl; simp at hlt)]
    exact ha
  have b1 : Below B w (w.setCell ⟨B, 0, none⟩ (.int .i64 1)) := (Below.refl B w).setCell (p := ⟨B, 0, none⟩) (Nat.le_refl B) _
  have b2 : Below B w w' := b1.trans (HB.mono (by omega))
  have aO : ∀ (X : World) (o : Obj) (a : Addr), a.block < X.heap.size → (X.alloc o).cell? a = X.cell? a := fun X o a h => Below.cell ((Below.refl _ _).alloc (Nat.le_refl _) _) h
  have s1 : ((w'.setCell ⟨B + 3, 0, none⟩ (.slice p' n c')).setCell ⟨B + 1, 0, none⟩ (.int .i64 k)).cell? ⟨B + 2, 0, none⟩ = some (.string ⟨#[]⟩) := by
    rw [World.cell?_setCell_other _ _ _ _ (by simp), World.cell?_setCell_other _ _ _ _ (by simp)]; exact k2
  have s2 : (w'.setCell ⟨B + 3, 0, none⟩ (.slice p' n c')).cell? ⟨B + 1, 0, none⟩ = some (.int .i64 z0) := by
    rw [World.cell?_setCell_other _ _ _ _ (by simp)]; exact k1
  refine ⟨?_, ?_, ?_, ?_, ?_, ?_, ?_⟩
  · exact (((b2.setCell (p := ⟨B + 3, 0, none⟩) (by simp) _).setCell (p := ⟨B + 1, 0, none⟩) (by simp) _).setCell (p := ⟨B + 2, 0, none⟩) (by simp) _).alloc (by simp [World.setCell]; omega) _
  · rw [aO _ _ _ (by simp [World.setCell]; omega), World.cell?_setCell_other _ _ _ _ (by simp), World.cell?_setCell_other _ _ _ _ (by simp), World.cell?_setCell_other _ _ _ _ (by simp)]; exact k0
  · rw [aO _ _ _ (by simp [World.setCell]; omega), World.cell?_setCell_other _ _ _ _ (by simp)]; exact World.cell?_setCell_same _ _ _ s2
  · rw [aO _ _ _ (by simp [World.setCell]; omega)]; exact World.cell?_setCell_same _ _ _ s1
  · rw [aO _ _ _ (by simp [World.setCell]; omega), World.cell?_setCell_other _ _ _ _ (by simp), World.cell?_setCell_other _ _ _ _ (by simp)]; exact World.cell?_setCell_same _ _ _ k3
  · exact bytes_later HI fun b off hp j u hu => cA _ _ hu (by have := (HQ _ hp).1; simp at this ⊢; omega)
  · intro _
    refine ⟨_, _, rfl, fun i hi => ?_⟩
    match i, hi with
    | 0, _ => simp; go_simp
    | 1, _ => simp; go_simp
end Go.Proofs.YbulkbppmFmt
