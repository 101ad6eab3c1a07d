import Derived.Test.YbulkbpmgIdx
import Derived.WalkKit
import Derived.WalkSpells
import Derived.WalkLawsBesides
import Derived.Handy
import Derived.BigQuiet
import Derived.Deep.QuietTactic
import Derived.Deep.MidRow
import Derived.ArgAppend
namespace Go.Proofs.Ybulkbpmg
open Go.RowKit
set_option linter.unusedVariables false


/-- Of what was there all but the blocks in 'p' is as it was. -/
structure Only (p : Nat → Prop) (w w' : World) : Prop where
  os : w'.os = w.os
  tape : w'.tape = w.tape
  output : w'.output = w.output
  size : w.heap.size ≤ w'.heap.size
  block : ∀ k, k < w.heap.size → ¬ p k → w'.heap[k]? = w.heap[k]?
  frozen : ∀ a : Addr, a.block < w.heap.size → w'.frozen? a = w.frozen? a

theorem Only.refl (p : Nat → Prop) (w : World) : Only p w w := ⟨rfl, rfl, rfl, Nat.le_refl _, fun _ _ _ => rfl, fun _ _ => rfl⟩
theorem Only.trans {p : Nat → Prop} {a b c : World} (h : Only p a b) (k : Only p b c) : Only p a c :=
  ⟨k.os.trans h.os, k.tape.trans h.tape, k.output.trans h.output, Nat.le_trans h.size k.size, fun i hi hp => (k.block i (Nat.lt_of_lt_of_le hi h.size) hp).trans (h.block i hi hp),
    fun a ha => (k.frozen a (Nat.lt_of_lt_of_le ha h.size)).trans (h.frozen a ha)⟩
theorem Only.of_below {p : Nat → Prop} {w w' : World} (h : Below w.heap.size w w') : Only p w w' :=
  ⟨h.os, h.tape, h.output, h.size, fun k hk _ => h.block k hk, fun a ha => h.frozen ha⟩
theorem Only.alloc {p : Nat → Prop} {a w : World} (h : Only p a w) (o : Obj) : Only p a (w.alloc o) :=
  h.trans (Only.of_below ((Below.refl _ _).alloc (Nat.le_refl _) _))
theorem Only.setCell {p : Nat → Prop} {a w : World} (h : Only p a w) {q : Addr} (hq : p q.block) (v : Value) : Only p a (w.setCell q v) :=
  h.trans ⟨rfl, rfl, rfl, by simp [World.setCell], fun k hk hp => Below.heap_setCell _ _ _ _ (fun e => hp (e ▸ hq)), fun x _ => World.frozen?_setCell _ _ _ _⟩
theorem Only.setCells {p : Nat → Prop} {b : Nat} (hb : p b) : ∀ (vs : List Value) (o : Nat) {a w : World}, Only p a w → Only p a (w.setCells b o vs)
  | [], _, _, _, h => h
  | v :: r, o, _, _, h => Only.setCells hb r (o + 1) (h.setCell (q := ⟨b, o, none⟩) hb v)
theorem Only.drewN {p : Nat → Prop} {a w : World} (h : Only p a w) (n : Nat) : Only p a (w.drewN n) := ⟨h.os, h.tape, h.output, h.size, h.block, h.frozen⟩
theorem Only.drew {p : Nat → Prop} {a w : World} (h : Only p a w) : Only p a w.drew := ⟨h.os, h.tape, h.output, h.size, h.block, h.frozen⟩
theorem Only.cell {p : Nat → Prop} {w w' : World} (h : Only p w w') {a : Addr} {v : Value} (hp : ¬ p a.block) (hc : w.cell? a = some v) : w'.cell? a = some v :=
  (World.cell?_of_block (w := w) (h.block a.block (World.block_lt_of_cell? _ _ hc) hp)).trans hc
theorem Only.weaken {p q : Nat → Prop} {w w' : World} (h : Only p w w') (hpq : ∀ k, k < w.heap.size → p k → q k) : Only q w w' :=
  ⟨h.os, h.tape, h.output, h.size, fun k hk hn => h.block k hk (fun hp => hn (hpq k hk hp)), h.frozen⟩
theorem Only.below {p : Nat → Prop} {B : Nat} {w w' : World} (h : Only p w w') (hp : ∀ k, k < w.heap.size → p k → B ≤ k) (hB : B ≤ w.heap.size) : Below B w w' :=
  ⟨h.os, h.tape, h.output, h.size, fun k hk => h.block k (by omega) (fun hpk => by have := hp k (by omega) hpk; omega)⟩

/-- The elements 'cs' (n of them, 'size' cells each) lie from offset o of block g on; there is room for 'cap'. -/
structure Row (w : World) (g o n cap size : Nat) (cs : List Value) : Prop where
  len : cs.length = n * size
  le : n ≤ cap
  at' : w.rangeAt g o cs
  there : w.there g o (cap * size)
  one : ∀ v ∈ cs, v.oneCell' = true

theorem Row.later {w w' : World} {g o n cap size : Nat} {cs : List Value} (h : Row w g o n cap size cs) {p : Nat → Prop} (hO : Only p w w') (hg : ¬ p g) (hlt : g < w.heap.size) : Row w' g o n cap size cs :=
  ⟨h.len, h.le, fun j v hv => hO.cell hg (h.at' j v hv), fun j hj => by
    obtain ⟨h1, h2⟩ := h.there j hj
    obtain ⟨u, hu⟩ := Option.isSome_iff_exists.1 h1
    exact ⟨by rw [hO.cell hg hu]; rfl, (hO.frozen _ hlt).trans h2⟩, h.one⟩

theorem only_grown {w w' : World} (h : w.grownBy w' none) (p : Nat → Prop) : Only p w w' :=
  ⟨h.os, h.tape, h.output, h.size, fun k hk _ => h.block k hk (by simp), fun a ha => World.frozen?_of_block (h.block a.block ha (by simp))⟩

theorem row_setCells {w : World} {g o n cap size : Nat} {cs news : List Value} (h : Row w g o n cap size cs) (m : Nat) (hn : news.length = m * size) (h1 : ∀ u ∈ news, u.oneCell' = true) (hr : n + m ≤ cap) :
    Row (w.setCells g (o + n * size) news) g o (n + m) cap size (cs ++ news) := by
  have hle : n * size + m * size ≤ cap * size := by rw [← Nat.add_mul]; exact Nat.mul_le_mul_right _ hr
  refine ⟨by rw [List.length_append, h.len, hn, Nat.add_mul], hr, fun j v hv => ?_, World.there_setCells h.there _ _ _, fun v hv => ?_⟩
  · by_cases hj : j < cs.length
    · rw [List.getElem?_append_left hj] at hv
      rw [World.cell?_setCells_out _ _ _ _ _ (fun _ _ => .inl (by rw [h.len] at hj; simp; omega))]
      exact h.at' j v hv
    · rw [List.getElem?_append_right (by omega)] at hv
      have hj' : j - cs.length < news.length := (List.getElem?_eq_some_iff.1 hv).1
      have hin := World.cell?_setCells_in g news (o + n * size) w (fun i hi => by
        have := (h.there (n * size + i) (by omega)).1
        rwa [← Nat.add_assoc] at this) (j - cs.length) hj'
      have e : o + n * size + (j - cs.length) = o + j := by rw [h.len] at hj ⊢; omega
      rw [e] at hin
      rw [hin, ← hv, List.getElem?_eq_getElem hj']
  · rcases List.mem_append.1 hv with h' | h'
    · exact h.one v h'
    · exact h1 v h'

theorem row_owns {w : World} {base e size : Nat} {v : Value} {n : Nat} {xs : List Value} (h : w.ownsRow base e size v n xs) (hn : 0 < n) (h1 : ∀ u ∈ xs, u.oneCell' = true) :
    ∃ g cap, v = .slice (some ⟨g, 0, none⟩) n cap ∧ base ≤ g ∧ g < w.heap.size ∧ Row w g 0 n cap size xs := by
  obtain ⟨hl, h⟩ := h
  rcases h with ⟨_, h0⟩ | ⟨g, cap, cur, hv, hb, hg, hc, hm, hs, ht⟩
  · omega
  · have hlt : g < w.heap.size := by
      have := (Array.getElem?_eq_some_iff.1 hg).1
      exact this
    refine ⟨g, cap, hv, hb, hlt, ⟨hl, hc, fun j u hu => ?_, fun j hj => ?_, h1⟩⟩
    · have hj : j < xs.length := (List.getElem?_eq_some_iff.1 hu).1
      simp only [World.cell?, hg, Nat.zero_add]
      rw [← ht, List.getElem?_take, if_pos (by omega)] at hu
      simpa using hu
    · simp only [World.cell?, World.frozen?, hg, Nat.zero_add]
      refine ⟨?_, by simp⟩
      have : j < cur.size := by omega
      simp [this]

/-- 'append' onto such a row, both ways in one: the row may have moved to a new block. -/
theorem wpList_append_row {P : Program} (w : World) {ops : Array Oper} {rest : List Oper} {o : Oper} {a : Act} {Q : Exit → Act → World → Prop}
    (hg : o.guard = none) (s x : Operand) (t : TypeId) (hop : o.op = Op.call { callee := Callee.builtin Builtin.append, args := #[s, x], argTypes := #[t, t] })
    (e : TypeId) (i : TypeInfo) (z : Value) (size bytes : Nat) (h1 : P.underlying t = some (.slice e)) (h2 : P.info? e = some i) (h3 : i.zero = some z) (h4 : i.size = size) (h5 : i.bytes = bytes) (h6 : z.cells.size = size) (h7 : 0 < size)
    (b off n cap : Nat) (olds : List Value) (hs : a.eval s = .slice (some ⟨b, off, none⟩) n cap) (hr : Row w b off n cap size olds)
    (ib m c : Nat) (news : List Value) (hx : a.eval x = .slice (some ⟨ib, 0, none⟩) m c) (hm : 0 < m) (hn : news.length = m * size) (hc : w.rangeAt ib 0 news) (h1c : ∀ u ∈ news, u.oneCell' = true)
    (b1 : n + m ≤ maxLen) (b2 : (n + m) * bytes ≤ 140737488355328)
    (hK : ∀ g' o' cap' w', Row w' g' o' (n + m) cap' size (olds ++ news) → ((g' = b ∧ o' = off ∧ cap' = cap) ∨ (w.heap.size ≤ g' ∧ o' = 0)) → g' < w'.heap.size → Only (fun k => k = b) w w' →
      (∀ q : Addr, q.block = b → (q.off < off ∨ off + cap * size ≤ q.off) → w'.cell? q = w.cell? q) → wpList P ops Q rest (a.put o.dst (.slice (some ⟨g', o', none⟩) (n + m) cap')) w') (hlt : b < w.heap.size) :
    wpList P ops Q (o :: rest) a w := by
  refine wpList_append_arg w hg s x t hop e i z size bytes h1 h2 h3 h4 h5 h6 h7 b off n cap olds hs hr.len hr.at' ⟨ib, 0, none⟩ m c news hx hn (fun j u hu => by rw [Addr.add_lit]; exact hc j u hu) h1c ?_ b1 b2 ?_ ?_
  · intro hroom j hj
    have hle : n * size + m * size ≤ cap * size := by rw [← Nat.add_mul]; exact Nat.mul_le_mul_right _ hroom
    have := hr.there (n * size + j) (by omega)
    rwa [← Nat.add_assoc] at this
  · intro hroom
    have hle : n * size + m * size ≤ cap * size := by rw [← Nat.add_mul]; exact Nat.mul_le_mul_right _ hroom
    refine hK b off cap _ (row_setCells hr m hn h1c hroom) (.inl ⟨rfl, rfl, rfl⟩) ?_ (Only.setCells (p := fun k => k = b) rfl news _ (Only.refl _ _)) (fun q hq ho => ?_)
    · have := (Only.setCells (p := fun k => k = b) rfl news (off + n * size) (Only.refl _ w)).size
      omega
    · exact World.cell?_setCells_out _ _ _ _ _ (fun _ _ => by omega)
  · intro hfull v' w' hown hgr
    obtain ⟨g, cap', hv, hb, hl, hrow⟩ := row_owns hown (by omega) (fun u hu => (List.mem_append.1 hu).elim (hr.one u) (h1c u))
    subst hv
    exact hK g 0 cap' w' hrow (.inr ⟨hb, rfl⟩) hl (only_grown hgr _) (fun q hq _ => World.cell?_of_block (hgr.block q.block (by omega) (by simp)))
end Go.Proofs.Ybulkbpmg
