import Derived.Test.YbulkbpnwFill
namespace Go.Proofs.Ybulkbpnw
open Go.RowKit
set_option linter.unusedVariables false
set_option linter.unusedSimpArgs false

/-- All that f captures, ahead of its call. -/
structure Vars (w : World) (cb ob nb pb fb eb pr N : Nat) (ps : Nat → Nat) (fl : Bool) (et : TypeId) (ea : Value) : Prop where
  caps : Caps w cb ob nb pb fb eb pr N ps fl (.iface et ea)
  hN : N ≤ 255
  c : w.cell? ⟨cb, 0, none⟩ = some (.int .i64 0)
  cf : w.frozen? ⟨cb, 0, none⟩ = false
  n : w.cell? ⟨nb, 0, none⟩ = some (.pointer none)
  nf : w.frozen? ⟨nb, 0, none⟩ = false
  lpr : pr < w.heap.size
  d1 : cb ≠ nb
  d2 : cb ≠ ob
  d3 : nb ≠ ob
  d4 : cb ≠ pb
  d5 : nb ≠ pb
  d6 : cb ≠ fb
  d7 : nb ≠ fb
  d8 : cb ≠ eb
  d9 : nb ≠ eb
  d10 : cb ≠ pr
  d11 : nb ≠ pr

def fVal (cb ob nb pb fb eb : Nat) : Value := .func (Fn.func 6) #[] #[.pointer (some ⟨cb, 0, none⟩), .pointer (some ⟨ob, 0, none⟩), .pointer (some ⟨nb, 0, none⟩), .pointer (some ⟨pb, 0, none⟩), .pointer (some ⟨fb, 0, none⟩), .pointer (some ⟨eb, 0, none⟩)]

theorem grp_new (w : World) : Grp (w.alloc (.cells #[.int .u8 2, .bool false, .slice none 0 0, .nilIface, .nilIface] 43)) w.heap.size w.heap.size 0 [] ∧
    (w.alloc (.cells #[.int .u8 2, .bool false, .slice none 0 0, .nilIface, .nilIface] 43)).cell? ⟨w.heap.size, 2, none⟩ = some (.slice none 0 0) := by
  have h : ∀ j, (w.alloc (.cells #[.int .u8 2, .bool false, .slice none 0 0, .nilIface, .nilIface] 43)).cell? ⟨w.heap.size, j, none⟩ = (#[.int .u8 2, .bool false, .slice none 0 0, .nilIface, .nilIface] : Array Value)[j]? := fun j => World.cell?_alloc_at _ _ _ _ rfl
  have f : ∀ j, (w.alloc (.cells #[.int .u8 2, .bool false, .slice none 0 0, .nilIface, .nilIface] 43)).frozen? ⟨w.heap.size, j, none⟩ = false := fun j => World.frozen?_alloc_at _ _ _ _ rfl
  exact ⟨⟨h 0, h 1, f 2, by simp, .inl ⟨h 2, rfl, rfl, rfl, fun j hj => ⟨by rw [h]; simp; omega, f _⟩⟩⟩, h 2⟩

theorem Only.then {p q : Nat → Prop} {w W w' : World} (h1 : Only (fun _ => False) w W) (h2 : Only p W w') (hpq : ∀ k, k < w.heap.size → p k → q k) : Only q w w' :=
  ⟨h2.os.trans h1.os, h2.tape.trans h1.tape, h2.output.trans h1.output, Nat.le_trans h1.size h2.size, fun k hk hn => (h2.block k (Nat.lt_of_lt_of_le hk h1.size) (fun h => hn (hpq k hk h))).trans (h1.block k hk (fun h => h)),
    fun a ha => (h2.frozen a (Nat.lt_of_lt_of_le ha h1.size)).trans (h1.frozen a ha)⟩

set_option maxRecDepth 100000 in
set_option maxHeartbeats 1000000 in
theorem fill_any {w : World} {cb ob nb pb fb eb pr N : Nat} {ps : Nat → Nat} {fl : Bool} {et : TypeId} {ea : Value} (V : Vars w cb ob nb pb fb eb pr N ps fl et ea) :
    Calls Yba.prog 14 #[.int .u8 2, fVal cb ob nb pb fb eb] w fun e w' =>
      e = .returned (.tuple #[if fl then .pointer none else .pointer (some ⟨w.heap.size, 0, none⟩), if fl then .iface et ea else .nilIface]) ∧
      ∃ g, Grp w' w.heap.size g N (presOf ps N) ∧ w.heap.size ≤ g ∧ w'.cell? ⟨cb, 0, none⟩ = some (.int .i64 1) ∧ w'.cell? ⟨nb, 0, none⟩ = some (.pointer (some ⟨w.heap.size, 0, none⟩)) ∧ Only (fun k => k = cb ∨ k = nb) w w' := by
  have hO : Only (fun _ => False) w (w.alloc (.cells #[.int .u8 2, .bool false, .slice none 0 0, .nilIface, .nilIface] 43)) := (Only.refl _ _).alloc _
  have z1 := World.block_lt_of_cell? _ _ V.c
  have z2 := World.block_lt_of_cell? _ _ V.caps.o
  have z3 := World.block_lt_of_cell? _ _ V.n
  have z4 := World.block_lt_of_cell? _ _ V.caps.p
  have z5 := World.block_lt_of_cell? _ _ V.caps.f
  have z6 := World.block_lt_of_cell? _ _ V.caps.e
  have HF := hide (f_any V.hN (grp_new w).1 (grp_new w).2 (V.caps.later hO (fun h => h) (fun h => h) (fun h => h) (fun h => h) (fun h => h)) (hO.cell (fun h => h) V.c) ((hO.frozen _ z1).trans V.cf) (hO.cell (fun h => h) V.n) ((hO.frozen _ z3).trans V.nf)
    z1 z2 z3 z4 z5 z6 V.lpr V.d1 V.d2 V.d3 V.d4 V.d5 V.d6 V.d7 V.d8 V.d9 V.d10 V.d11)
  unfold fVal
  go_enter Yba.func14, Yba.ntmps14
  go_wp2_with fail
  refine HF.out.mono ?_
  rintro e w' ⟨rfl, g, h1, h2, h3, h4, h5⟩
  have hO2 : Only (fun k => k = cb ∨ k = nb) w w' := hO.then h5 (fun k hk h => by omega)
  cases fl with
  | true =>
    go_wp2
    go_ret2
    exact ⟨rfl, g, h1, h2, h3, h4, hO2⟩
  | false =>
    go_wp2
    go_ret2
    exact ⟨rfl, g, h1, h2, h3, h4, hO2⟩

def bDelete : ByteArray := ⟨#[100, 101, 108, 101, 116, 101]⟩
/-- The two items that DeleteFuncErr adds: the word, the group. -/
def delItems (gb : Nat) : List Value := [.int .u8 1, .string bDelete, .nilIface, .int .u8 0, .string ByteArray.empty, .iface 36 (.pointer (some ⟨gb, 0, none⟩))]

set_option maxRecDepth 100000 in
set_option maxHeartbeats 1000000 in
theorem del_fail {w : World} {sb cb ob nb pb fb eb pr N : Nat} {ps : Nat → Nat} {et : TypeId} {ea : Value} (V : Vars w cb ob nb pb fb eb pr N ps true et ea) :
    Calls Yba.prog 8 #[.pointer (some ⟨sb, 0, none⟩), fVal cb ob nb pb fb eb] w fun e w' => e = .returned (.tuple #[.pointer none, .iface et ea]) ∧
      w'.cell? ⟨cb, 0, none⟩ = some (.int .i64 1) ∧ Only (fun k => k = cb ∨ k = nb) w w' := by
  go_enter Yba.func8, Yba.ntmps8
  go_wp2_with fail
  refine (fill_any V).mono ?_
  rintro e w' ⟨rfl, g, h1, h2, h3, h4, h5⟩
  go_wp2
  go_ret2
  exact ⟨rfl, h3, h5⟩

theorem del_add {w : World} {sb gs n gb g N : Nat} {cs ds : List Value} (hS : Stm w sb gs n cs) (hn : n ≤ 1000) (hG : Grp w gb g N ds) (x1 : gb ≠ sb) (x2 : gb ≠ gs) (x3 : g ≠ sb) (x4 : g ≠ gs) (A B : Obj) :
    Calls Yba.prog 15 #[.pointer (some ⟨sb, 0, none⟩), .slice (some ⟨w.heap.size + 1 + 1, 0, none⟩) 2 2] (((w.alloc A).alloc B).alloc (.cells #[.int .u8 1, .string ⟨#[100, 101, 108, 101, 116, 101]⟩, .nilIface, .int .u8 0, .string ByteArray.empty, .iface 36 (.pointer (some ⟨gb, 0, none⟩))] 28))
      fun e w' => e = .returned (.pointer (some ⟨sb, 0, none⟩)) ∧ ∃ gs', Stm w' sb gs' (n + 2) (cs ++ delItems gb) ∧ Grp w' gb g N ds ∧ (gs' = gs ∨ w.heap.size ≤ gs') ∧ Only (fun k => k = sb ∨ k = gs) w w' := by
  have hO : Only (fun _ => False) w (((w.alloc A).alloc B).alloc (.cells #[.int .u8 1, .string ⟨#[100, 101, 108, 101, 116, 101]⟩, .nilIface, .int .u8 0, .string ByteArray.empty, .iface 36 (.pointer (some ⟨gb, 0, none⟩))] 28)) := (((Only.refl _ _).alloc _).alloc _).alloc _
  have hsb := hS.sb_lt
  refine (add_any (hS.later hO (fun h => h) (fun h => h)) hn (w.heap.size + 1 + 1) 2 (delItems gb) (by omega) (by omega) rfl ?_ ?_ (by omega)).mono ?_
  · intro j v hv
    rw [World.cell?_alloc_at _ _ _ _ (by simp), Nat.zero_add]
    simpa [delItems, bDelete] using hv
  · intro u hu
    simp [delItems] at hu
    rcases hu with rfl | rfl | rfl | rfl | rfl | rfl <;> rfl
  · rintro e w' ⟨rfl, g', h1, h2, h3⟩
    have h4 : Only (fun k => k = sb ∨ k = gs) w w' := hO.then h3 (fun _ _ h => h)
    refine ⟨rfl, g', h1, hG.later h4 (by simp [x1, x2]) (by simp [x3, x4]), ?_, h4⟩
    rcases h2 with h | h
    · exact .inl h
    · simp at h; exact .inr (by omega)

set_option maxRecDepth 100000 in
set_option maxHeartbeats 1000000 in
theorem del_ok {w : World} {sb gs n cb ob nb pb fb eb pr N : Nat} {cs : List Value} {ps : Nat → Nat} {et : TypeId} {ea : Value} (V : Vars w cb ob nb pb fb eb pr N ps false et ea) (hS : Stm w sb gs n cs) (hn : n ≤ 1000)
    (x1 : sb ≠ cb) (x2 : sb ≠ nb) (x3 : gs ≠ cb) (x4 : gs ≠ nb) :
    Calls Yba.prog 8 #[.pointer (some ⟨sb, 0, none⟩), fVal cb ob nb pb fb eb] w fun e w' => e = .returned (.tuple #[.pointer (some ⟨sb, 0, none⟩), .nilIface]) ∧
      ∃ g gs', Grp w' w.heap.size g N (presOf ps N) ∧ w.heap.size ≤ g ∧ Stm w' sb gs' (n + 2) (cs ++ delItems w.heap.size) ∧ (gs' = gs ∨ w.heap.size ≤ gs') ∧
      w'.cell? ⟨cb, 0, none⟩ = some (.int .i64 1) ∧ w'.cell? ⟨nb, 0, none⟩ = some (.pointer (some ⟨w.heap.size, 0, none⟩)) ∧ Only (fun k => k = cb ∨ k = nb ∨ k = sb ∨ k = gs) w w' := by
  go_enter Yba.func8, Yba.ntmps8
  go_wp2_with fail
  refine (fill_any V).mono ?_
  rintro e w1 ⟨rfl, g, h1, h2, h3, h4, h5⟩
  go_wp2_with fail
  refine (word_any _ _).mono ?_
  rintro e w2 ⟨rfl, rfl⟩
  go_wp2_with fail
  refine (code_any _ _ _).mono ?_
  rintro e w3 ⟨rfl, rfl⟩
  go_wp2_with fail
  have hsb := hS.sb_lt
  have hlt := hS.lt
  refine (del_add (hS.later h5 (by simp [x1, x2]) (by simp [x3, x4])) hn h1 (by omega) (by omega) (by omega) (by omega) _ _).mono ?_
  rintro e w' ⟨rfl, gs', i1, i2, i3, i4⟩
  go_wp2
  go_ret2
  refine ⟨rfl, g, gs', i2, h2, i1, ?_, i4.cell (by simp [x1.symm, x3.symm]) h3, i4.cell (by simp [x2.symm, x4.symm]) h4, (h5.weaken (fun k _ h => by omega)).trans (i4.weaken (fun k _ h => by omega))⟩
  rcases i3 with h | h
  · exact .inl h
  · exact .inr (Nat.le_trans h5.size h)
end Go.Proofs.Ybulkbpnw
