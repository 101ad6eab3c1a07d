import Derived.Test.YbulkbpnwStm
namespace Go.Proofs.Ybulkbpnw
open Go.RowKit
set_option linter.unusedVariables false
set_option linter.unusedSimpArgs false

def bGo : ByteArray := ⟨#[103, 111]⟩
def bInt : ByteArray := ⟨#[105, 110, 116]⟩
def bNil : ByteArray := ⟨#[110, 105, 108]⟩
def bPlus : ByteArray := ⟨#[43]⟩

/-- What adding one word says. -/
def AddedW (w : World) (sb g n : Nat) (cs : List Value) (s : ByteArray) (e : Ending) (w' : World) : Prop :=
  e = .returned (.pointer (some ⟨sb, 0, none⟩)) ∧ ∃ g', Stm w' sb g' (n + 1) (cs ++ itemW s) ∧ (g' = g ∨ w.heap.size ≤ g') ∧ Only (fun k => k = sb ∨ k = g) w w'

theorem two_new {w : World} {sb g n : Nat} {cs : List Value} (hS : Stm w sb g n cs) (hn : n ≤ 1000) (s : ByteArray) (C : Array Value) :
    Calls Yba.prog 15 #[.pointer (some ⟨sb, 0, none⟩), .slice (some ⟨w.heap.size + 1, 0, none⟩) 1 1] ((w.alloc (.cells C 28)).alloc (.cells #[.int .u8 1, .string s, .nilIface] 28)) (AddedW w sb g n cs s) := by
  have hO : Only (fun _ => False) w ((w.alloc (.cells C 28)).alloc (.cells #[.int .u8 1, .string s, .nilIface] 28)) := ((Only.refl _ _).alloc _).alloc _
  have hsb := hS.sb_lt
  refine (add_any (hS.later hO (fun h => h) (fun h => h)) hn (w.heap.size + 1) 1 (itemW s) (by omega) (by omega) rfl ?_ ?_ (by omega)).mono ?_
  · intro j v hv
    have : ((w.alloc (.cells C 28)).alloc (.cells #[.int .u8 1, .string s, .nilIface] 28)).cell? ⟨w.heap.size + 1, 0 + j, none⟩ = (#[.int .u8 1, .string s, .nilIface] : Array Value)[0 + j]? := World.cell?_alloc_at _ _ _ _ (by simp)
    rw [this, Nat.zero_add]
    simpa [itemW] using hv
  · intro u hu
    simp [itemW] at hu
    rcases hu with rfl | rfl | rfl <;> rfl
  · rintro e w' ⟨rfl, g', h1, h2, h3⟩
    refine ⟨rfl, g', h1, ?_, (hO.weaken (fun _ _ h => h.elim)).trans h3⟩
    rcases h2 with h | h
    · exact .inl h
    · simp at h; exact .inr (by omega)

set_option maxHeartbeats 400000 in
theorem go_any {w : World} {sb g n : Nat} {cs : List Value} (hS : Stm w sb g n cs) (hn : n ≤ 1000) : Calls Yba.prog 10 #[.pointer (some ⟨sb, 0, none⟩)] w (AddedW w sb g n cs bGo) := by
  go_enter Yba.func10, Yba.ntmps10
  go_wp2_with fail
  refine (word_any _ _).mono ?_
  rintro e w1 ⟨rfl, rfl⟩
  go_wp2_with fail
  refine (two_new hS hn bGo _).mono ?_
  rintro e w2 ⟨rfl, hA⟩
  go_wp2
  go_ret
  exact ⟨rfl, hA⟩
set_option maxHeartbeats 400000 in
theorem int_any {w : World} {sb g n : Nat} {cs : List Value} (hS : Stm w sb g n cs) (hn : n ≤ 1000) : Calls Yba.prog 11 #[.pointer (some ⟨sb, 0, none⟩)] w (AddedW w sb g n cs bInt) := by
  go_enter Yba.func11, Yba.ntmps11
  go_wp2_with fail
  refine (word_any _ _).mono ?_
  rintro e w1 ⟨rfl, rfl⟩
  go_wp2_with fail
  refine (two_new hS hn bInt _).mono ?_
  rintro e w2 ⟨rfl, hA⟩
  go_wp2
  go_ret
  exact ⟨rfl, hA⟩
set_option maxHeartbeats 400000 in
theorem nil_any {w : World} {sb g n : Nat} {cs : List Value} (hS : Stm w sb g n cs) (hn : n ≤ 1000) : Calls Yba.prog 12 #[.pointer (some ⟨sb, 0, none⟩)] w (AddedW w sb g n cs bNil) := by
  go_enter Yba.func12, Yba.ntmps12
  go_wp2_with fail
  refine (word_any _ _).mono ?_
  rintro e w1 ⟨rfl, rfl⟩
  go_wp2_with fail
  refine (two_new hS hn bNil _).mono ?_
  rintro e w2 ⟨rfl, hA⟩
  go_wp2
  go_ret
  exact ⟨rfl, hA⟩
set_option maxHeartbeats 400000 in
theorem op_any {w : World} {sb g n : Nat} {cs : List Value} (hS : Stm w sb g n cs) (hn : n ≤ 1000) (s : ByteArray) : Calls Yba.prog 13 #[.pointer (some ⟨sb, 0, none⟩), .string s] w (AddedW w sb g n cs s) := by
  go_enter Yba.func13, Yba.ntmps13
  go_wp2_with fail
  refine (word_any _ _).mono ?_
  rintro e w1 ⟨rfl, rfl⟩
  go_wp2_with fail
  refine (two_new hS hn s _).mono ?_
  rintro e w2 ⟨rfl, hA⟩
  go_wp2
  go_ret
  exact ⟨rfl, hA⟩

/-- The word of a number, as 'zzs3311aword' tells it. -/
def wordOf (k : Int) : ByteArray := if k = 0 then bGo else if k = 1 then bInt else if k = 2 then bNil else bPlus
def itemsOf (zs : List Int) : List Value := zs.flatMap (fun z => itemW (wordOf (z % 4)))

theorem itemsOf_snoc (zs : List Int) (k : Nat) (h : k < zs.length) : itemsOf (zs.take (k + 1)) = itemsOf (zs.take k) ++ itemW (wordOf (zs.getD k 0 % 4)) := by
  unfold itemsOf
  rw [List.take_succ_eq_append_getElem h, List.flatMap_append]
  have e : zs.getD k 0 = zs[k] := by simp [h]
  rw [e]
  simp only [List.flatMap_cons, List.flatMap_nil, List.append_nil]

set_option maxHeartbeats 400000 in
theorem wordf_any (k : Int) (w : World) : Calls Yba.prog 9 #[.int .i64 k] w fun e w' => e = .returned (.string (wordOf k)) ∧ w' = w := by
  by_cases h0 : k = 0
  · subst h0
    go_enter Yba.func9, Yba.ntmps9
    go_wp2
    go_ret
    exact ⟨rfl, rfl⟩
  · by_cases h1 : k = 1
    · subst h1
      go_enter Yba.func9, Yba.ntmps9
      go_wp2
      go_ret
      exact ⟨rfl, rfl⟩
    · by_cases h2 : k = 2
      · subst h2
        go_enter Yba.func9, Yba.ntmps9
        go_wp2
        go_ret
        exact ⟨rfl, rfl⟩
      · have e0 : (k == 0) = false := by simp [h0]
        have e1 : (k == 1) = false := by simp [h1]
        have e2 : (k == 2) = false := by simp [h2]
        have ew : wordOf k = bPlus := by simp [wordOf, h0, h1, h2]
        rw [ew]
        go_enter Yba.func9, Yba.ntmps9
        go_wp2
        go_ret
        exact ⟨rfl, rfl⟩
end Go.Proofs.Ybulkbpnw
