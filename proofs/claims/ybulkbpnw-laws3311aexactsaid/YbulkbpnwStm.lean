import Derived.Test.YbulkbpnwRow
namespace Go.Proofs.Ybulkbpnw
open Go.RowKit
set_option linter.unusedVariables false
set_option linter.unusedSimpArgs false

def itemW (s : ByteArray) : List Value := [.int .u8 1, .string s, .nilIface]

set_option maxHeartbeats 400000 in
theorem word_any (s : ByteArray) (w : World) :
    Calls Yba.prog 16 #[.string s] w fun e w' => e = .returned (.agg #[.int .u8 1, .string s, .nilIface]) ∧ w' = w.alloc (.cells #[.int .u8 1, .string s, .nilIface] 28) := by
  go_enter Yba.func16, Yba.ntmps16
  go_wp2
  exact bodyPost_ret (v := .agg #[.int .u8 1, .string s, .nilIface]) (by simp [results, Yba.results16, go_sem]) rfl ⟨rfl, rfl⟩

set_option maxHeartbeats 400000 in
theorem code_any (t : TypeId) (v : Value) (w : World) :
    Calls Yba.prog 17 #[.iface t v] w fun e w' => e = .returned (.agg #[.int .u8 0, .string ByteArray.empty, .iface t v]) ∧ w' = w.alloc (.cells #[.int .u8 0, .string ByteArray.empty, .iface t v] 28) := by
  go_enter Yba.func17, Yba.ntmps17
  go_wp2
  exact bodyPost_ret (v := .agg #[.int .u8 0, .string ByteArray.empty, .iface t v]) (by simp [results, Yba.results17, go_sem]; rfl) rfl ⟨rfl, rfl⟩

theorem hide {p : Prop} (h : p) : Hid p := h

theorem keep_head {w w' : World} {sb g o cap : Nat} {v : Value} (hs : w.cell? ⟨sb, 0, none⟩ = some v) (hcase : (g = sb ∧ o = 1 ∧ cap = 3) ∨ g ≠ sb) (hO : Only (fun k => k = g) w w')
    (hq : ∀ q : Addr, q.block = g → (q.off < o ∨ o + cap * 3 ≤ q.off) → w'.cell? q = w.cell? q) : w'.cell? ⟨sb, 0, none⟩ = some v := by
  rcases hcase with ⟨rfl, rfl, rfl⟩ | h
  · rw [hq _ rfl (.inl (by simp))]; exact hs
  · exact hO.cell (fun e => h e.symm) hs

theorem info28 : (Yba.prog.info? 28).map (fun i => (i.zero, i.size, i.bytes)) = some (some (.agg #[.int .u8 0, .string ByteArray.empty, .nilIface]), 3, 40) := by kernel_rfl

set_option maxHeartbeats 400000 in
theorem add_some {w : World} {sb g o n cap : Nat} {cs : List Value} (hs : w.cell? ⟨sb, 0, none⟩ = some (.slice (some ⟨g, o, none⟩) n cap)) (hf : w.frozen? ⟨sb, 0, none⟩ = false) (hr : Row w g o n cap 3 cs) (hlt : g < w.heap.size)
    (hcase : (g = sb ∧ o = 1 ∧ cap = 3) ∨ g ≠ sb) (hn : n ≤ 1000)
    (ib m : Nat) (news : List Value) (hm : 0 < m) (hm3 : m ≤ 3) (hl : news.length = m * 3) (hc : w.rangeAt ib 0 news) (h1 : ∀ u ∈ news, u.oneCell' = true) :
    Calls Yba.prog 15 #[.pointer (some ⟨sb, 0, none⟩), .slice (some ⟨ib, 0, none⟩) m m] w fun e w' => e = .returned (.pointer (some ⟨sb, 0, none⟩)) ∧
      ∃ g' o' cap', w'.cell? ⟨sb, 0, none⟩ = some (.slice (some ⟨g', o', none⟩) (n + m) cap') ∧ Row w' g' o' (n + m) cap' 3 (cs ++ news) ∧ g' < w'.heap.size ∧ ((g' = sb ∧ o' = 1 ∧ cap' = 3) ∨ g' ≠ sb) ∧ (g' = g ∨ w.heap.size ≤ g') ∧
        Only (fun k => k = sb ∨ k = g) w w' := by
  obtain ⟨i, hi, hzz⟩ := Option.map_eq_some_iff.1 info28
  simp only [Prod.mk.injEq] at hzz
  obtain ⟨hz, hsz, hbb⟩ := hzz
  have heq := fun w a n c => Lib.run_eql_slice_nil (P := Yba.prog) w 25 28 a n c 0 0 Yba.underlying25
  go_enter Yba.func15, Yba.ntmps15
  have B1 : n + m ≤ maxLen := by unfold maxLen; omega
  have B2 : (n + m) * 40 ≤ 140737488355328 := by omega
  have B3 : 0 < 3 := by omega
  go_wp2_with (at_builtin; go_must (refine wpList_append_row _ rfl _ _ 25 rfl 28 i _ 3 40 Yba.underlying25 hi hz hsz hbb rfl B3 g o n cap cs rfl hr ib m m news rfl hm hl hc h1 B1 B2 (fun g' o' cap' w' hrow hcs hlt' hO hq => ?_) hlt; have hs' := keep_head hs hcase hO hq; have hf' := (hO.frozen ⟨sb, 0, none⟩ (World.block_lt_of_cell? _ _ hs)).trans hf; have HR := hide hrow; have HC := hide hcs; have HL := hide hlt'; have HO := hide hO; have HQ := hide hq; clear hrow hcs hlt' hO hq))
  go_ret
  have hrow := HR.out
  have hcs := HC.out
  have hlt' := HL.out
  have hO := HO.out
  have hq := HQ.out
  have hsb := World.block_lt_of_cell? _ _ hs
  simp only at hsb
  have hO2 : Only (fun k => k = sb ∨ k = g) w w' := hO.weaken (fun k _ h => .inr h)
  refine ⟨rfl, g', o', cap', World.cell?_setCell_same _ _ _ hs', ?_, by simpa using hlt', ?_, ?_, hO2.setCell (q := ⟨sb, 0, none⟩) (.inl rfl) _⟩
  · refine ⟨hrow.len, hrow.le, fun j v hv => ?_, fun j hj => ?_, hrow.one⟩
    · rw [World.cell?_setCell_other _ _ _ _ ?_]; exact hrow.at' j v hv
      rcases hcs with ⟨rfl, rfl, rfl⟩ | ⟨h, _⟩
      · rcases hcase with ⟨rfl, rfl, rfl⟩ | h
        · simp <;> omega
        · simp [Ne.symm h]
      · simp <;> omega
    · obtain ⟨t1, t2⟩ := hrow.there j hj
      refine ⟨?_, by rw [World.frozen?_setCell]; exact t2⟩
      rw [World.cell?_setCell_other _ _ _ _ ?_]; exact t1
      rcases hcs with ⟨rfl, rfl, rfl⟩ | ⟨h, _⟩
      · rcases hcase with ⟨rfl, rfl, rfl⟩ | h
        · simp <;> omega
        · simp [Ne.symm h]
      · simp <;> omega
  · rcases hcs with ⟨rfl, rfl, rfl⟩ | ⟨h, _⟩
    · exact hcase
    · exact .inr (by omega)
  · rcases hcs with ⟨rfl, _, _⟩ | ⟨h, _⟩
    · exact .inl rfl
    · exact .inr h

set_option maxHeartbeats 400000 in
theorem add_nil {w : World} {sb : Nat} (hs : w.cell? ⟨sb, 0, none⟩ = some (.slice none 0 0)) (hf : w.frozen? ⟨sb, 0, none⟩ = false) (ht : w.there sb 1 9)
    (ib m : Nat) (news : List Value) (hm : 0 < m) (hm3 : m ≤ 3) (hl : news.length = m * 3) (hc : w.rangeAt ib 0 news) (h1 : ∀ u ∈ news, u.oneCell' = true) (hib : ib ≠ sb) :
    Calls Yba.prog 15 #[.pointer (some ⟨sb, 0, none⟩), .slice (some ⟨ib, 0, none⟩) m m] w fun e w' => e = .returned (.pointer (some ⟨sb, 0, none⟩)) ∧
      ∃ g' o' cap', w'.cell? ⟨sb, 0, none⟩ = some (.slice (some ⟨g', o', none⟩) m cap') ∧ Row w' g' o' m cap' 3 news ∧ g' < w'.heap.size ∧ ((g' = sb ∧ o' = 1 ∧ cap' = 3) ∨ g' ≠ sb) ∧ (g' = sb ∨ w.heap.size ≤ g') ∧
        Only (fun k => k = sb) w w' := by
  obtain ⟨i, hi, hzz⟩ := Option.map_eq_some_iff.1 info28
  simp only [Prod.mk.injEq] at hzz
  obtain ⟨hz, hsz, hbb⟩ := hzz
  have heq := fun w a n c => Lib.run_eql_slice_nil (P := Yba.prog) w 25 28 a n c 0 0 Yba.underlying25
  have B1 : 0 + m ≤ maxLen := by unfold maxLen; omega
  have B2 : (0 + m) * 40 ≤ 140737488355328 := by omega
  have B3 : 0 < 3 := by omega
  have hm3' : (m : Int) ≤ 3 := by omega
  have hsb := World.block_lt_of_cell? _ _ hs
  have hsb' : sb < (w.setCell ⟨sb, 0, none⟩ (.slice (some ⟨sb, 1, none⟩) 0 3)).heap.size := by simpa using hsb
  have hr : Row (w.setCell ⟨sb, 0, none⟩ (.slice (some ⟨sb, 1, none⟩) 0 3)) sb 1 0 3 3 [] := by
    refine ⟨rfl, by omega, fun j v hv => by simp at hv, fun j hj => ?_, fun v hv => by simp at hv⟩
    obtain ⟨t1, t2⟩ := ht j (by omega)
    exact ⟨by rw [World.cell?_setCell_other _ _ _ _ (by simp <;> omega)]; exact t1, by rw [World.frozen?_setCell]; exact t2⟩
  have hc' : (w.setCell ⟨sb, 0, none⟩ (.slice (some ⟨sb, 1, none⟩) 0 3)).rangeAt ib 0 news := fun j v hv => by
    rw [World.cell?_setCell_other _ _ _ _ (by simp [hib.symm])]; exact hc j v hv
  go_enter Yba.func15, Yba.ntmps15
  go_wp2_with (at_builtin; go_must (refine wpList_append_row _ rfl _ _ 25 rfl 28 i _ 3 40 Yba.underlying25 hi hz hsz hbb rfl B3 sb 1 0 3 [] rfl hr ib m m news rfl hm hl hc' h1 B1 B2 (fun g' o' cap' w' hrow hcs hlt' hO hq => ?_) hsb'; have hs' := keep_head (World.cell?_setCell_same _ _ _ hs) (.inl ⟨rfl, rfl, rfl⟩) hO hq; have hf' := (hO.frozen ⟨sb, 0, none⟩ hsb').trans ((World.frozen?_setCell _ _ _ _).trans hf); have HR := hide hrow; have HC := hide hcs; have HL := hide hlt'; have HO := hide hO; have HQ := hide hq; clear hrow hcs hlt' hO hq))
  go_ret
  have hrow := HR.out
  simp only [Nat.zero_add, List.nil_append] at hrow
  have hcs := HC.out
  have hlt' := HL.out
  have hO := HO.out
  have hq := HQ.out
  simp only [World.size_setCell] at hcs
  try simp only at hsb
  have hO2 : Only (fun k => k = sb) w w' := ((Only.refl (fun k => k = sb) w).setCell (q := ⟨sb, 0, none⟩) rfl _).trans hO
  refine ⟨rfl, g', o', cap', World.cell?_setCell_same _ _ _ hs', ?_, by simpa using hlt', ?_, ?_, hO2.setCell (q := ⟨sb, 0, none⟩) rfl _⟩
  · refine ⟨hrow.len, hrow.le, fun j v hv => ?_, fun j hj => ?_, hrow.one⟩
    · rw [World.cell?_setCell_other _ _ _ _ ?_]; exact hrow.at' j v hv
      rcases hcs with ⟨rfl, rfl, rfl⟩ | ⟨h, _⟩
      · simp <;> omega
      · simp <;> omega
    · obtain ⟨t1, t2⟩ := hrow.there j hj
      refine ⟨?_, by rw [World.frozen?_setCell]; exact t2⟩
      rw [World.cell?_setCell_other _ _ _ _ ?_]; exact t1
      rcases hcs with ⟨rfl, rfl, rfl⟩ | ⟨h, _⟩
      · simp <;> omega
      · simp <;> omega
  · rcases hcs with ⟨rfl, rfl, rfl⟩ | ⟨h, _⟩
    · exact .inl ⟨rfl, rfl, rfl⟩
    · exact .inr (by omega)
  · rcases hcs with ⟨rfl, _, _⟩ | ⟨h, _⟩
    · exact .inl rfl
    · exact .inr h

/-- A statement in block sb that holds the n items 'cs' (three cells each), its row in block g. -/
structure Stm (w : World) (sb g n : Nat) (cs : List Value) : Prop where
  hf : w.frozen? ⟨sb, 0, none⟩ = false
  lt : g < w.heap.size
  st : (w.cell? ⟨sb, 0, none⟩ = some (.slice none 0 0) ∧ n = 0 ∧ g = sb ∧ cs = [] ∧ w.there sb 1 9) ∨
    ∃ o cap, w.cell? ⟨sb, 0, none⟩ = some (.slice (some ⟨g, o, none⟩) n cap) ∧ Row w g o n cap 3 cs ∧ ((g = sb ∧ o = 1 ∧ cap = 3) ∨ g ≠ sb)

theorem Stm.sb_lt {w : World} {sb g n : Nat} {cs : List Value} (h : Stm w sb g n cs) : sb < w.heap.size := by
  rcases h.st with ⟨hs, _⟩ | ⟨o, cap, hs, _⟩
  · exact World.block_lt_of_cell? _ _ hs
  · exact World.block_lt_of_cell? _ _ hs

theorem add_any {w : World} {sb g n : Nat} {cs : List Value} (hS : Stm w sb g n cs) (hn : n ≤ 1000)
    (ib m : Nat) (news : List Value) (hm : 0 < m) (hm3 : m ≤ 3) (hl : news.length = m * 3) (hc : w.rangeAt ib 0 news) (h1 : ∀ u ∈ news, u.oneCell' = true) (hib : ib ≠ sb) :
    Calls Yba.prog 15 #[.pointer (some ⟨sb, 0, none⟩), .slice (some ⟨ib, 0, none⟩) m m] w fun e w' => e = .returned (.pointer (some ⟨sb, 0, none⟩)) ∧
      ∃ g', Stm w' sb g' (n + m) (cs ++ news) ∧ (g' = g ∨ w.heap.size ≤ g') ∧ Only (fun k => k = sb ∨ k = g) w w' := by
  have hsb := hS.sb_lt
  obtain ⟨hf, hlt, hst⟩ := hS
  rcases hst with ⟨hs, rfl, rfl, rfl, ht⟩ | ⟨o, cap, hs, hr, hcase⟩
  · refine (add_nil hs hf ht ib m news hm hm3 hl hc h1 hib).mono ?_
    rintro e w' ⟨rfl, g', o', cap', a1, a2, a3, a4, a5, a6⟩
    rw [Nat.zero_add, List.nil_append]
    exact ⟨rfl, g', ⟨(a6.frozen _ hsb).trans hf, a3, .inr ⟨o', cap', a1, a2, a4⟩⟩, a5, a6.weaken (fun k _ h => .inl h)⟩
  · refine (add_some hs hf hr hlt hcase hn ib m news hm hm3 hl hc h1).mono ?_
    rintro e w' ⟨rfl, g', o', cap', a1, a2, a3, a4, a5, a6⟩
    exact ⟨rfl, g', ⟨(a6.frozen _ hsb).trans hf, a3, .inr ⟨o', cap', a1, a2, a4⟩⟩, a5, a6⟩

theorem Stm.later {w w' : World} {sb g n : Nat} {cs : List Value} (h : Stm w sb g n cs) {p : Nat → Prop} (hO : Only p w w') (hs : ¬ p sb) (hg : ¬ p g) : Stm w' sb g n cs := by
  refine ⟨(hO.frozen _ h.sb_lt).trans h.hf, Nat.lt_of_lt_of_le h.lt hO.size, ?_⟩
  rcases h.st with ⟨c, rfl, rfl, rfl, ht⟩ | ⟨o, cap, c, hr, hcase⟩
  · refine .inl ⟨hO.cell hs c, rfl, rfl, rfl, fun j hj => ?_⟩
    obtain ⟨t1, t2⟩ := ht j hj
    obtain ⟨u, hu⟩ := Option.isSome_iff_exists.1 t1
    exact ⟨by rw [hO.cell hs hu]; rfl, (hO.frozen _ h.sb_lt).trans t2⟩
  · exact .inr ⟨o, cap, hO.cell hs c, hr.later hO hg h.lt, hcase⟩
end Go.Proofs.Ybulkbpnw
