import Derived.Test.YbulkbpnwStm
namespace Go.Proofs.Ybulkbpnw
open Go.RowKit
set_option linter.unusedVariables false
set_option linter.unusedSimpArgs false

theorem keep_head2 {w w' : World} {sb g o cap : Nat} {v : Value} (hs : w.cell? ⟨sb, 2, none⟩ = some v) (hcase : (g = sb ∧ o = 3 ∧ cap = 2) ∨ g ≠ sb) (hO : Only (fun k => k = g) w w')
    (hq : ∀ q : Addr, q.block = g → (q.off < o ∨ o + cap * 1 ≤ q.off) → w'.cell? q = w.cell? q) : w'.cell? ⟨sb, 2, none⟩ = some v := by
  rcases hcase with ⟨rfl, rfl, rfl⟩ | h
  · rw [hq _ rfl (.inl (by simp))]; exact hs
  · exact hO.cell (fun e => h e.symm) hs

theorem info40 : (Yba.prog.info? 40).map (fun i => (i.zero, i.size, i.bytes)) = some (some .nilIface, 1, 16) := by kernel_rfl

set_option maxHeartbeats 400000 in
theorem gadd_some {w : World} {sb g o n cap : Nat} {cs : List Value} (hs : w.cell? ⟨sb, 2, none⟩ = some (.slice (some ⟨g, o, none⟩) n cap)) (hf : w.frozen? ⟨sb, 2, none⟩ = false) (hr : Row w g o n cap 1 cs) (hlt : g < w.heap.size)
    (hcase : (g = sb ∧ o = 3 ∧ cap = 2) ∨ g ≠ sb) (hn : n ≤ 1000)
    (tv : TypeId) (vv : Value) :
    Calls Yba.prog 7 #[.pointer (some ⟨sb, 0, none⟩), .iface tv vv] w fun e w' => e = .returned (.tuple #[]) ∧
      ∃ g' o' cap', w'.cell? ⟨sb, 2, none⟩ = some (.slice (some ⟨g', o', none⟩) (n + 1) cap') ∧ Row w' g' o' (n + 1) cap' 1 (cs ++ [.iface tv vv]) ∧ g' < w'.heap.size ∧ ((g' = sb ∧ o' = 3 ∧ cap' = 2) ∨ g' ≠ sb) ∧ (g' = g ∨ w.heap.size ≤ g') ∧
        Only (fun k => k = sb ∨ k = g) w w' ∧ (∀ off, off < 2 → w'.cell? ⟨sb, off, none⟩ = w.cell? ⟨sb, off, none⟩) := by
  obtain ⟨i, hi, hzz⟩ := Option.map_eq_some_iff.1 info40
  simp only [Prod.mk.injEq] at hzz
  obtain ⟨hz, hsz, hbb⟩ := hzz
  have heq := fun w a n c => Lib.run_eql_slice_nil (P := Yba.prog) w 38 40 a n c 0 0 Yba.underlying38
  have hsb := World.block_lt_of_cell? _ _ hs
  simp only at hsb
  have hOA : Only (fun _ => False) w (w.alloc (.cells #[.iface tv vv] 40)) := (Only.refl _ _).alloc _
  have hsA := hOA.cell (a := ⟨sb, 2, none⟩) (fun h => h) hs
  have hfA := (hOA.frozen ⟨sb, 2, none⟩ hsb).trans hf
  have hrA := hr.later hOA (fun h => h) hlt
  have hltA : g < (w.alloc (.cells #[.iface tv vv] 40)).heap.size := by simp; omega
  have hcA : (w.alloc (.cells #[.iface tv vv] 40)).rangeAt w.heap.size 0 [.iface tv vv] := fun j v hv => by
    rw [World.cell?_alloc_at _ _ _ _ rfl, Nat.zero_add]; simpa using hv
  have h1A : ∀ u ∈ ([.iface tv vv] : List Value), u.oneCell' = true := fun u hu => by simp at hu; subst hu; rfl
  go_enter Yba.func7, Yba.ntmps7
  have B1 : n + 1 ≤ maxLen := by unfold maxLen; omega
  have B2 : (n + 1) * 16 ≤ 140737488355328 := by omega
  have B3 : 0 < 1 := by omega
  go_wp2_with (at_builtin; go_must (refine wpList_append_row _ rfl _ _ 38 rfl 40 i _ 1 16 Yba.underlying38 hi hz hsz hbb rfl B3 g o n cap cs rfl hrA _ 1 1 [.iface tv vv] rfl B3 rfl hcA h1A B1 B2 (fun g' o' cap' w' hrow hcs hlt' hO hq => ?_) hltA; have hs' := keep_head2 hsA hcase hO hq; have hf' := (hO.frozen ⟨sb, 2, none⟩ (World.block_lt_of_cell? _ _ hsA)).trans hfA; have HR := hide hrow; have HC := hide hcs; have HL := hide hlt'; have HO := hide hO; have HQ := hide hq; clear hrow hcs hlt' hO hq))
  go_end0
  have hrow := HR.out
  have hcs := HC.out
  have hlt' := HL.out
  have hO := HO.out
  have hq := HQ.out
  simp only [World.size_alloc] at hcs
  have hO2 : Only (fun k => k = sb ∨ k = g) w w' := ((Only.refl _ _).alloc _).trans (hO.weaken (fun k _ h => .inr h))
  refine ⟨rfl, g', o', cap', World.cell?_setCell_same _ _ _ hs', ?_, by simpa using hlt', ?_, ?_, hO2.setCell (q := ⟨sb, 2, none⟩) (.inl rfl) _, fun off ho => ?_⟩
  · refine ⟨hrow.len, hrow.le, fun j v hv => ?_, fun j hj => ?_, hrow.one⟩
    · rw [World.cell?_setCell_other _ _ _ _ ?_]; exact hrow.at' j v hv
      rcases hcs with ⟨rfl, rfl, rfl⟩ | ⟨h, _⟩
      · rcases hcase with ⟨rfl, rfl, rfl⟩ | h
        · simp <;> omega
        · simp [Ne.symm h]
      · simp <;> omega
    · obtain ⟨t1, t2⟩ := hrow.there j hj
      refine ⟨?_, by rw [World.frozen?_setCell]; exact t2⟩
      rw [World.cell?_setCell_other _ _ _ _ ?_]; exact t1
      rcases hcs with ⟨rfl, rfl, rfl⟩ | ⟨h, _⟩
      · rcases hcase with ⟨rfl, rfl, rfl⟩ | h
        · simp <;> omega
        · simp [Ne.symm h]
      · simp <;> omega
  · rcases hcs with ⟨rfl, rfl, rfl⟩ | ⟨h, _⟩
    · exact hcase
    · exact .inr (by omega)
  · rcases hcs with ⟨rfl, _, _⟩ | ⟨h, _⟩
    · exact .inl rfl
    · exact .inr (by omega)
  · rw [World.cell?_setCell_other _ _ _ _ (by simp <;> omega)]
    have e : (w.alloc (.cells #[.iface tv vv] 40)).cell? ⟨sb, off, none⟩ = w.cell? ⟨sb, off, none⟩ := World.cell?_alloc_past _ _ _ hsb
    rw [← e]
    rcases hcase with ⟨rfl, rfl, rfl⟩ | h
    · exact hq _ rfl (.inl (by simp; omega))
    · exact World.cell?_of_block (hO.block sb (by simp; omega) (fun e => h e.symm))

set_option maxHeartbeats 400000 in
theorem gadd_nil {w : World} {sb : Nat} (hs : w.cell? ⟨sb, 2, none⟩ = some (.slice none 0 0)) (hf : w.frozen? ⟨sb, 2, none⟩ = false) (ht : w.there sb 3 2)
    (tv : TypeId) (vv : Value) :
    Calls Yba.prog 7 #[.pointer (some ⟨sb, 0, none⟩), .iface tv vv] w fun e w' => e = .returned (.tuple #[]) ∧
      ∃ g' o' cap', w'.cell? ⟨sb, 2, none⟩ = some (.slice (some ⟨g', o', none⟩) 1 cap') ∧ Row w' g' o' 1 cap' 1 [.iface tv vv] ∧ g' < w'.heap.size ∧ ((g' = sb ∧ o' = 3 ∧ cap' = 2) ∨ g' ≠ sb) ∧ (g' = sb ∨ w.heap.size ≤ g') ∧
        Only (fun k => k = sb) w w' ∧ (∀ off, off < 2 → w'.cell? ⟨sb, off, none⟩ = w.cell? ⟨sb, off, none⟩) := by
  obtain ⟨i, hi, hzz⟩ := Option.map_eq_some_iff.1 info40
  simp only [Prod.mk.injEq] at hzz
  obtain ⟨hz, hsz, hbb⟩ := hzz
  have heq := fun w a n c => Lib.run_eql_slice_nil (P := Yba.prog) w 38 40 a n c 0 0 Yba.underlying38
  have B1 : 0 + 1 ≤ maxLen := by unfold maxLen; omega
  have B2 : (0 + 1) * 16 ≤ 140737488355328 := by omega
  have B3 : 0 < 1 := by omega
  have hsb := World.block_lt_of_cell? _ _ hs
  simp only at hsb
  have hOA : Only (fun k => k = sb) w ((w.setCell ⟨sb, 2, none⟩ (.slice (some ⟨sb, 3, none⟩) 0 2)).alloc (.cells #[.iface tv vv] 40)) := ((Only.refl (fun k => k = sb) w).setCell (q := ⟨sb, 2, none⟩) rfl _).alloc _
  have hsA : ((w.setCell ⟨sb, 2, none⟩ (.slice (some ⟨sb, 3, none⟩) 0 2)).alloc (.cells #[.iface tv vv] 40)).cell? ⟨sb, 2, none⟩ = some (.slice (some ⟨sb, 3, none⟩) 0 2) := by
    rw [World.cell?_alloc_past _ _ _ (by simpa using hsb), World.cell?_setCell_same _ _ _ hs]
  have hfA : ((w.setCell ⟨sb, 2, none⟩ (.slice (some ⟨sb, 3, none⟩) 0 2)).alloc (.cells #[.iface tv vv] 40)).frozen? ⟨sb, 2, none⟩ = false := by
    rw [World.frozen?_alloc_past _ _ _ (by simpa using hsb), World.frozen?_setCell]; exact hf
  have hsb' : sb < ((w.setCell ⟨sb, 2, none⟩ (.slice (some ⟨sb, 3, none⟩) 0 2)).alloc (.cells #[.iface tv vv] 40)).heap.size := by simp; omega
  have hr : Row ((w.setCell ⟨sb, 2, none⟩ (.slice (some ⟨sb, 3, none⟩) 0 2)).alloc (.cells #[.iface tv vv] 40)) sb 3 0 2 1 [] := by
    refine ⟨rfl, by omega, fun j v hv => by simp at hv, fun j hj => ?_, fun v hv => by simp at hv⟩
    obtain ⟨t1, t2⟩ := ht j (by omega)
    exact ⟨by rw [World.cell?_alloc_past _ _ _ (by simpa using hsb), World.cell?_setCell_other _ _ _ _ (by simp <;> omega)]; exact t1, by rw [World.frozen?_alloc_past _ _ _ (by simpa using hsb), World.frozen?_setCell]; exact t2⟩
  have hc' : ((w.setCell ⟨sb, 2, none⟩ (.slice (some ⟨sb, 3, none⟩) 0 2)).alloc (.cells #[.iface tv vv] 40)).rangeAt w.heap.size 0 [.iface tv vv] := fun j v hv => by
    rw [World.cell?_alloc_at _ _ _ _ (by simp), Nat.zero_add]; simpa using hv
  have h1A : ∀ u ∈ ([.iface tv vv] : List Value), u.oneCell' = true := fun u hu => by simp at hu; subst hu; rfl
  go_enter Yba.func7, Yba.ntmps7
  go_wp2_with (at_builtin; go_must (refine wpList_append_row _ rfl _ _ 38 rfl 40 i _ 1 16 Yba.underlying38 hi hz hsz hbb rfl B3 sb 3 0 2 [] rfl hr _ 1 1 [.iface tv vv] rfl B3 rfl hc' h1A B1 B2 (fun g' o' cap' w' hrow hcs hlt' hO hq => ?_) hsb'; have hs' := keep_head2 hsA (.inl ⟨rfl, rfl, rfl⟩) hO hq; have hf' := (hO.frozen ⟨sb, 2, none⟩ hsb').trans hfA; have HR := hide hrow; have HC := hide hcs; have HL := hide hlt'; have HO := hide hO; have HQ := hide hq; clear hrow hcs hlt' hO hq))
  go_end0
  have hrow := HR.out
  simp only [Nat.zero_add, List.nil_append] at hrow
  have hcs := HC.out
  have hlt' := HL.out
  have hO := HO.out
  have hq := HQ.out
  simp only [World.size_setCell, World.size_alloc] at hcs
  try simp only at hsb
  have hO2 : Only (fun k => k = sb) w w' := hOA.trans hO
  refine ⟨rfl, g', o', cap', World.cell?_setCell_same _ _ _ hs', ?_, by simpa using hlt', ?_, ?_, hO2.setCell (q := ⟨sb, 2, none⟩) rfl _, fun off ho => ?_⟩
  · refine ⟨hrow.len, hrow.le, fun j v hv => ?_, fun j hj => ?_, hrow.one⟩
    · rw [World.cell?_setCell_other _ _ _ _ ?_]; exact hrow.at' j v hv
      rcases hcs with ⟨rfl, rfl, rfl⟩ | ⟨h, _⟩
      · simp <;> omega
      · simp <;> omega
    · obtain ⟨t1, t2⟩ := hrow.there j hj
      refine ⟨?_, by rw [World.frozen?_setCell]; exact t2⟩
      rw [World.cell?_setCell_other _ _ _ _ ?_]; exact t1
      rcases hcs with ⟨rfl, rfl, rfl⟩ | ⟨h, _⟩
      · simp <;> omega
      · simp <;> omega
  · rcases hcs with ⟨rfl, rfl, rfl⟩ | ⟨h, _⟩
    · exact .inl ⟨rfl, rfl, rfl⟩
    · exact .inr (by omega)
  · rcases hcs with ⟨rfl, _, _⟩ | ⟨h, _⟩
    · exact .inl rfl
    · exact .inr (by omega)
  · rw [World.cell?_setCell_other _ _ _ _ (by simp <;> omega), hq _ rfl (.inl (by simp; omega)), World.cell?_alloc_past _ _ _ (by simpa using hsb), World.cell?_setCell_other _ _ _ _ (by simp <;> omega)]

/-- A call group in block gb that holds the n items 'cs', its row in block g. -/
structure Grp (w : World) (gb g n : Nat) (cs : List Value) : Prop where
  k0 : w.cell? ⟨gb, 0, none⟩ = some (.int .u8 2)
  k1 : w.cell? ⟨gb, 1, none⟩ = some (.bool false)
  hf : w.frozen? ⟨gb, 2, none⟩ = false
  lt : g < w.heap.size
  st : (w.cell? ⟨gb, 2, none⟩ = some (.slice none 0 0) ∧ n = 0 ∧ g = gb ∧ cs = [] ∧ w.there gb 3 2) ∨
    ∃ o cap, w.cell? ⟨gb, 2, none⟩ = some (.slice (some ⟨g, o, none⟩) n cap) ∧ Row w g o n cap 1 cs ∧ ((g = gb ∧ o = 3 ∧ cap = 2) ∨ g ≠ gb)

theorem Grp.gb_lt {w : World} {gb g n : Nat} {cs : List Value} (h : Grp w gb g n cs) : gb < w.heap.size := World.block_lt_of_cell? _ _ h.k0

theorem gadd_any {w : World} {gb g n : Nat} {cs : List Value} (hG : Grp w gb g n cs) (hn : n ≤ 1000) (tv : TypeId) (vv : Value) :
    Calls Yba.prog 7 #[.pointer (some ⟨gb, 0, none⟩), .iface tv vv] w fun e w' => e = .returned (.tuple #[]) ∧
      ∃ g', Grp w' gb g' (n + 1) (cs ++ [.iface tv vv]) ∧ (g' = g ∨ w.heap.size ≤ g') ∧ Only (fun k => k = gb ∨ k = g) w w' := by
  have hgb := hG.gb_lt
  obtain ⟨k0, k1, hf, hlt, hst⟩ := hG
  rcases hst with ⟨hs, rfl, rfl, rfl, ht⟩ | ⟨o, cap, hs, hr, hcase⟩
  · refine (gadd_nil hs hf ht tv vv).mono ?_
    rintro e w' ⟨rfl, g', o', cap', a1, a2, a3, a4, a5, a6, a7⟩
    rw [Nat.zero_add, List.nil_append]
    exact ⟨rfl, g', ⟨(a7 0 (by omega)).trans k0, (a7 1 (by omega)).trans k1, (a6.frozen _ hgb).trans hf, a3, .inr ⟨o', cap', a1, a2, a4⟩⟩, a5, a6.weaken (fun k _ h => .inl h)⟩
  · refine (gadd_some hs hf hr hlt hcase hn tv vv).mono ?_
    rintro e w' ⟨rfl, g', o', cap', a1, a2, a3, a4, a5, a6, a7⟩
    exact ⟨rfl, g', ⟨(a7 0 (by omega)).trans k0, (a7 1 (by omega)).trans k1, (a6.frozen _ hgb).trans hf, a3, .inr ⟨o', cap', a1, a2, a4⟩⟩, a5, a6⟩

theorem Grp.later {w w' : World} {gb g n : Nat} {cs : List Value} (h : Grp w gb g n cs) {p : Nat → Prop} (hO : Only p w w') (hs : ¬ p gb) (hg : ¬ p g) : Grp w' gb g n cs := by
  refine ⟨hO.cell hs h.k0, hO.cell hs h.k1, (hO.frozen _ h.gb_lt).trans h.hf, Nat.lt_of_lt_of_le h.lt hO.size, ?_⟩
  rcases h.st with ⟨c, rfl, rfl, rfl, ht⟩ | ⟨o, cap, c, hr, hcase⟩
  · refine .inl ⟨hO.cell hs c, rfl, rfl, rfl, fun j hj => ?_⟩
    obtain ⟨t1, t2⟩ := ht j hj
    obtain ⟨u, hu⟩ := Option.isSome_iff_exists.1 t1
    exact ⟨by rw [hO.cell hs hu]; rfl, (hO.frozen _ h.gb_lt).trans t2⟩
  · exact .inr ⟨o, cap, hO.cell hs c, hr.later hO hg h.lt, hcase⟩
end Go.Proofs.Ybulkbpnw
