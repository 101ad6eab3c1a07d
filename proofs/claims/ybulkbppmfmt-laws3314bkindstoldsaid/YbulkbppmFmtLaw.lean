/-
  YbulkbppmFmtLaw: the walk of LawS3314BKinds.
-/
import Derived.Test.YbulkbppmFmtKinds
namespace Go.Proofs.YbulkbppmFmt
open Go.RowKit Go.Extern.Stop Go.Stop Go.Extern
set_option linter.unusedVariables false
set_option linter.unusedSimpArgs false

attribute [local go_sem] eql_func eql_nilFunc

theorem new_err (F : Interp) (bm : Nat) (k : Int) (f : Value) (w : World) (hF : F.answers w.tape) (hc : w.cell? ⟨0, 0, none⟩ = some (.map (some bm))) (hl : Look bm k w) (n1 : k ≠ 1) (n5 : k ≠ 5) :
    Calls Ybaf.prog 7 #[.int .i64 k, f] w fun e w' => ∃ t p, e = .returned (.tuple #[.pointer none, .iface t (.pointer (some p))]) ∧ Below w.heap.size w w' := by
  rcases hl with ⟨_, h | h⟩ | ⟨⟨a, b, hl⟩, _⟩ | ⟨hl, _⟩
  · exact absurd h n1
  · exact absurd h n5
  · exact (new_eph F bm k a b _ w hF hc hl).mono fun e w' ⟨p, h1, h2⟩ => ⟨_, p, h1, h2⟩
  · exact (new_no F bm k _ w hF hc hl).mono fun e w' ⟨p, h1, h2⟩ => ⟨_, p, h1, h2⟩

theorem law_long (sel k : Int) (p : Option Addr) (n c : Nat) (nm : ByteArray) (w : World) (hn : n ≤ maxLen) (hm : nm.size ≤ maxLen) (h : 1024 < n ∨ 1024 < nm.size) :
    Calls Ybaf.prog 3 #[.int .u8 sel, .int .i64 k, .slice p n c, .string nm] w fun e w' => e = .returned (.bool true) ∧ w' = w := by
  unfold maxLen at hn hm
  by_cases h1 : (1024 : Int) < (n : Int)
  · go_enter Ybaf.func3, Ybaf.ntmps3
    go_wp2
    go_ret
    exact ⟨rfl, rfl⟩
  · have h2 : (1024 : Int) < (nm.size : Int) := by omega
    go_enter Ybaf.func3, Ybaf.ntmps3
    go_wp2
    go_ret
    exact ⟨rfl, rfl⟩

/-- The four captured variables. -/
abbrev four (w : World) : World := (((w.alloc (.cells #[.int .i64 0] 3)).alloc (.cells #[.int .i64 0] 23)).alloc (.cells #[.string ⟨#[]⟩] 9)).alloc (.cells #[.slice none 0 0] 22)
theorem four_below (w : World) : Below w.heap.size w (four w) := by unfold four; go_grown
theorem four_size (w : World) : (four w).heap.size = w.heap.size + 4 := by unfold four; go_simp
theorem four0 (w : World) : (four w).cell? ⟨w.heap.size, 0, none⟩ = some (.int .i64 0) := by unfold four; go_simp
theorem four1 (w : World) : (four w).cell? ⟨w.heap.size + 1, 0, none⟩ = some (.int .i64 0) := by unfold four; go_simp
theorem four2 (w : World) : (four w).cell? ⟨w.heap.size + 2, 0, none⟩ = some (.string ⟨#[]⟩) := by unfold four; go_simp
theorem four3 (w : World) : (four w).cell? ⟨w.heap.size + 3, 0, none⟩ = some (.slice none 0 0) := by unfold four; go_simp
theorem frozen0 (w : World) : (four w).frozen? ⟨w.heap.size, 0, none⟩ = false := by unfold four; go_simp
theorem frozen1 (w : World) : (four w).frozen? ⟨w.heap.size + 1, 0, none⟩ = false := by unfold four; go_simp
theorem frozen2 (w : World) : (four w).frozen? ⟨w.heap.size + 2, 0, none⟩ = false := by unfold four; go_simp
theorem frozen3 (w : World) : (four w).frozen? ⟨w.heap.size + 3, 0, none⟩ = false := by unfold four; go_simp

set_option maxHeartbeats 1000000 in
theorem law_err (F : Interp) (bm : Nat) (sel k : Int) (p : Option Addr) (n c : Nat) (nm : ByteArray) (w : World) (h0 : 0 ≤ sel) (h1 : sel ≤ 255) (k0 : -9223372036854775808 ≤ k) (k1 : k ≤ 9223372036854775807)
    (hF : F.answers w.tape) (hbm : bm < w.heap.size) (hc : w.cell? ⟨0, 0, none⟩ = some (.map (some bm))) (hl : ∀ w' : World, w'.heap[bm]? = w.heap[bm]? → Look bm (kindOf sel k) w')
    (hn : (n : Int) ≤ 1024) (hm : (nm.size : Int) ≤ 1024) (n1 : kindOf sel k ≠ 1) (n5 : kindOf sel k ≠ 5) :
    Calls Ybaf.prog 3 #[.int .u8 sel, .int .i64 k, .slice p n c, .string nm] w fun e w' => e = .returned (.bool true) ∧ Below w.heap.size w w' := by
  have kw := kind_walk sel k w h0 h1 k0 k1
  generalize kindOf sel k = K at *
  go_enter Ybaf.func3, Ybaf.ntmps3
  go_wp2_with fail
  refine kw.mono ?_
  rintro e w' ⟨rfl, rfl⟩
  clear kw
  go_wp2_with fail
  have bel4 := four_below w'
  have hsz := four_size w'
  refine (new_err F bm K _ (four w') hF ((bel4.cell (World.block_lt_of_cell? _ _ hc)).trans hc) (hl _ (bel4.block bm hbm)) n1 n5).mono ?_
  rintro e w5 ⟨t, q, rfl, bel5⟩
  have hc0 : w5.cell? ⟨w'.heap.size, 0, none⟩ = some (.int .i64 0) := (bel5.cell (by rw [hsz]; simp)).trans (four0 w')
  have bel : Below w'.heap.size w' w5 := bel4.trans (bel5.mono (by omega))
  have e1 : (K == 1) = false := by simpa using n1
  have e5 : (K == 5) = false := by simpa using n5
  clear hl bel4 bel5 hsz n1 n5
  go_wp2
  go_ret
  exact ⟨rfl, bel⟩

/-- The captured variables and the recipient, as the law's second half finds them. -/
structure Mid (B R : Nat) (K : Int) (w : World) : Prop where
  size : B + 4 ≤ w.heap.size
  c0 : w.cell? ⟨B, 0, none⟩ = some (.int .i64 0)
  c1 : w.cell? ⟨B + 1, 0, none⟩ = some (.int .i64 0)
  c2 : w.cell? ⟨B + 2, 0, none⟩ = some (.string ⟨#[]⟩)
  c3 : w.cell? ⟨B + 3, 0, none⟩ = some (.slice none 0 0)
  f0 : w.frozen? ⟨B, 0, none⟩ = false
  f1 : w.frozen? ⟨B + 1, 0, none⟩ = false
  f2 : w.frozen? ⟨B + 2, 0, none⟩ = false
  f3 : w.frozen? ⟨B + 3, 0, none⟩ = false
  r0 : w.cell? ⟨R, 0, none⟩ = some (.string ⟨#[]⟩)
  r1 : w.cell? ⟨R, 1, none⟩ = some (.int .i64 K)
  r2 : w.cell? ⟨R, 2, none⟩ = some (.func (.func 6) #[] #[.pointer (some ⟨B, 0, none⟩), .pointer (some ⟨B + 3, 0, none⟩), .pointer (some ⟨B + 1, 0, none⟩), .pointer (some ⟨B + 2, 0, none⟩)])

theorem Mid.later {B R : Nat} {K : Int} {w w' : World} (h : Mid B R K w) (b : Below w.heap.size w w') : Mid B R K w' :=
  have cc : ∀ {a : Addr} {v : Value}, w.cell? a = some v → w'.cell? a = some v := fun ha => (b.cell (World.block_lt_of_cell? _ _ ha)).trans ha
  have ff : ∀ {a : Addr} {v : Value}, w.cell? a = some v → w.frozen? a = false → w'.frozen? a = false := fun ha hf => (b.frozen (World.block_lt_of_cell? _ _ ha)).trans hf
  ⟨Nat.le_trans h.size b.size, cc h.c0, cc h.c1, cc h.c2, cc h.c3, ff h.c0 h.f0, ff h.c1 h.f1, ff h.c2 h.f2, ff h.c3 h.f3, cc h.r0, cc h.r1, cc h.r2⟩

theorem mid_made (w : World) (a b K : Int) :
    Mid w.heap.size (w.heap.size + 5) K (((four w).alloc (.cells #[.int .i64 a, .int .i64 b, .int .i64 0] 41)).alloc (.cells #[.string ⟨#[]⟩, .int .i64 K, .func (.func 6) #[] #[.pointer (some ⟨w.heap.size, 0, none⟩), .pointer (some ⟨w.heap.size + 3, 0, none⟩), .pointer (some ⟨w.heap.size + 1, 0, none⟩), .pointer (some ⟨w.heap.size + 2, 0, none⟩)]] 33)) := by
  unfold four
  refine ⟨?_, ?_, ?_, ?_, ?_, ?_, ?_, ?_, ?_, ?_, ?_, ?_⟩ <;> go_simp

set_option maxHeartbeats 2000000 in
theorem law_ok1 (bm : Nat) (sel k K a b : Int) (p : Option Addr) (n c : Nat) (xs : List Int) (nm : ByteArray) (w : World) (hK : K = 1 ∨ K = 5)
    (kw : Calls Ybaf.prog 5 #[.int .u8 sel, .int .i64 k] w fun e w' => e = .returned (.int .i64 K) ∧ w' = w)
    (hc : w.cell? ⟨0, 0, none⟩ = some (.map (some bm)))
    (hl : (Instr.lookup 43 (.map (some bm)) (.int .i64 K) true).run Ybaf.prog (four w) = .ok (.tuple #[.agg #[.int .i64 a, .int .i64 b, .int .i64 0], .bool true]) (four w))
    (hn : (n : Int) ≤ 1024) (hm : (nm.size : Int) ≤ 1024) (hlen : xs.length = n) (h0 : p = none → c = 0) (hin : Lib.BytesIn w p n xs) :
    Calls Ybaf.prog 3 #[.int .u8 sel, .int .i64 k, .slice p n c, .string nm] w fun e w' => e = .returned (.bool true) ∧ Below w.heap.size w w' := by
  have bel4 := four_below w
  have hc4 : (four w).cell? ⟨0, 0, none⟩ = some (.map (some bm)) := (bel4.cell (World.block_lt_of_cell? _ _ hc)).trans hc
  have mid := mid_made w a b K
  go_enter Ybaf.func3, Ybaf.ntmps3
  go_wp2_with fail
  refine kw.mono ?_
  rintro e w' ⟨rfl, rfl⟩
  clear kw
  go_wp2_with fail
  refine (new_ok bm K a b _ _ _ _ hc4 hl).mono ?_
  rintro e w5 ⟨rfl, hw5⟩
  replace mid : Mid w'.heap.size (w'.heap.size + 5) K w5 := by rw [hw5]; exact mid
  have bel5 : Below w'.heap.size w' w5 := by rw [hw5]; unfold four; go_grown
  clear hw5 bel4 hc4 hl
  rw [four_size]
  have hin5 : Lib.BytesIn w5 p n xs := bytes_later hin fun bb off _ j u hu => (bel5.cell (World.block_lt_of_cell? _ _ hu)).trans hu
  have hn' : n ≤ 1024 := by omega
  have HIN := hide hin
  clear hin
  generalize hB : w'.heap.size = B at *
  have c0 := mid.c0
  have r0 : w5.cell? ⟨B + 4 + 1, 0, none⟩ = _ := mid.r0
  have r1 : w5.cell? ⟨B + 4 + 1, 1, none⟩ = _ := mid.r1
  have r2 : w5.cell? ⟨B + 4 + 1, 2, none⟩ = _ := mid.r2
  have HB' := hide bel5
  have HM := hide mid
  clear bel5 mid
  rcases hK with rfl | rfl
  all_goals (
    go_wp2_with (at_builtin; go_must (refine app_nil rfl _ rfl p n c xs rfl hlen hn' h0 hin5 (fun p' c' w6 hin' hp' hq' bel6 => ?_); have MID := (show Mid _ _ _ _ from HM).later bel6; have t0 := MID.c0; have t1 : w6.cell? ⟨B + 1, 0, none⟩ = _ := MID.c1; have t2 : w6.cell? ⟨B + 1 + 1, 0, none⟩ = _ := MID.c2; have t3 : w6.cell? ⟨B + 1 + 1 + 1, 0, none⟩ = _ := MID.c3; have q2 : w6.cell? ⟨B + 4 + 1, 2, none⟩ = _ := MID.r2; have HI := hide hin'; have HP := hide hp'; have HQ := hide hq'; have HB6 := hide bel6; have HM6 := hide MID; clear hin' hp' hq' bel6 MID))
    have hI : Lib.BytesIn w6 p' n xs := HI
    have hQ : ∀ q, p' = some q → w5.heap.size ≤ q.block ∧ q.block < w6.heap.size := HQ
    have hb6 : Below w5.heap.size w5 w6 := HB6
    have hm6 : Mid B (B + 5) _ w6 := HM6
    have hm5 : Mid B (B + 5) _ w5 := HM
    have hb5 : Below B w' w5 := HB'
    have s5 := hm5.size
    have hP : p' = none → c' = 0 := HP
    have hI' : Lib.BytesIn (w6.setCell ⟨B, 0, none⟩ (.int .i64 1)) p' n xs := bytes_later hI fun bb off hp j u hu => by
      have := (hQ _ hp).1
      rw [World.cell?_setCell_other _ _ _ _ (by simp at this ⊢ <;> omega)]; exact hu
    refine (closure_walk B p' n c' xs _ 0 nm w6 hlen hn' hP hI' hm6.size hm6.c0 hm6.c1 hm6.c2 hm6.c3 hm6.f0 hm6.f1 hm6.f2 hm6.f3).mono ?_
    rintro e w7 ⟨q, p7, c7, rfl, left⟩
    have bel7 : Below B w' w7 := (hb5.trans (hb6.mono (by omega))).trans left.bel
    have key7 : Lib.BytesIn w7 p n xs := bytes_later (show Lib.BytesIn w' p n xs from HIN) fun bb off _ j u hu => (bel7.cell (by have := World.block_lt_of_cell? _ _ hu; omega)).trans hu
    have d0 := left.c0
    have d1 := left.c1
    have d2 : w7.cell? ⟨B + 1 + 1, 0, none⟩ = _ := left.c2
    have d3 : w7.cell? ⟨B + 1 + 1 + 1, 0, none⟩ = _ := left.c3
    have GOT := hide left.got
    have OUT := hide left.out
    have KEY := hide key7
    have B7 := hide bel7
    clear left bel7 key7 hI hQ hb6 hm6 hm5 hb5 hP hI' HI HQ HB6 HM6 HM HB' HP HIN t0 t1 t2 t3 q2 r0 r1 r2 c0 hin5
    go_wp2_with fail
    refine (equal_walk p7 p n c7 n c xs xs w7 hlen hlen GOT KEY rfl).mono ?_
    rintro e w8 ⟨rfl, rfl⟩
    go_wp2_with fail
    have bn : Below w8.heap.size w8 (w8.alloc (.cells #[.int .u8 ((n : Int) % 256), .int .u8 7] 5)) := (Below.refl _ _).alloc (Nat.le_refl _) _
    have o1 : Lib.BytesIn (w8.alloc (.cells #[.int .u8 ((n : Int) % 256), .int .u8 7] 5)) (some ⟨q, 0, none⟩) 2 [(n : Int) % 256, 7] := bytes_later (show Lib.BytesIn w8 _ _ _ from OUT) fun bb off _ j u hu => (bn.cell (World.block_lt_of_cell? _ _ hu)).trans hu
    have o2 : Lib.BytesIn (w8.alloc (.cells #[.int .u8 ((n : Int) % 256), .int .u8 7] 5)) (some ⟨w8.heap.size, 0, none⟩) 2 [(n : Int) % 256, 7] := by
      intro _
      refine ⟨_, _, rfl, fun i hi => ?_⟩
      match i, hi with
      | 0, _ => simp
      | 1, _ => simp
    refine (equal_walk _ _ 2 2 2 2 _ _ _ rfl rfl o1 o2 rfl).mono ?_
    rintro e w9 ⟨rfl, rfl⟩
    have b9 : Below B w' (w8.alloc (.cells #[.int .u8 ((n : Int) % 256), .int .u8 7] 5)) := (show Below B w' w8 from B7).trans (bn.mono (by have := (show Below B w' w8 from B7).size; omega))
    clear bn o1 o2
    go_wp2
    go_ret
    rw [hB]
    exact ⟨rfl, b9⟩)

theorem law_all (F : Interp) (bm : Nat) (sel k : Int) (p : Option Addr) (n c : Nat) (xs : List Int) (nm : ByteArray) (w : World) (h0 : 0 ≤ sel) (h1 : sel ≤ 255) (k0 : -9223372036854775808 ≤ k) (k1 : k ≤ 9223372036854775807)
    (hF : F.answers w.tape) (hbm : bm < w.heap.size) (hc : w.cell? ⟨0, 0, none⟩ = some (.map (some bm))) (hl : ∀ w' : World, w'.heap[bm]? = w.heap[bm]? → Look bm (kindOf sel k) w')
    (hn : n ≤ maxLen) (hm : nm.size ≤ maxLen) (hlen : xs.length = n) (hp : p = none → c = 0) (hin : Lib.BytesIn w p n xs) :
    Calls Ybaf.prog 3 #[.int .u8 sel, .int .i64 k, .slice p n c, .string nm] w fun e w' => e = .returned (.bool true) ∧ Below w.heap.size w w' := by
  by_cases hlong : 1024 < n ∨ 1024 < nm.size
  · exact (law_long sel k p n c nm w hn hm hlong).mono fun e w' ⟨h, h'⟩ => ⟨h, by rw [h']; exact Below.refl _ _⟩
  · have hn' : (n : Int) ≤ 1024 := by omega
    have hm' : (nm.size : Int) ≤ 1024 := by omega
    by_cases hK : kindOf sel k = 1 ∨ kindOf sel k = 5
    · have hlk := hl (four w) ((four_below w).block bm hbm)
      rcases hlk with ⟨⟨a, b, hlk⟩, _⟩ | ⟨_, h6⟩ | ⟨_, n1, n5⟩
      · exact law_ok1 bm sel k _ a b p n c xs nm w hK (kind_walk sel k w h0 h1 k0 k1) hc hlk hn' hm' hlen hp hin
      · omega
      · omega
    · exact law_err F bm sel k p n c nm w h0 h1 k0 k1 hF hbm hc hl hn' hm' (fun h => hK (.inl h)) (fun h => hK (.inr h))
end Go.Proofs.YbulkbppmFmt
