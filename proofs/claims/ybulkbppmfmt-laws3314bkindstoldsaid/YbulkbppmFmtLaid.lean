/-
  YbulkbppmFmtLaid: what the listed map gives the walks; the start that the door's own run leaves.
-/
import Derived.Test.YbulkbppmFmtRows
import Derived.Test.YbulkbppmFmtWalks
import Derived.ProofKit
import Derived.LaidMore
import Derived.OpenShut
import Derived.OpenVars
import Derived.Maps.Keyed
import Derived.Deep.Strs
import Derived.Deep.DeepWitnessRowRef
import Derived.Deep.DeepWitnessRef
import Derived.Stop.JoinedTold
namespace Go.Proofs.YbulkbppmFmt
open Go.ChangeShapes Go.WideShapes Go.ChangeAt Go.WideMaps Go.WideElems Go.RowKit
open Go.Extern.Stop Go.Stop Go.Extern
set_option linter.unusedVariables false
set_option linter.unusedSimpArgs false

abbrev theLaid : List (String × DataW Unit) := [("example.com/sealed-stream/sealed-stream.stanzaSizes", Rows.laid_example_com_sealed_stream_sealed_stream_stanzaSizes)]

theorem own : ownKnob Ybaf.prog.godebug = none := by kernel_rfl
theorem gSizes : Ybaf.prog.globalNamed "example.com/sealed-stream/sealed-stream.stanzaSizes" = some 0 := by kernel_rfl
theorem tSizes : (Ybaf.prog.globals[0]?).map (·.type) = some 43 := by kernel_rfl

/-- The door's own heap meets the condition. -/
theorem door_met (os : Os) (args : Array Value) : laidMetH Ybaf.prog theLaid ((World.doorLaid Ybaf.prog 400 os).forCall (fun _ _ => 0) ⟨#[], args, []⟩).memory :=
  laidMetH_of_parts3 (fuel := 8) (laidMet_of_run' 8 (by kernel_rfl) (by kernel_rfl)) (by kernel_rfl) (by kernel_rfl)

section
variable {H : Type} {enc : TypeId × Value → H} {P : Program} {base : Nat} {held : Bool} {e : TypeId} {q0 q1 q2 : IntKind} {f0 f1 f2 : Field}
theorem elemAt_triple (he : P.underlying e = some (.struct #[f0, f1, f2])) (o0 : f0.offset = 0) (o1 : f1.offset = 1) (o2 : f2.offset = 2) (h0 : P.underlying f0.type = some (.int q0)) (h1 : P.underlying f1.type = some (.int q1)) (h2 : P.underlying f2.type = some (.int q2))
    (c0 : P.cellsOf f0.type = 1) (c1 : P.cellsOf f1.type = 1) (c2 : P.cellsOf f2.type = 1) (ce : P.cellsOf e = 3)
    {W : World} {sp : Nat → Bool} {n : Nat} {v : Value} {z : DataW H × List MemPlace} (h : elemAt enc P W base sp held n e v = some z) :
    ∃ a b c, v = .agg #[.int q0 a, .int q1 b, .int q2 c] ∧ z = (.agg [.lit (.int q0 a), .lit (.int q1 b), .lit (.int q2 c)], []) := by
  unfold elemAt at h
  split at h
  · rename_i hf
    obtain ⟨y0, y1, y2, m, rfl, hl, g0, g1, g2⟩ := Go.Deep.trod_struct3 he h
    obtain ⟨a, e0, rfl, wa⟩ := DataW.trod_int h0 g0
    obtain ⟨b, e1, rfl, wb⟩ := DataW.trod_int h1 g1
    obtain ⟨c, e2, rfl, wc⟩ := DataW.trod_int h2 g2
    cases v <;> simp [Value.formed, he] at hf
    rename_i cs
    obtain ⟨l⟩ := cs
    rw [ce] at hl
    simp [Value.cells] at hl e0 e1 e2
    match l, hl with
    | [x0, x1, x2], _ =>
      simp [c0, c1, c2, o0, o1, o2] at e0 e1 e2
      subst e0 e1 e2
      exact ⟨a, b, c, rfl, rfl⟩
  · cases h
end

theorem sizeAt {H : Type} (k : Int) : (Rows.laid_example_com_sealed_stream_sealed_stream_stanzaSizes (H := H)).atKey (.int .i64 k) .nil =
    if k = 1 then .agg [.lit (.int .i64 40), .lit (.int .i64 40), .lit (.int .i64 0)] else if k = 5 then .agg [.lit (.int .i64 256), .lit (.int .i64 2048), .lit (.int .i64 0)] else
      if k = 6 then .agg [.lit (.int .i64 40), .lit (.int .i64 40), .lit (.int .i64 32)] else .nil := by
  by_cases h1 : k = 1
  · subst h1; rfl
  by_cases h5 : k = 5
  · subst h5; rfl
  by_cases h6 : k = 6
  · subst h6; rfl
  simp [Rows.laid_example_com_sealed_stream_sealed_stream_stanzaSizes, DataW.atKey, List.find?, Lit.sameKey, h1, h5, h6, Ne.symm h1, Ne.symm h5, Ne.symm h6, eq_comm]

/-- WHAT THE CONDITION GIVES THE WALKS. -/
theorem of_laid {W : World} (h : laidMetH Ybaf.prog theLaid W) : ∃ bm, bm < W.heap.size ∧ W.cell? ⟨0, 0, none⟩ = some (.map (some bm)) ∧
    ∀ w : World, w.heap[bm]? = W.heap[bm]? → ∀ k : Int, (Lit.int .i64 k).wf = true → Look bm k w := by
  rw [MakeChecks.laidMetH_plain _ _ _ (by kernel_rfl)] at h
  obtain ⟨ps, ⟨g0, t0, cs0, f0, p0, q0, hg0, ht0, hv0, hd0, _, _⟩, _, _⟩ := h
  obtain rfl := Option.some.inj (gSizes.symm.trans hg0)
  obtain rfl := Option.some.inj (tSizes.symm.trans ht0)
  rcases open_map Ybaf.underlying43 hd0 with ⟨_, hx⟩ | ⟨bm, es, clock, m, rfl, hcs, hb, _, F, hx⟩
  · simp [Rows.laid_example_com_sealed_stream_sealed_stream_stanzaSizes] at hx
  simp only [Prod.mk.injEq] at hx
  have hcell : W.cell? ⟨0, 0, none⟩ = some (.map (some bm)) := by
    have := World.var?_cell hg0 hv0 0
    rw [Array.eq_one_of_toList hcs] at this
    simpa using this
  refine ⟨bm, (Array.getElem?_eq_some_iff.1 hb).1, hcell, fun w hw k hk => ?_⟩
  have zero : (zeroValue 41).run Ybaf.prog w = .ok (.agg #[.int .i64 0, .int .i64 0, .int .i64 0]) w := by kernel_rfl
  have hsz := sizeAt (H := Unit) k
  rcases Maps.fit_look (w := w) true (Maps.int_keyed Ybaf.underlying23) Ybaf.underlying43 zero (hw.trans hb) F (Maps.keyOf_int_mk Ybaf.underlying23 hk) with ⟨hrun, _, hat⟩ | ⟨e0, y, _, _, hrun, hRv, hat, _⟩
  · have := hat .nil
    rw [← hx.1, hsz] at this
    refine Or.inr (Or.inr ⟨by simpa using hrun, ?_, ?_⟩) <;> (rintro rfl; simp at this)
  · obtain ⟨a, b, c, ev, rfl⟩ := elemAt_triple (q0 := .i64) (q1 := .i64) (q2 := .i64) Ybaf.underlying41 rfl rfl rfl Ybaf.underlying3 Ybaf.underlying3 Ybaf.underlying3 (by kernel_rfl) (by kernel_rfl) (by kernel_rfl) (by kernel_rfl) hRv
    rw [ev] at hrun
    have := hat .nil
    rw [← hx.1, hsz] at this
    split at this
    · subst k
      simp at this
      obtain ⟨rfl, rfl, rfl⟩ := this
      exact Or.inl ⟨⟨_, _, by simpa using hrun⟩, Or.inl rfl⟩
    split at this
    · subst k
      simp at this
      obtain ⟨rfl, rfl, rfl⟩ := this
      exact Or.inl ⟨⟨_, _, by simpa using hrun⟩, Or.inr rfl⟩
    split at this
    · subst k
      simp at this
      obtain ⟨rfl, rfl, rfl⟩ := this
      exact Or.inr (Or.inl ⟨⟨_, _, by simpa using hrun⟩, rfl⟩)
    · cases this

theorem Ybaf.laidOut : laidOutB Ybaf.pinned.checked.prog = true := by kernel_rfl
theorem Ybaf.stops : Ybaf.pinned.checked.prog.stops = ["fmt.errorf"] := by kernel_rfl
theorem Ybaf.stopKnobs : Ybaf.pinned.checked.prog.stopKnobs = [] := by kernel_rfl
theorem Ybaf.quiet (os : Os) : Stop.quiet Ybaf.pinned.checked.prog os := by
  intro k hk
  rw [Ybaf.stopKnobs] at hk
  cases hk

theorem bounds_i64 {k : Int} (h : (Lit.int .i64 k).wf = true) : -9223372036854775808 ≤ k ∧ k ≤ 9223372036854775807 := by
  have e1 : IntKind.i64.min = -9223372036854775808 := rfl
  have e2 : IntKind.i64.max = 9223372036854775807 := rfl
  simp [Lit.wf, e1, e2] at h
  omega

theorem kindOf_wf {sel k : Int} (h : (Lit.int .i64 k).wf = true) (h0 : 0 ≤ sel) (h1 : sel ≤ 255) : (Lit.int .i64 (kindOf sel k)).wf = true := by
  unfold kindOf
  split
  · have e1 : IntKind.i64.min = -9223372036854775808 := rfl
    have e2 : IntKind.i64.max = 9223372036854775807 := rfl
    simp [Lit.wf, e1, e2]
    omega
  · exact h

end Go.Proofs.YbulkbppmFmt
