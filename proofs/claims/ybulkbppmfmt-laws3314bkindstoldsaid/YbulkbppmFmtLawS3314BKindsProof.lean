/-
  LawS3314BKinds: the told and tied card. fmt's texts are told by the authors' own function (the law does not look at them); stanzaSizes is tied to the text of the PRUNED copy.
-/
import Derived.Test.YbulkbppmFmtLaid
import Derived.Test.YbulkbppmFmtLaw
import Derived.ShutString
import Derived.Test.YbulkbppmFmtTie
import Derived.Test.YbulkbppmFmtCards
import Derived.SevenTiedAt
namespace Go.Proofs.YbulkbppmFmt
open Go.ChangeShapes Go.WideShapes Go.ChangeAt Go.WideMaps Go.WideElems Go.RowKit
open Go.Extern.Stop Go.Stop Go.Extern
open Go.ChangeMaps (open_string shut_string)
set_option linter.unusedVariables false
set_option linter.unusedSimpArgs false

set_option maxRecDepth 100000 in
theorem witness_row3 (os : Os) {H : Type} (enc : TypeId × Value → H) :
    (OpenSpec.ofChange Rows.lawS3314BKindsSpec).preRow enc Ybaf.prog Ybaf.f3 [] false theLaid ((World.doorLaid Ybaf.prog 400 os).forCall (fun _ _ => 0) ⟨#[], #[.int .u8 0, .int .i64 0, .slice none 0 0, .string ByteArray.empty], []⟩).memory #[.int .u8 0, .int .i64 0, .slice none 0 0, .string ByteArray.empty] := by
  have hw : (DataW.whole enc Ybaf.prog ((World.doorLaid Ybaf.prog 400 os).forCall (fun _ _ => 0) ⟨#[], #[.int .u8 0, .int .i64 0, .slice none 0 0, .string ByteArray.empty], []⟩).memory Ybaf.f3.params.toList (OpenSpec.ofChange Rows.lawS3314BKindsSpec).vars false #[Value.int .u8 0, Value.int .i64 0, Value.slice none 0 0, Value.string ByteArray.empty].toList 8).map (fun x => (x.1, x.2.1)) =
      some ([.lit (.int .u8 0), .lit (.int .i64 0), .nil, .lit (.string [])], [Rows.laid_example_com_sealed_stream_sealed_stream_stanzaSizes]) := by kernel_rfl
  obtain ⟨⟨x1, x2, x3⟩, hx, hx1⟩ := Option.map_eq_some_iff.1 hw
  simp only [Prod.mk.injEq] at hx1
  obtain ⟨rfl, rfl⟩ := hx1
  exact OpenSpec.preRow_of_cond 8 hx (by kernel_rfl) (fun k hk => by cases hk) (by kernel_rfl) (door_met os _)

set_option maxRecDepth 100000 in
theorem kinds_lifted (os : Os) (started : os.Started) (H : Type) (enc : TypeId × Value → H) :
    ReturnsInTold none {} Ybaf.checked os 3 .any Input.okWide ((OpenSpec.ofChange Rows.lawS3314BKindsSpec).preRow enc Ybaf.prog Ybaf.f3 [] false theLaid)
      (fun F => ((OpenSpec.ofChange Rows.lawS3314BKindsSpec).at F).post enc Ybaf.prog Ybaf.f3 false true false false) (aloneAtReturn Ybaf.prog) nothingAlways := by
  refine returnsInTold_of_row (C := Ybaf.checked) (s := OpenSpec.ofChange Rows.lawS3314BKindsSpec) (by kernel_rfl) own started (by kernel_rfl) Ybaf.func3
    (OpenSpec.witness_stopped_atRef (enc := enc) (C := Ybaf.checked) false (World.doorLaid Ybaf.prog 400 os) #[.int .u8 0, .int .i64 0, .slice none 0 0, .string ByteArray.empty] rfl (by kernel_rfl) (by kernel_rfl) (by kernel_rfl) (witness_row3 os enc)) ?_
  intro F W base args ds gs before _ hF hval0 hW _ _ _ hL _
  have hval : ∀ (j : Nat) t v, Ybaf.f3.params[j]? = some t → args[j]? = some v → Value.okWide Ybaf.prog W .any base t v := hval0
  have hW' := hW
  obtain ⟨p, q, hA0, hV0, rfl, _, _⟩ := hW
  have hA : DataW.TrodAll enc Ybaf.prog W 0 (fun _ => true) true Ybaf.f3.params.toList args.toList ds p := hA0
  rw [Ybaf.params3] at hA hval
  obtain ⟨v0, vs0, d0, ds0, p0, q0, hargs, rfl, rfl, h0, r0⟩ := trodAll_cons hA
  obtain ⟨v1, vs1, d1, ds1, p1, q1, rfl, rfl, rfl, h1, r1⟩ := trodAll_cons r0
  obtain ⟨v2, vs2, d2, ds2, p2, q2, rfl, rfl, rfl, h2, r2⟩ := trodAll_cons r1
  obtain ⟨v3, vs3, d3, ds3, p3, q3, rfl, rfl, rfl, h3, r3⟩ := trodAll_cons r2
  obtain ⟨rfl, rfl, rfl⟩ := trodAll_nil r3
  obtain rfl : args = #[v0, v1, v2, v3] := by cases args; simp_all
  have hV : DataW.TrodVars enc Ybaf.prog W (fun _ => true) ["example.com/sealed-stream/sealed-stream.stanzaSizes"] gs q := hV0
  obtain ⟨g, t, cs, fuel, gd, gp, rfl, _⟩ := trodVars_one hV
  obtain ⟨sel, rfl, rfl, rfl, w0⟩ := open_int Ybaf.underlying5 (hval 0 5 v0 rfl rfl) h0
  obtain ⟨k, rfl, rfl, rfl, w1⟩ := open_int Ybaf.underlying3 (hval 1 3 v1 rfl rfl) h1
  obtain ⟨a2, len2, cap2, rfl⟩ := okWide_slice Ybaf.underlying22 (hval 2 22 v2 rfl rfl)
  have key2 := h2
  have lt2 : ∀ x ∈ p2, x.block < W.heap.size := by obtain ⟨m, hm⟩ := key2; exact DataW.trod_lt m _ _ _ hm
  obtain ⟨zs, hn2, hlen2, hp2, hin2⟩ : ∃ zs : List Int, len2 ≤ maxLen ∧ zs.length = len2 ∧ (a2 = none → cap2 = 0) ∧ Lib.BytesIn W a2 len2 zs := by
    obtain ⟨fuel, hf⟩ := h2
    rcases open_ints Ybaf.underlying22 Ybaf.underlying5 (by kernel_rfl) hf with ⟨hcs, _⟩ | ⟨x, l, c, zs, hcs, _, hl, hm, hz, _, hcell, hwz⟩
    · simp [Value.cells] at hcs
      obtain ⟨rfl, rfl, rfl⟩ := hcs
      exact ⟨[], Nat.zero_le _, rfl, fun _ => rfl, Lib.BytesIn.nil _ _ _⟩
    · simp [Value.cells] at hcs
      obtain ⟨rfl, rfl, rfl⟩ := hcs
      have hz' : zs.length = cap2 := by simpa using hz
      refine ⟨zs.take len2, Nat.le_trans hl hm, (by simp; omega), (fun h => nomatch h), Lib.BytesIn.of_cells fun i hi => ?_⟩
      rw [hcell i (by omega)]
      simp [List.getElem?_take, hi]
  obtain ⟨nm, rfl, rfl, rfl, w3⟩ := open_string Ybaf.underlying9 (hval 3 9 v3 rfl rfl) h3
  clear hA0 hval0
  obtain ⟨bm, hbm, hc, hlook⟩ := of_laid hL
  obtain ⟨s0, s1⟩ := bounds_u8 w0
  obtain ⟨k0, k1⟩ := bounds_i64 w1
  refine (law_all F.told bm sel k a2 len2 cap2 zs nm W s0 s1 k0 k1 hF hbm hc (fun w' hw' => hlook w' hw' _ (kindOf_wf w1 s0 s1)) hn2 w3 hlen2 hp2 hin2).mono fun e W' ⟨he, bel⟩ => ?_
  subst he
  exact ⟨_, rfl, _, _, _, [], _, _, hW', trodAll_mk1 (shut_bool Ybaf.underlying4 _), (trodAll_cons_mk (shut_int Ybaf.underlying5 w0) (trodAll_cons_mk (shut_int Ybaf.underlying3 w1) (trodAll_cons_mk (Below.trod Ybaf.laidOut (by kernel_rfl) (of_decide_eq_true (by kernel_rfl)) key2 bel lt2) (trodAll_cons_mk (shut_string Ybaf.underlying9 w3) trodAll_mk0)))), Below.trodVars Ybaf.laidOut bel (by kernel_rfl) hV, bel.frame _, fun h => by cases h⟩

namespace lawS3314BKinds
/-- ████ THE STATEMENT ████ -/
theorem proved : Rows.LawS3314BKindsToldSaid :=
  Claim7.holds_of_told_tied_any_at .later 3 Ybaf.f3 "fmt.errorf" [] [] _ _ _ _ _ (by kernel_rfl) rfl rfl rfl Ybaf.laidOut (by kernel_rfl) rfl ⟨rfl, rfl, rfl, rfl, rfl, rfl, rfl⟩ rfl rfl (by kernel_rfl) (by kernel_rfl) Ybaf.func3 (by kernel_rfl)
    (of_decide_eq_true (by kernel_rfl)) (of_decide_eq_true (by kernel_rfl)) Ybaf.stops.symm rfl Ybaf.stopKnobs.symm (by kernel_rfl)
    (by kernel_rfl) (by kernel_rfl) (by kernel_rfl) (by kernel_rfl) (by kernel_rfl) (by kernel_rfl) (by kernel_rfl) (by kernel_rfl) (by kernel_rfl) rfl (by kernel_rfl) rfl rfl
    rfl rfl
    rfl (by kernel_rfl) (by kernel_rfl) (by kernel_rfl) (by decide) (by kernel_rfl) lawS3314BKinds_row_tie
    (OpenClaim.moreEntering_of (by kernel_rfl) (by kernel_rfl) (by kernel_rfl) (by kernel_rfl) (by kernel_rfl) (by kernel_rfl) (by kernel_rfl) (by kernel_rfl) (by kernel_rfl) (by kernel_rfl))
    ⟨_, WideRow.started_initial, Ybaf.quiet _⟩
    (fun os started _ H enc _ => kinds_lifted os started H enc)
end lawS3314BKinds
end Go.Proofs.YbulkbppmFmt
