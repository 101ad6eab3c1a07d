/-
  LawS3314BNilWrap: the told and tied card. fmt's texts are told by the authors' own function (the law does not look at them); stanzaSizes is tied to the text of the PRUNED copy.
-/
import Derived.Test.YbulkbppmFmtLaid
import Derived.Test.YbulkbppmFmtTie
import Derived.Test.YbulkbppmFmtCards
import Derived.SevenTiedAt
namespace Go.Proofs.YbulkbppmFmt
open Go.ChangeShapes Go.WideShapes Go.ChangeAt Go.WideMaps Go.WideElems Go.RowKit
open Go.Extern.Stop Go.Stop Go.Extern
set_option linter.unusedVariables false
set_option linter.unusedSimpArgs false

set_option maxRecDepth 100000 in
theorem witness_row4 (os : Os) {H : Type} (enc : TypeId × Value → H) :
    (OpenSpec.ofChange Rows.lawS3314BNilWrapSpec).preRow enc Ybaf.prog Ybaf.f4 [] false theLaid ((World.doorLaid Ybaf.prog 400 os).forCall (fun _ _ => 0) ⟨#[], #[.int .u8 0, .int .i64 0], []⟩).memory #[.int .u8 0, .int .i64 0] := by
  have hw : (DataW.whole enc Ybaf.prog ((World.doorLaid Ybaf.prog 400 os).forCall (fun _ _ => 0) ⟨#[], #[.int .u8 0, .int .i64 0], []⟩).memory Ybaf.f4.params.toList (OpenSpec.ofChange Rows.lawS3314BNilWrapSpec).vars false #[Value.int .u8 0, Value.int .i64 0].toList 8).map (fun x => (x.1, x.2.1)) =
      some ([.lit (.int .u8 0), .lit (.int .i64 0)], [Rows.laid_example_com_sealed_stream_sealed_stream_stanzaSizes]) := by kernel_rfl
  obtain ⟨⟨x1, x2, x3⟩, hx, hx1⟩ := Option.map_eq_some_iff.1 hw
  simp only [Prod.mk.injEq] at hx1
  obtain ⟨rfl, rfl⟩ := hx1
  exact OpenSpec.preRow_of_cond 8 hx (by kernel_rfl) (fun k hk => by cases hk) (by kernel_rfl) (door_met os _)

set_option maxRecDepth 100000 in
theorem nilWrap_lifted (os : Os) (started : os.Started) (H : Type) (enc : TypeId × Value → H) :
    ReturnsInTold none {} Ybaf.checked os 4 .any Input.okWide ((OpenSpec.ofChange Rows.lawS3314BNilWrapSpec).preRow enc Ybaf.prog Ybaf.f4 [] false theLaid)
      (fun F => ((OpenSpec.ofChange Rows.lawS3314BNilWrapSpec).at F).post enc Ybaf.prog Ybaf.f4 false true false false) (aloneAtReturn Ybaf.prog) nothingAlways := by
  refine returnsInTold_of_row (C := Ybaf.checked) (s := OpenSpec.ofChange Rows.lawS3314BNilWrapSpec) (by kernel_rfl) own started (by kernel_rfl) Ybaf.func4
    (OpenSpec.witness_stopped_atRef (enc := enc) (C := Ybaf.checked) false (World.doorLaid Ybaf.prog 400 os) #[.int .u8 0, .int .i64 0] rfl (by kernel_rfl) (by kernel_rfl) (by kernel_rfl) (witness_row4 os enc)) ?_
  intro F W base args ds gs before _ hF hval0 hW _ _ _ hL _
  have hval : ∀ (j : Nat) t v, Ybaf.f4.params[j]? = some t → args[j]? = some v → Value.okWide Ybaf.prog W .any base t v := hval0
  have hW' := hW
  obtain ⟨p, q, hA0, hV0, rfl, _, _⟩ := hW
  have hA : DataW.TrodAll enc Ybaf.prog W 0 (fun _ => true) true Ybaf.f4.params.toList args.toList ds p := hA0
  rw [Ybaf.params4] at hA hval
  obtain ⟨v0, vs0, d0, ds0, p0, q0, hargs, rfl, rfl, h0, r0⟩ := trodAll_cons hA
  obtain ⟨v1, vs1, d1, ds1, p1, q1, rfl, rfl, rfl, h1, r1⟩ := trodAll_cons r0
  obtain ⟨rfl, rfl, rfl⟩ := trodAll_nil r1
  obtain rfl : args = #[v0, v1] := by cases args; simp_all
  have hV : DataW.TrodVars enc Ybaf.prog W (fun _ => true) ["example.com/sealed-stream/sealed-stream.stanzaSizes"] gs q := hV0
  obtain ⟨g, t, cs, fuel, gd, gp, rfl, _⟩ := trodVars_one hV
  obtain ⟨sel, rfl, rfl, rfl, w0⟩ := open_int Ybaf.underlying5 (hval 0 5 v0 rfl rfl) h0
  obtain ⟨k, rfl, rfl, rfl, w1⟩ := open_int Ybaf.underlying3 (hval 1 3 v1 rfl rfl) h1
  clear hA0 hval0
  obtain ⟨bm, hbm, hc, hlook⟩ := of_laid hL
  obtain ⟨s0, s1⟩ := bounds_u8 w0
  obtain ⟨k0, k1⟩ := bounds_i64 w1
  refine (nilWrap_walk F.told bm sel k W s0 s1 k0 k1 hF hc (hlook W rfl _ (kindOf_wf w1 s0 s1))).mono fun e W' ⟨he, bel⟩ => ?_
  subst he
  exact ⟨_, rfl, _, _, _, [], _, _, hW', trodAll_mk1 (shut_bool Ybaf.underlying4 _), (trodAll_cons_mk (shut_int Ybaf.underlying5 w0) (trodAll_cons_mk (shut_int Ybaf.underlying3 w1) trodAll_mk0)), Below.trodVars Ybaf.laidOut bel (by kernel_rfl) hV, bel.frame _, fun h => by cases h⟩

namespace lawS3314BNilWrap
/-- ████ THE STATEMENT ████ -/
theorem proved : Rows.LawS3314BNilWrapToldSaid :=
  Claim7.holds_of_told_tied_any_at .later 4 Ybaf.f4 "fmt.errorf" [] [] _ _ _ _ _ (by kernel_rfl) rfl rfl rfl Ybaf.laidOut (by kernel_rfl) rfl ⟨rfl, rfl, rfl, rfl, rfl, rfl, rfl⟩ rfl rfl (by kernel_rfl) (by kernel_rfl) Ybaf.func4 (by kernel_rfl)
    (of_decide_eq_true (by kernel_rfl)) (of_decide_eq_true (by kernel_rfl)) Ybaf.stops.symm rfl Ybaf.stopKnobs.symm (by kernel_rfl)
    (by kernel_rfl) (by kernel_rfl) (by kernel_rfl) (by kernel_rfl) (by kernel_rfl) (by kernel_rfl) (by kernel_rfl) (by kernel_rfl) (by kernel_rfl) rfl (by kernel_rfl) rfl rfl
    rfl rfl
    rfl (by kernel_rfl) (by kernel_rfl) (by kernel_rfl) (by decide) (by kernel_rfl) lawS3314BNilWrap_row_tie
    (OpenClaim.moreEntering_of (by kernel_rfl) (by kernel_rfl) (by kernel_rfl) (by kernel_rfl) (by kernel_rfl) (by kernel_rfl) (by kernel_rfl) (by kernel_rfl) (by kernel_rfl) (by kernel_rfl))
    ⟨_, WideRow.started_initial, Ybaf.quiet _⟩
    (fun os started _ H enc _ => nilWrap_lifted os started H enc)
end lawS3314BNilWrap
end Go.Proofs.YbulkbppmFmt
