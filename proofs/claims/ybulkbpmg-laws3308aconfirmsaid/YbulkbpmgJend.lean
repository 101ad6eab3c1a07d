import Derived.Test.YbulkbpmgRend
namespace Go.Proofs.Ybulkbpmg
open Go.RowKit
set_option linter.unusedVariables false
set_option linter.unusedSimpArgs false
attribute [local go_sem] setCell_drewN alloc_drewN

theorem Only.weaken {p q : Nat → Prop} {w w' : World} (h : Only p w w') (hpq : ∀ k, p k → q k) : Only q w w' :=
  ⟨h.os, h.tape, h.output, h.size, fun k hk hn => h.block k hk (fun hp => hn (hpq k hp)), h.frozen⟩

theorem Settled.later {w w' : World} {b o n rt rb : Nat} {size since lk after confirmed : Int} {pending reached : Bool} {row : Nat → Int} (h : Settled w b o n rt rb size pending reached since lk after confirmed row)
    {p : Nat → Prop} (hO : Only p w w') (hrt : ¬ p rt) (hrb : ¬ p rb) (hc : ∀ k, k < 10 → w'.cell? ⟨b, o + k, none⟩ = w.cell? ⟨b, o + k, none⟩) :
    Settled w' b o n rt rb size pending reached since lk after confirmed row :=
  ⟨(hc 0 (by omega)).trans h.s0, (hc 1 (by omega)).trans h.s1, (hc 2 (by omega)).trans h.s2, (hc 3 (by omega)).trans h.s3, (hc 4 (by omega)).trans h.s4, (hc 5 (by omega)).trans h.s5, (hc 6 (by omega)).trans h.s6,
    (hc 7 (by omega)).trans h.s7, (hc 8 (by omega)).trans h.s8, (hc 9 (by omega)).trans h.s9, fun k hk => hO.cell hrt (h.rt0 k hk), fun k hk => hO.cell hrb (h.rb0 k hk)⟩

set_option maxRecDepth 100000 in
set_option maxHeartbeats 800000 in
theorem jend_any {b nb wb n rt1 rt2 rb1 rb2 i xb : Nat} {looks size r0 : Int} {w : World} (now started : Int) (J : JS w b nb wb n rt1 rt2 rb1 rb2 i xb looks size r0)
    (T1 : ∀ k, k < n → w.cell? ⟨rt1, k, none⟩ = some (.bool false)) (T2 : ∀ k, k < n → w.cell? ⟨rt2, k, none⟩ = some (.bool false))
    (R1 : ∀ k, k < n → w.cell? ⟨rb1, k, none⟩ = some (.int .u64 (if k = i then r0 else 0))) (R2 : ∀ k, k < n → w.cell? ⟨rb2, k, none⟩ = some (.int .u64 (if k = i then r0 else 0)))
    (e11 : rt1 ≠ rb1) (e12 : rt1 ≠ rb2) (e21 : rt2 ≠ rb1) (e22 : rt2 ≠ rb2) :
    Calls Yba.prog 7 #[.pointer (some ⟨b, 0, none⟩), .int .i64 i, .int .u64 started, .int .i64 now] w fun e w' => e = .returned (.tuple #[]) ∧
      w'.cell? ⟨b, 3, none⟩ = some (.int .u64 (IntKind.u64.wrap (looks + 1))) ∧ Ended w' b 6 n rt1 rb1 i size started (IntKind.u64.wrap (looks + 1)) r0 now ∧ Ended w' b 16 n rt2 rb2 i size started (IntKind.u64.wrap (looks + 1)) r0 now ∧
      Only (fun k => k = b ∨ k = rb1 ∨ k = rb2) w w' := by
  go_enter Yba.func7, Yba.ntmps7
  go_wp2_with fail
  refine (check_any now J).mono ?_
  rintro e w1 ⟨rfl, JP, O1⟩
  have S1 : SP w1 b 6 n rt1 rb1 i (IntKind.u64.wrap (looks + 1)) now size r0 :=
    ⟨JP.hi, ⟨JP.k0, JP.k1, JP.k2, JP.k3, JP.k4, JP.k5, JP.k6, JP.k7, JP.k8, JP.k9, fun k hk => O1.cell JP.hb3 (T1 k hk), fun k hk => O1.cell JP.hb5 (R1 k hk)⟩, fun k => JP.hf _, JP.hfb1, JP.hb3, JP.hb5, e11⟩
  have B2 : Settled w1 b 16 n rt2 rb2 size true false now (IntKind.u64.wrap (looks + 1)) 0 0 (fun k => if k = i then r0 else 0) :=
    ⟨JP.l0, JP.l1, JP.l2, JP.l3, JP.l4, JP.l5, JP.l6, JP.l7, JP.l8, JP.l9, fun k hk => O1.cell JP.hb4 (T2 k hk), fun k hk => O1.cell JP.hb6 (R2 k hk)⟩
  go_wp2_with fail
  refine (rend_any started S1).mono ?_
  rintro e w2 ⟨rfl, E1, O2, C2⟩
  have S2 : SP w2 b 16 n rt2 rb2 i (IntKind.u64.wrap (looks + 1)) now size r0 :=
    ⟨JP.hi, B2.later O2 (by simp [JP.hb4, e21]) (by simp [JP.hb6, JP.hbb.symm]) (fun k hk => C2 _ rfl (.inr (by simp))),
      fun k => (O2.frozen ⟨b, 16 + k, none⟩ (by simpa using World.block_lt_of_cell? _ _ JP.h3)).trans (JP.hf _), (O2.frozen _ (World.block_lt_of_cell? _ _ JP.lrb)).trans JP.hfb2, JP.hb4, JP.hb6, e22⟩
  go_wp2_with fail
  refine (rend_any started S2).mono ?_
  rintro e w3 ⟨rfl, E2, O3, C3⟩
  go_wp2
  go_end0
  refine ⟨rfl, ?_, ?_, E2, ?_⟩
  · rw [C3 _ rfl (.inl (by simp)), C2 _ rfl (.inl (by simp))]; exact JP.h3
  · exact Settled.later E1 O3 (by simp [JP.hb3, e12]) (by simp [JP.hb5, JP.hbb]) (fun k hk => C3 _ rfl (.inl (by simp; omega)))
  · exact ((O1.weaken (fun k h => .inl h)).trans (O2.weaken (fun k h => h.elim .inl (fun h => .inr (.inl h))))).trans (O3.weaken (fun k h => h.elim .inl (fun h => .inr (.inr h))))
end Go.Proofs.Ybulkbpmg
