/-
  YbulkbpmgKeys: rows of bytes.
-/
import Derived.Test.YbulkbpmgNd
namespace Go.Proofs.Ybulkbpmg
open Go.RowKit Go.MuLone
set_option linter.unusedVariables false
set_option linter.unusedSimpArgs false

/-- The cells of a row of bytes. -/
def bys (ks : List Int) : List Value := ks.map (.int .u8)
theorem bys_len (ks : List Int) : (bys ks).length = ks.length * 1 := by simp [bys]
theorem bys_snoc (ks : List Int) (k : Int) : bys (ks ++ [k]) = bys ks ++ [.int .u8 k] := by simp [bys]
theorem bys_get {ks : List Int} {i : Nat} {k : Int} (h : ks[i]? = some k) : (bys ks)[i]? = some (.int .u8 k) := by simp [bys, h]
theorem bys_one (ks : List Int) : ∀ v ∈ bys ks, v.oneCell' = true := by
  intro v hv
  obtain ⟨k, _, rfl⟩ := List.mem_map.1 hv
  rfl

/-- What the argument 'succKs' holds. -/
def Src (w : World) (a : Option Addr) (ks : List Int) : Prop := (a = none ∧ ks = []) ∨ ∃ ad, a = some ad ∧ ∀ j u, (bys ks)[j]? = some u → w.cell? (ad.add j) = some u

/-- 'append' of the argument's elements onto a row with room for them. -/
theorem wpList_append_src (w : World) {ops : Array Oper} {rest : List Oper} {o : Oper} {a : Act} {Q : Exit → Act → World → Prop}
    (hg : o.guard = none) (s x : Operand) (hop : o.op = Op.call { callee := Callee.builtin Builtin.append, args := #[s, x], argTypes := #[81, 81] })
    (b cap : Nat) (hs : a.eval s = .slice (some ⟨b, 0, none⟩) 0 cap) (hr : Row w b 0 0 cap 1 [])
    (ad : Addr) (m c : Nat) (ks : List Int) (hx : a.eval x = .slice (some ad) m c) (hm : ks.length = m) (hc : ∀ j u, (bys ks)[j]? = some u → w.cell? (ad.add j) = some u) (hcap : m ≤ cap) (hsm : m ≤ 2000)
    (hK : ∀ w', Row w' b 0 m cap 1 (bys ks) → Only (fun k => k = b) w w' → wpList Yba.prog ops Q rest (a.put o.dst (.slice (some ⟨b, 0, none⟩) m cap)) w') :
    wpList Yba.prog ops Q (o :: rest) a w := by
  obtain ⟨i, hi, hi'⟩ := Option.map_eq_some_iff.1 info5
  simp only [Prod.mk.injEq] at hi'
  refine wpList_append_arg w hg s x 81 hop 5 i _ 1 1 Yba.underlying81 hi hi'.1 hi'.2.1 hi'.2.2 rfl (by decide) b 0 0 cap [] hs rfl (fun j u h => by simp at h) ad m c (bys ks) hx (by rw [bys_len, hm]) hc (bys_one ks) ?_ (by unfold maxLen; omega) (by omega) ?_ (fun h => by omega)
  · intro hroom j hj
    have := hr.there j (by rw [bys_len, hm] at hj; omega)
    simpa using this
  · intro hroom
    have h2 := row_setCells hr m (show (bys ks).length = m * 1 by rw [bys_len, hm]) (bys_one ks) (by omega)
    simp only [Nat.zero_add, List.nil_append, Nat.zero_mul] at h2 ⊢
    exact hK _ h2 (Only.setCells (p := fun k => k = b) rfl _ _ (Only.refl _ _))
end Go.Proofs.Ybulkbpmg
