/-
  YbulkbpmgOpn: zzs3308bopen.
-/
import Derived.Test.YbulkbpmgSaw
namespace Go.Proofs.Ybulkbpmg
open Go.RowKit
set_option linter.unusedVariables false
set_option linter.unusedSimpArgs false
/-- x in the open ring interval (a, b). -/
def opn (x a b : Int) : Bool := if a < b then decide (a < x) && decide (x < b) else if b < a then decide (a < x) || decide (x < b) else !(x == a)
theorem open_walk (x a b : Int) (w : World) :
    Calls Yba.prog 14 #[.int .u8 x, .int .u8 a, .int .u8 b] w fun e w' => e = .returned (.bool (opn x a b)) ∧ w' = w := by
  by_cases h1 : a < b
  · have e : opn x a b = (decide (a < x) && decide (x < b)) := by rw [opn, if_pos h1]
    rw [e]
    clear e
    by_cases h2 : a < x <;> by_cases h3 : x < b <;>
    · go_enter Yba.func14, Yba.ntmps14
      go_wp2
      go_ret
      exact ⟨by simp [h2, h3], rfl⟩
  · by_cases h4 : b < a
    · have e : opn x a b = (decide (a < x) || decide (x < b)) := by rw [opn, if_neg h1, if_pos h4]
      rw [e]
      clear e
      by_cases h2 : a < x <;> by_cases h3 : x < b <;>
      · go_enter Yba.func14, Yba.ntmps14
        go_wp2
        go_ret
        exact ⟨by simp [h2, h3], rfl⟩
    · have e : opn x a b = (x != a) := by rw [opn, if_neg h1, if_neg h4]; rfl
      rw [e]
      clear e
      go_enter Yba.func14, Yba.ntmps14
      go_wp2
      go_ret
      exact ⟨rfl, rfl⟩
end Go.Proofs.Ybulkbpmg
