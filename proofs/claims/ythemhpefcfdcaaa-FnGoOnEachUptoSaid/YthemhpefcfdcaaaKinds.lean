/- laws.isOpened. -/
import Derived.Test.YthemhpefcfdcaaaLate
namespace Go.Proofs.Ythemhpefcfdcaaa
open Go.RowKit
set_option linter.unusedVariables false

theorem opened_yes (w : World) (kind : Int) (h1 : 0 ≤ kind) (h2 : kind ≤ 3) : Calls Try.prog 30 #[.int .i64 kind] w fun e w' => e = .returned (.bool true) ∧ w = w' := by
  go_enter Try.func30, Try.ntmps30
  go_wp2
  go_ret
  exact ⟨rfl, rfl⟩
theorem opened_no (w : World) (kind : Int) (h : ¬ (0 ≤ kind ∧ kind ≤ 3)) : Calls Try.prog 30 #[.int .i64 kind] w fun e w' => e = .returned (.bool false) ∧ w = w' := by
  by_cases h1 : 0 ≤ kind
  · have h2 : decide (kind ≤ 3) = false := by simp; omega
    clear h
    go_enter Try.func30, Try.ntmps30
    go_wp2
    go_ret
    exact ⟨rfl, rfl⟩
  · have h2 : kind < 0 := by omega
    clear h h1
    go_enter Try.func30, Try.ntmps30
    go_wp2
    go_ret
    exact ⟨rfl, rfl⟩

end Go.Proofs.Ythemhpefcfdcaaa
