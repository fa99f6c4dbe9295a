import Derived.Test.Qxb6614603aRows
import Derived.WalkKit
import Derived.WalkSpells
import Derived.WalkLawsBesides
import Derived.OpenShut
import Derived.Outline
namespace Go.Proofs.Qxb6614603a
open Go.RowKit
set_option linter.unusedVariables false

/-- the runes that YAML allows -/
def Pr (r : Int) : Prop := r = 9 ∨ r = 10 ∨ r = 13 ∨ (32 ≤ r ∧ r ≤ 126) ∨ r = 133 ∨ (160 ≤ r ∧ r ≤ 55295) ∨ (57344 ≤ r ∧ r ≤ 65533) ∨ (65536 ≤ r ∧ r ≤ 1114111)

set_option maxHeartbeats 1000000 in
theorem pr_yes (r : Int) (w : World) (h : Pr r) : Calls Try.prog 7 #[.int .i32 r] w fun e w' => e = .returned (.bool true) ∧ w = w' := by
  unfold Pr at h
  rcases h with rfl | rfl | rfl | ⟨h1, h2⟩ | rfl | ⟨h1, h2⟩ | ⟨h1, h2⟩ | ⟨h1, h2⟩
  all_goals
    go_enter Try.func7, Try.ntmps7
    go_wp2
    go_ret
    exact ⟨rfl, rfl⟩

set_option maxHeartbeats 1000000 in
theorem pr_no (r : Int) (w : World) (h : ¬ Pr r) : Calls Try.prog 7 #[.int .i32 r] w fun e w' => e = .returned (.bool false) ∧ w = w' := by
  unfold Pr at h
  rcases (show r < 9 ∨ (11 ≤ r ∧ r ≤ 12) ∨ (14 ≤ r ∧ r ≤ 31) ∨ (127 ≤ r ∧ r ≤ 132) ∨ (134 ≤ r ∧ r ≤ 159) ∨ (55296 ≤ r ∧ r ≤ 57343) ∨ (65534 ≤ r ∧ r ≤ 65535) ∨ 1114112 ≤ r from by omega) with h1 | ⟨h1, h2⟩ | ⟨h1, h2⟩ | ⟨h1, h2⟩ | ⟨h1, h2⟩ | ⟨h1, h2⟩ | ⟨h1, h2⟩ | h1
  all_goals
    have e9 : (r == 9) = false := by simp; omega
    have e10 : (r == 10) = false := by simp; omega
    have e13 : (r == 13) = false := by simp; omega
    have e133 : (r == 133) = false := by simp; omega
    try (have := decide_eq_false (show ¬ 32 ≤ r by omega))
    try (have := decide_eq_false (show ¬ r ≤ 126 by omega))
    try (have := decide_eq_false (show ¬ 160 ≤ r by omega))
    try (have := decide_eq_false (show ¬ r ≤ 55295 by omega))
    try (have := decide_eq_false (show ¬ 57344 ≤ r by omega))
    try (have := decide_eq_false (show ¬ r ≤ 65533 by omega))
    try (have := decide_eq_false (show ¬ 65536 ≤ r by omega))
    try (have := decide_eq_false (show ¬ r ≤ 1114111 by omega))
    clear h
    go_enter Try.func7, Try.ntmps7
    go_wp2
    go_ret
    exact ⟨rfl, rfl⟩

theorem zz_any {r : Int} {w : World} {x : Bool} (h : Calls Try.prog 7 #[.int .i32 r] w fun e w' => e = .returned (.bool x) ∧ w = w') : Calls Try.prog 5 #[.int .i32 r] w fun e w' => e = .returned (.bool x) ∧ w = w' := by
  go_enter Try.func5, Try.ntmps5
  go_wp2_with (go_at_call 7; refine h.mono ?_; rintro e w' ⟨rfl, rfl⟩)
  go_ret
  exact ⟨rfl, rfl⟩

end Go.Proofs.Qxb6614603a
