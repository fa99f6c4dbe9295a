import Derived.Test.Qxb6614603aPr
namespace Go.Proofs.Qxb6614603a
open Go.RowKit
set_option linter.unusedVariables false

def Up (r : Int) : Prop := r = 9 ∨ r = 13 ∨ r = 32 ∨ r = 133 ∨ r = 160 ∨ r = 57344 ∨ r = 65536
def Dn (r : Int) : Prop := r = 11 ∨ r = 14 ∨ r = 127 ∨ r = 134 ∨ r = 55296 ∨ r = 65534 ∨ r = 1114112

set_option maxHeartbeats 1000000 in
theorem edge_up (r : Int) (w : World) (h : Up r) : Calls Try.prog 6 #[.int .i32 r] w fun e w' => e = .returned (.tuple #[.bool true, .bool true]) ∧ w = w' := by
  unfold Up at h
  rcases h with rfl | rfl | rfl | rfl | rfl | rfl | rfl
  all_goals
    go_enter Try.func6, Try.ntmps6
    go_wp2
    go_ret2
    exact ⟨rfl, rfl⟩
set_option maxHeartbeats 1000000 in
theorem edge_dn (r : Int) (w : World) (h : Dn r) : Calls Try.prog 6 #[.int .i32 r] w fun e w' => e = .returned (.tuple #[.bool false, .bool true]) ∧ w = w' := by
  unfold Dn at h
  rcases h with rfl | rfl | rfl | rfl | rfl | rfl | rfl
  all_goals
    go_enter Try.func6, Try.ntmps6
    go_wp2
    go_ret2
    exact ⟨rfl, rfl⟩
set_option maxHeartbeats 1000000 in
theorem edge_no (r : Int) (w : World) (h1 : ¬ Up r) (h2 : ¬ Dn r) : Calls Try.prog 6 #[.int .i32 r] w fun e w' => e = .returned (.tuple #[.bool false, .bool false]) ∧ w = w' := by
  unfold Up at h1
  unfold Dn at h2
  have e9 : (r == 9) = false := by simp; omega
  have e13 : (r == 13) = false := by simp; omega
  have e32 : (r == 32) = false := by simp; omega
  have e133 : (r == 133) = false := by simp; omega
  have e160 : (r == 160) = false := by simp; omega
  have e57344 : (r == 57344) = false := by simp; omega
  have e65536 : (r == 65536) = false := by simp; omega
  have e11 : (r == 11) = false := by simp; omega
  have e14 : (r == 14) = false := by simp; omega
  have e127 : (r == 127) = false := by simp; omega
  have e134 : (r == 134) = false := by simp; omega
  have e55296 : (r == 55296) = false := by simp; omega
  have e65534 : (r == 65534) = false := by simp; omega
  have e1114112 : (r == 1114112) = false := by simp; omega
  clear h1 h2
  go_enter Try.func6, Try.ntmps6
  go_wp2
  go_ret2
  exact ⟨rfl, rfl⟩

theorem up_pr {r : Int} (h : Up r) : Pr r ∧ ¬ Pr (r - 1) := by unfold Up at h; unfold Pr; omega
theorem dn_pr {r : Int} (h : Dn r) : ¬ Pr r ∧ Pr (r - 1) := by unfold Dn at h; unfold Pr; omega
theorem no_pr {r : Int} (h1 : ¬ Up r) (h2 : ¬ Dn r) : Pr r ↔ Pr (r - 1) := by unfold Up at h1; unfold Dn at h2; unfold Pr; omega

theorem law4_least (w : World) : Calls Try.prog 4 #[.int .i32 (-2147483648)] w fun e w' => e = .returned (.bool true) ∧ w = w' := by
  go_enter Try.func4, Try.ntmps4
  go_wp2
  go_ret
  exact ⟨rfl, rfl⟩

theorem hidden {p : Prop} (h : p) : Hid p := h

theorem law4_of (r : Int) (w : World) (x y o e' : Bool) (hlo : -2147483647 ≤ r) (hhi : r ≤ 2147483647)
    (h1 : ∀ w, Calls Try.prog 5 #[.int .i32 r] w fun e w' => e = .returned (.bool x) ∧ w = w') (h2 : ∀ w, Calls Try.prog 5 #[.int .i32 (r - 1)] w fun e w' => e = .returned (.bool y) ∧ w = w')
    (h3 : ∀ w, Calls Try.prog 6 #[.int .i32 r] w fun e w' => e = .returned (.tuple #[.bool o, .bool e']) ∧ w = w') (hok : (e' = false ∧ x = y) ∨ (e' = true ∧ x = o ∧ y = !o)) :
    Calls Try.prog 4 #[.int .i32 r] w fun e w' => e = .returned (.bool true) ∧ w = w' := by
  have hne : (r == -2147483648) = false := by simp; omega
  have H1 := hidden h1
  have H2 := hidden h2
  have H3 := hidden h3
  clear h1 h2 h3
  cases e' <;> cases x <;> cases y <;> cases o <;> simp at hok
  all_goals
    go_enter Try.func4, Try.ntmps4
    go_wp2_with fail
    refine (H1.out _).mono ?_
    rintro e w' ⟨rfl, rfl⟩
    go_wp2_with fail
    refine (H2.out _).mono ?_
    rintro e w' ⟨rfl, rfl⟩
    go_wp2_with fail
    refine (H3.out _).mono ?_
    rintro e w' ⟨rfl, rfl⟩
    go_wp2
    go_ret
    exact ⟨rfl, rfl⟩

theorem law4_any (r : Int) (w : World) (hlo : -2147483648 ≤ r) (hhi : r ≤ 2147483647) : Calls Try.prog 4 #[.int .i32 r] w fun e w' => e = .returned (.bool true) ∧ w = w' := by
  by_cases h0 : r = -2147483648
  · subst h0; exact law4_least w
  by_cases h1 : Up r
  · obtain ⟨p1, p2⟩ := up_pr h1
    exact law4_of r w true false true true (by omega) hhi (fun w => zz_any (pr_yes _ _ p1)) (fun w => zz_any (pr_no _ _ p2)) (fun w => edge_up _ _ h1) (.inr ⟨rfl, rfl, rfl⟩)
  by_cases h2 : Dn r
  · obtain ⟨p1, p2⟩ := dn_pr h2
    exact law4_of r w false true false true (by omega) hhi (fun w => zz_any (pr_no _ _ p1)) (fun w => zz_any (pr_yes _ _ p2)) (fun w => edge_dn _ _ h2) (.inr ⟨rfl, rfl, rfl⟩)
  have hiff := no_pr h1 h2
  by_cases h3 : Pr r
  · exact law4_of r w true true false false (by omega) hhi (fun w => zz_any (pr_yes _ _ h3)) (fun w => zz_any (pr_yes _ _ (hiff.1 h3))) (fun w => edge_no _ _ h1 h2) (.inl ⟨rfl, rfl⟩)
  · exact law4_of r w false false false false (by omega) hhi (fun w => zz_any (pr_no _ _ h3)) (fun w => zz_any (pr_no _ _ (fun e => h3 (hiff.2 e)))) (fun w => edge_no _ _ h1 h2) (.inl ⟨rfl, rfl⟩)

end Go.Proofs.Qxb6614603a
