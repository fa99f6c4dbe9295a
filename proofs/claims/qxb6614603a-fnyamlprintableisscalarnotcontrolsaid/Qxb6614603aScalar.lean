import Derived.Test.Qxb6614603aPr
import Derived.Test.Qxb6614603aEnc
namespace Go.Proofs.Qxb6614603a
open Go.RowKit
set_option linter.unusedVariables false

set_option maxRecDepth 100000 in
set_option maxHeartbeats 1000000 in
theorem law3_9 (w : World) : Calls Try.prog 3 #[.int .i32 9] w fun e w' => e = .returned (.bool true) ∧ w = w' := by
  have hs := enc_ok 9 (by omega) (by omega)
  have hp : Pr 9 := by unfold Pr; omega
  have HP : Hid (Pr 9) := hp
  clear hp
  go_enter Try.func3, Try.ntmps3
  go_wp2_with fail
  refine (zz_any (pr_yes 9 w HP.out)).mono ?_
  rintro e w' ⟨rfl, rfl⟩
  go_wp2
  go_ret
  exact ⟨rfl, rfl⟩
set_option maxRecDepth 100000 in
set_option maxHeartbeats 1000000 in
theorem law3_10 (w : World) : Calls Try.prog 3 #[.int .i32 10] w fun e w' => e = .returned (.bool true) ∧ w = w' := by
  have hs := enc_ok 10 (by omega) (by omega)
  have hp : Pr 10 := by unfold Pr; omega
  have HP : Hid (Pr 10) := hp
  clear hp
  go_enter Try.func3, Try.ntmps3
  go_wp2_with fail
  refine (zz_any (pr_yes 10 w HP.out)).mono ?_
  rintro e w' ⟨rfl, rfl⟩
  go_wp2
  go_ret
  exact ⟨rfl, rfl⟩
set_option maxRecDepth 100000 in
set_option maxHeartbeats 1000000 in
theorem law3_13 (w : World) : Calls Try.prog 3 #[.int .i32 13] w fun e w' => e = .returned (.bool true) ∧ w = w' := by
  have hs := enc_ok 13 (by omega) (by omega)
  have hp : Pr 13 := by unfold Pr; omega
  have HP : Hid (Pr 13) := hp
  clear hp
  go_enter Try.func3, Try.ntmps3
  go_wp2_with fail
  refine (zz_any (pr_yes 13 w HP.out)).mono ?_
  rintro e w' ⟨rfl, rfl⟩
  go_wp2
  go_ret
  exact ⟨rfl, rfl⟩
set_option maxRecDepth 100000 in
set_option maxHeartbeats 1000000 in
theorem law3_133 (w : World) : Calls Try.prog 3 #[.int .i32 133] w fun e w' => e = .returned (.bool true) ∧ w = w' := by
  have hs := enc_ok 133 (by omega) (by omega)
  have hp : Pr 133 := by unfold Pr; omega
  have HP : Hid (Pr 133) := hp
  clear hp
  go_enter Try.func3, Try.ntmps3
  go_wp2_with fail
  refine (zz_any (pr_yes 133 w HP.out)).mono ?_
  rintro e w' ⟨rfl, rfl⟩
  go_wp2
  go_ret
  exact ⟨rfl, rfl⟩
set_option maxRecDepth 100000 in
set_option maxHeartbeats 1000000 in
theorem law3_65533 (w : World) : Calls Try.prog 3 #[.int .i32 65533] w fun e w' => e = .returned (.bool true) ∧ w = w' := by
  have hp : Pr 65533 := by unfold Pr; omega
  have HP : Hid (Pr 65533) := hp
  clear hp
  go_enter Try.func3, Try.ntmps3
  go_wp2_with fail
  refine (zz_any (pr_yes 65533 w HP.out)).mono ?_
  rintro e w' ⟨rfl, rfl⟩
  go_wp2
  go_ret
  exact ⟨rfl, rfl⟩
set_option maxRecDepth 100000 in
set_option maxHeartbeats 1000000 in
theorem law3_65534 (w : World) : Calls Try.prog 3 #[.int .i32 65534] w fun e w' => e = .returned (.bool true) ∧ w = w' := by
  have hs := enc_ok 65534 (by omega) (by omega)
  have hp : ¬ Pr 65534 := by unfold Pr; omega
  have HP : Hid (¬ Pr 65534) := hp
  clear hp
  go_enter Try.func3, Try.ntmps3
  go_wp2_with fail
  refine (zz_any (pr_no 65534 w HP.out)).mono ?_
  rintro e w' ⟨rfl, rfl⟩
  go_wp2
  go_ret
  exact ⟨rfl, rfl⟩
set_option maxRecDepth 100000 in
set_option maxHeartbeats 1000000 in
theorem law3_65535 (w : World) : Calls Try.prog 3 #[.int .i32 65535] w fun e w' => e = .returned (.bool true) ∧ w = w' := by
  have hs := enc_ok 65535 (by omega) (by omega)
  have hp : ¬ Pr 65535 := by unfold Pr; omega
  have HP : Hid (¬ Pr 65535) := hp
  clear hp
  go_enter Try.func3, Try.ntmps3
  go_wp2_with fail
  refine (zz_any (pr_no 65535 w HP.out)).mono ?_
  rintro e w' ⟨rfl, rfl⟩
  go_wp2
  go_ret
  exact ⟨rfl, rfl⟩
set_option maxRecDepth 100000 in
set_option maxHeartbeats 1000000 in
theorem law3_iv0 (r : Int) (w : World) (h : r < 0) : Calls Try.prog 3 #[.int .i32 r] w fun e w' => e = .returned (.bool true) ∧ w = w' := by
  have d0 : decide (0 ≤ r) = false := decide_eq_false (by omega)
  have d1 : decide (r < 32) = true := decide_eq_true (by omega)
  have d2 : decide (127 ≤ r) = false := decide_eq_false (by omega)
  have d3 : decide (r ≤ 159) = true := decide_eq_true (by omega)
  have e9 : (r == 9) = false := by simp; omega
  have e10 : (r == 10) = false := by simp; omega
  have e13 : (r == 13) = false := by simp; omega
  have e133 : (r == 133) = false := by simp; omega
  have e65533 : (r == 65533) = false := by simp; omega
  have e65534 : (r == 65534) = false := by simp; omega
  have e65535 : (r == 65535) = false := by simp; omega
  have hs := enc_bad r (by omega)
  have HP : Hid (¬ Pr r) := by show ¬ Pr r; unfold Pr; omega
  clear h
  go_enter Try.func3, Try.ntmps3
  go_wp2_with fail
  refine (zz_any (pr_no r w HP.out)).mono ?_
  rintro e w' ⟨rfl, rfl⟩
  go_wp2
  go_ret
  exact ⟨rfl, rfl⟩
set_option maxRecDepth 100000 in
set_option maxHeartbeats 1000000 in
theorem law3_iv1 (r : Int) (w : World) (h : 0 ≤ r ∧ r ≤ 8) : Calls Try.prog 3 #[.int .i32 r] w fun e w' => e = .returned (.bool true) ∧ w = w' := by
  have d0 : decide (0 ≤ r) = true := decide_eq_true (by omega)
  have d1 : decide (r < 32) = true := decide_eq_true (by omega)
  have d2 : decide (127 ≤ r) = false := decide_eq_false (by omega)
  have d3 : decide (r ≤ 159) = true := decide_eq_true (by omega)
  have e9 : (r == 9) = false := by simp; omega
  have e10 : (r == 10) = false := by simp; omega
  have e13 : (r == 13) = false := by simp; omega
  have e133 : (r == 133) = false := by simp; omega
  have e65533 : (r == 65533) = false := by simp; omega
  have e65534 : (r == 65534) = false := by simp; omega
  have e65535 : (r == 65535) = false := by simp; omega
  have hs := enc_ok r (by omega) (by omega)
  have HP : Hid (¬ Pr r) := by show ¬ Pr r; unfold Pr; omega
  clear h
  go_enter Try.func3, Try.ntmps3
  go_wp2_with fail
  refine (zz_any (pr_no r w HP.out)).mono ?_
  rintro e w' ⟨rfl, rfl⟩
  go_wp2
  go_ret
  exact ⟨rfl, rfl⟩
set_option maxRecDepth 100000 in
set_option maxHeartbeats 1000000 in
theorem law3_iv2 (r : Int) (w : World) (h : 11 ≤ r ∧ r ≤ 12) : Calls Try.prog 3 #[.int .i32 r] w fun e w' => e = .returned (.bool true) ∧ w = w' := by
  have d0 : decide (0 ≤ r) = true := decide_eq_true (by omega)
  have d1 : decide (r < 32) = true := decide_eq_true (by omega)
  have d2 : decide (127 ≤ r) = false := decide_eq_false (by omega)
  have d3 : decide (r ≤ 159) = true := decide_eq_true (by omega)
  have e9 : (r == 9) = false := by simp; omega
  have e10 : (r == 10) = false := by simp; omega
  have e13 : (r == 13) = false := by simp; omega
  have e133 : (r == 133) = false := by simp; omega
  have e65533 : (r == 65533) = false := by simp; omega
  have e65534 : (r == 65534) = false := by simp; omega
  have e65535 : (r == 65535) = false := by simp; omega
  have hs := enc_ok r (by omega) (by omega)
  have HP : Hid (¬ Pr r) := by show ¬ Pr r; unfold Pr; omega
  clear h
  go_enter Try.func3, Try.ntmps3
  go_wp2_with fail
  refine (zz_any (pr_no r w HP.out)).mono ?_
  rintro e w' ⟨rfl, rfl⟩
  go_wp2
  go_ret
  exact ⟨rfl, rfl⟩
set_option maxRecDepth 100000 in
set_option maxHeartbeats 1000000 in
theorem law3_iv3 (r : Int) (w : World) (h : 14 ≤ r ∧ r ≤ 31) : Calls Try.prog 3 #[.int .i32 r] w fun e w' => e = .returned (.bool true) ∧ w = w' := by
  have d0 : decide (0 ≤ r) = true := decide_eq_true (by omega)
  have d1 : decide (r < 32) = true := decide_eq_true (by omega)
  have d2 : decide (127 ≤ r) = false := decide_eq_false (by omega)
  have d3 : decide (r ≤ 159) = true := decide_eq_true (by omega)
  have e9 : (r == 9) = false := by simp; omega
  have e10 : (r == 10) = false := by simp; omega
  have e13 : (r == 13) = false := by simp; omega
  have e133 : (r == 133) = false := by simp; omega
  have e65533 : (r == 65533) = false := by simp; omega
  have e65534 : (r == 65534) = false := by simp; omega
  have e65535 : (r == 65535) = false := by simp; omega
  have hs := enc_ok r (by omega) (by omega)
  have HP : Hid (¬ Pr r) := by show ¬ Pr r; unfold Pr; omega
  clear h
  go_enter Try.func3, Try.ntmps3
  go_wp2_with fail
  refine (zz_any (pr_no r w HP.out)).mono ?_
  rintro e w' ⟨rfl, rfl⟩
  go_wp2
  go_ret
  exact ⟨rfl, rfl⟩
set_option maxRecDepth 100000 in
set_option maxHeartbeats 1000000 in
theorem law3_iv4 (r : Int) (w : World) (h : 32 ≤ r ∧ r ≤ 126) : Calls Try.prog 3 #[.int .i32 r] w fun e w' => e = .returned (.bool true) ∧ w = w' := by
  have d0 : decide (0 ≤ r) = true := decide_eq_true (by omega)
  have d1 : decide (r < 32) = false := decide_eq_false (by omega)
  have d2 : decide (127 ≤ r) = false := decide_eq_false (by omega)
  have d3 : decide (r ≤ 159) = true := decide_eq_true (by omega)
  have e9 : (r == 9) = false := by simp; omega
  have e10 : (r == 10) = false := by simp; omega
  have e13 : (r == 13) = false := by simp; omega
  have e133 : (r == 133) = false := by simp; omega
  have e65533 : (r == 65533) = false := by simp; omega
  have e65534 : (r == 65534) = false := by simp; omega
  have e65535 : (r == 65535) = false := by simp; omega
  have hs := enc_ok r (by omega) (by omega)
  have HP : Hid (Pr r) := by show Pr r; unfold Pr; omega
  clear h
  go_enter Try.func3, Try.ntmps3
  go_wp2_with fail
  refine (zz_any (pr_yes r w HP.out)).mono ?_
  rintro e w' ⟨rfl, rfl⟩
  go_wp2
  go_ret
  exact ⟨rfl, rfl⟩
set_option maxRecDepth 100000 in
set_option maxHeartbeats 1000000 in
theorem law3_iv5 (r : Int) (w : World) (h : 127 ≤ r ∧ r ≤ 132) : Calls Try.prog 3 #[.int .i32 r] w fun e w' => e = .returned (.bool true) ∧ w = w' := by
  have d0 : decide (0 ≤ r) = true := decide_eq_true (by omega)
  have d1 : decide (r < 32) = false := decide_eq_false (by omega)
  have d2 : decide (127 ≤ r) = true := decide_eq_true (by omega)
  have d3 : decide (r ≤ 159) = true := decide_eq_true (by omega)
  have e9 : (r == 9) = false := by simp; omega
  have e10 : (r == 10) = false := by simp; omega
  have e13 : (r == 13) = false := by simp; omega
  have e133 : (r == 133) = false := by simp; omega
  have e65533 : (r == 65533) = false := by simp; omega
  have e65534 : (r == 65534) = false := by simp; omega
  have e65535 : (r == 65535) = false := by simp; omega
  have hs := enc_ok r (by omega) (by omega)
  have HP : Hid (¬ Pr r) := by show ¬ Pr r; unfold Pr; omega
  clear h
  go_enter Try.func3, Try.ntmps3
  go_wp2_with fail
  refine (zz_any (pr_no r w HP.out)).mono ?_
  rintro e w' ⟨rfl, rfl⟩
  go_wp2
  go_ret
  exact ⟨rfl, rfl⟩
set_option maxRecDepth 100000 in
set_option maxHeartbeats 1000000 in
theorem law3_iv6 (r : Int) (w : World) (h : 134 ≤ r ∧ r ≤ 159) : Calls Try.prog 3 #[.int .i32 r] w fun e w' => e = .returned (.bool true) ∧ w = w' := by
  have d0 : decide (0 ≤ r) = true := decide_eq_true (by omega)
  have d1 : decide (r < 32) = false := decide_eq_false (by omega)
  have d2 : decide (127 ≤ r) = true := decide_eq_true (by omega)
  have d3 : decide (r ≤ 159) = true := decide_eq_true (by omega)
  have e9 : (r == 9) = false := by simp; omega
  have e10 : (r == 10) = false := by simp; omega
  have e13 : (r == 13) = false := by simp; omega
  have e133 : (r == 133) = false := by simp; omega
  have e65533 : (r == 65533) = false := by simp; omega
  have e65534 : (r == 65534) = false := by simp; omega
  have e65535 : (r == 65535) = false := by simp; omega
  have hs := enc_ok r (by omega) (by omega)
  have HP : Hid (¬ Pr r) := by show ¬ Pr r; unfold Pr; omega
  clear h
  go_enter Try.func3, Try.ntmps3
  go_wp2_with fail
  refine (zz_any (pr_no r w HP.out)).mono ?_
  rintro e w' ⟨rfl, rfl⟩
  go_wp2
  go_ret
  exact ⟨rfl, rfl⟩
set_option maxRecDepth 100000 in
set_option maxHeartbeats 1000000 in
theorem law3_iv7 (r : Int) (w : World) (h : 160 ≤ r ∧ r ≤ 55295) : Calls Try.prog 3 #[.int .i32 r] w fun e w' => e = .returned (.bool true) ∧ w = w' := by
  have d0 : decide (0 ≤ r) = true := decide_eq_true (by omega)
  have d1 : decide (r < 32) = false := decide_eq_false (by omega)
  have d2 : decide (127 ≤ r) = true := decide_eq_true (by omega)
  have d3 : decide (r ≤ 159) = false := decide_eq_false (by omega)
  have e9 : (r == 9) = false := by simp; omega
  have e10 : (r == 10) = false := by simp; omega
  have e13 : (r == 13) = false := by simp; omega
  have e133 : (r == 133) = false := by simp; omega
  have e65533 : (r == 65533) = false := by simp; omega
  have e65534 : (r == 65534) = false := by simp; omega
  have e65535 : (r == 65535) = false := by simp; omega
  have hs := enc_ok r (by omega) (by omega)
  have HP : Hid (Pr r) := by show Pr r; unfold Pr; omega
  clear h
  go_enter Try.func3, Try.ntmps3
  go_wp2_with fail
  refine (zz_any (pr_yes r w HP.out)).mono ?_
  rintro e w' ⟨rfl, rfl⟩
  go_wp2
  go_ret
  exact ⟨rfl, rfl⟩
set_option maxRecDepth 100000 in
set_option maxHeartbeats 1000000 in
theorem law3_iv8 (r : Int) (w : World) (h : 55296 ≤ r ∧ r ≤ 57343) : Calls Try.prog 3 #[.int .i32 r] w fun e w' => e = .returned (.bool true) ∧ w = w' := by
  have d0 : decide (0 ≤ r) = true := decide_eq_true (by omega)
  have d1 : decide (r < 32) = false := decide_eq_false (by omega)
  have d2 : decide (127 ≤ r) = true := decide_eq_true (by omega)
  have d3 : decide (r ≤ 159) = false := decide_eq_false (by omega)
  have e9 : (r == 9) = false := by simp; omega
  have e10 : (r == 10) = false := by simp; omega
  have e13 : (r == 13) = false := by simp; omega
  have e133 : (r == 133) = false := by simp; omega
  have e65533 : (r == 65533) = false := by simp; omega
  have e65534 : (r == 65534) = false := by simp; omega
  have e65535 : (r == 65535) = false := by simp; omega
  have hs := enc_bad r (by omega)
  have HP : Hid (¬ Pr r) := by show ¬ Pr r; unfold Pr; omega
  clear h
  go_enter Try.func3, Try.ntmps3
  go_wp2_with fail
  refine (zz_any (pr_no r w HP.out)).mono ?_
  rintro e w' ⟨rfl, rfl⟩
  go_wp2
  go_ret
  exact ⟨rfl, rfl⟩
set_option maxRecDepth 100000 in
set_option maxHeartbeats 1000000 in
theorem law3_iv9 (r : Int) (w : World) (h : 57344 ≤ r ∧ r ≤ 65532) : Calls Try.prog 3 #[.int .i32 r] w fun e w' => e = .returned (.bool true) ∧ w = w' := by
  have d0 : decide (0 ≤ r) = true := decide_eq_true (by omega)
  have d1 : decide (r < 32) = false := decide_eq_false (by omega)
  have d2 : decide (127 ≤ r) = true := decide_eq_true (by omega)
  have d3 : decide (r ≤ 159) = false := decide_eq_false (by omega)
  have e9 : (r == 9) = false := by simp; omega
  have e10 : (r == 10) = false := by simp; omega
  have e13 : (r == 13) = false := by simp; omega
  have e133 : (r == 133) = false := by simp; omega
  have e65533 : (r == 65533) = false := by simp; omega
  have e65534 : (r == 65534) = false := by simp; omega
  have e65535 : (r == 65535) = false := by simp; omega
  have hs := enc_ok r (by omega) (by omega)
  have HP : Hid (Pr r) := by show Pr r; unfold Pr; omega
  clear h
  go_enter Try.func3, Try.ntmps3
  go_wp2_with fail
  refine (zz_any (pr_yes r w HP.out)).mono ?_
  rintro e w' ⟨rfl, rfl⟩
  go_wp2
  go_ret
  exact ⟨rfl, rfl⟩
set_option maxRecDepth 100000 in
set_option maxHeartbeats 1000000 in
theorem law3_iv10 (r : Int) (w : World) (h : 65536 ≤ r ∧ r ≤ 1114111) : Calls Try.prog 3 #[.int .i32 r] w fun e w' => e = .returned (.bool true) ∧ w = w' := by
  have d0 : decide (0 ≤ r) = true := decide_eq_true (by omega)
  have d1 : decide (r < 32) = false := decide_eq_false (by omega)
  have d2 : decide (127 ≤ r) = true := decide_eq_true (by omega)
  have d3 : decide (r ≤ 159) = false := decide_eq_false (by omega)
  have e9 : (r == 9) = false := by simp; omega
  have e10 : (r == 10) = false := by simp; omega
  have e13 : (r == 13) = false := by simp; omega
  have e133 : (r == 133) = false := by simp; omega
  have e65533 : (r == 65533) = false := by simp; omega
  have e65534 : (r == 65534) = false := by simp; omega
  have e65535 : (r == 65535) = false := by simp; omega
  have hs := enc_ok r (by omega) (by omega)
  have HP : Hid (Pr r) := by show Pr r; unfold Pr; omega
  clear h
  go_enter Try.func3, Try.ntmps3
  go_wp2_with fail
  refine (zz_any (pr_yes r w HP.out)).mono ?_
  rintro e w' ⟨rfl, rfl⟩
  go_wp2
  go_ret
  exact ⟨rfl, rfl⟩
set_option maxRecDepth 100000 in
set_option maxHeartbeats 1000000 in
theorem law3_iv11 (r : Int) (w : World) (h : 1114112 ≤ r) : Calls Try.prog 3 #[.int .i32 r] w fun e w' => e = .returned (.bool true) ∧ w = w' := by
  have d0 : decide (0 ≤ r) = true := decide_eq_true (by omega)
  have d1 : decide (r < 32) = false := decide_eq_false (by omega)
  have d2 : decide (127 ≤ r) = true := decide_eq_true (by omega)
  have d3 : decide (r ≤ 159) = false := decide_eq_false (by omega)
  have e9 : (r == 9) = false := by simp; omega
  have e10 : (r == 10) = false := by simp; omega
  have e13 : (r == 13) = false := by simp; omega
  have e133 : (r == 133) = false := by simp; omega
  have e65533 : (r == 65533) = false := by simp; omega
  have e65534 : (r == 65534) = false := by simp; omega
  have e65535 : (r == 65535) = false := by simp; omega
  have hs := enc_bad r (by omega)
  have HP : Hid (¬ Pr r) := by show ¬ Pr r; unfold Pr; omega
  clear h
  go_enter Try.func3, Try.ntmps3
  go_wp2_with fail
  refine (zz_any (pr_no r w HP.out)).mono ?_
  rintro e w' ⟨rfl, rfl⟩
  go_wp2
  go_ret
  exact ⟨rfl, rfl⟩
theorem law3_any (r : Int) (w : World) : Calls Try.prog 3 #[.int .i32 r] w fun e w' => e = .returned (.bool true) ∧ w = w' := by
  rcases (show r = 9 ∨ r = 10 ∨ r = 13 ∨ r = 133 ∨ r = 65533 ∨ r = 65534 ∨ r = 65535 ∨ (r < 0) ∨ (0 ≤ r ∧ r ≤ 8) ∨ (11 ≤ r ∧ r ≤ 12) ∨ (14 ≤ r ∧ r ≤ 31) ∨ (32 ≤ r ∧ r ≤ 126) ∨ (127 ≤ r ∧ r ≤ 132) ∨ (134 ≤ r ∧ r ≤ 159) ∨ (160 ≤ r ∧ r ≤ 55295) ∨ (55296 ≤ r ∧ r ≤ 57343) ∨ (57344 ≤ r ∧ r ≤ 65532) ∨ (65536 ≤ r ∧ r ≤ 1114111) ∨ (1114112 ≤ r) from by omega) with rfl | rfl | rfl | rfl | rfl | rfl | rfl | h | h | h | h | h | h | h | h | h | h | h | h
  · exact law3_9 w
  · exact law3_10 w
  · exact law3_13 w
  · exact law3_133 w
  · exact law3_65533 w
  · exact law3_65534 w
  · exact law3_65535 w
  · exact law3_iv0 r w h
  · exact law3_iv1 r w h
  · exact law3_iv2 r w h
  · exact law3_iv3 r w h
  · exact law3_iv4 r w h
  · exact law3_iv5 r w h
  · exact law3_iv6 r w h
  · exact law3_iv7 r w h
  · exact law3_iv8 r w h
  · exact law3_iv9 r w h
  · exact law3_iv10 r w h
  · exact law3_iv11 r w h

end Go.Proofs.Qxb6614603a
