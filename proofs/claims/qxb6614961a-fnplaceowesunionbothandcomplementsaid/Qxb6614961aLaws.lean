import Derived.Test.Qxb6614961aOwes
namespace Go.Proofs.Qxb6614961a
open Go.RowKit
set_option linter.unusedVariables false

theorem owes_of {b : Nat} {kd v : Int} {x : Bool} (h : ow kd v = x) {w : World} (h0 : w.cell? ⟨b, 0, none⟩ = some (.int .i64 kd)) :
    Calls Try.prog 6 #[.pointer (some ⟨b, 0, none⟩), .int .u8 v] w fun e w' => e = .returned (.bool x) ∧ w = w' := by
  subst h; exact owes_any b kd v w h0

theorem union_edge (kd c d : Int) (w : World) (h : kd < 0 ∨ 2 < kd) : Calls Try.prog 3 #[.int .i64 kd, .int .u8 c, .int .u8 d] w fun e w' => e = .returned (.bool true) ∧ Grown w w' := by
  rcases h with h | h
  all_goals
    go_enter Try.func3, Try.ntmps3
    go_wp2
    go_ret
    exact ⟨rfl, Grown.refl _⟩

set_option maxRecDepth 100000 in
set_option maxHeartbeats 2000000 in
theorem union_main (x y : Bool) (kd : Int) (c d : Nat) (w : World) (hk0 : 0 ≤ kd) (hk2 : kd ≤ 2) (hc : c < 256) (hd : d < 256) (hx : ow kd c = x) (hy : ow kd d = y) :
    Calls Try.prog 3 #[.int .i64 kd, .int .u8 c, .int .u8 d] w fun e w' => e = .returned (.bool true) ∧ Grown w w' := by
  have h1 : ow kd (bits .or .u8 c d) = (x || y) := by rw [ow_or kd c d hc hd, hx, hy]
  have h2 : ow kd (bits .or .u8 c 3) = true := by
    have := ow_or kd c 3 hc (by omega)
    rw [show ow kd ((3 : Nat) : Int) = true from ow_three kd] at this
    simpa using this
  have h3 : x = false → ow kd (bits .xor .u8 c 3) = true := fun e => ow_xor kd c hc (hx.trans e)
  have H1 := hidden h1
  have H2 := hidden h2
  have H3 := hidden h3
  have HX := hidden hx
  have HY := hidden hy
  clear h1 h2 h3 hx hy
  cases x
  · go_enter Try.func3, Try.ntmps3
    go_wp2_with fail
    refine (new_any kd _).mono ?_
    rintro e w1 ⟨b, rfl, hb, g1⟩
    go_wp2_with fail
    refine (owes_of H1.out hb).mono ?_
    rintro e w' ⟨rfl, rfl⟩
    go_wp2_with fail
    refine (owes_of HX.out hb).mono ?_
    rintro e w' ⟨rfl, rfl⟩
    go_wp2_with fail
    refine (owes_of HY.out hb).mono ?_
    rintro e w' ⟨rfl, rfl⟩
    go_wp2_with fail
    refine (owes_of H2.out hb).mono ?_
    rintro e w' ⟨rfl, rfl⟩
    go_wp2_with fail
    refine (owes_of HX.out hb).mono ?_
    rintro e w' ⟨rfl, rfl⟩
    go_wp2_with fail
    refine (owes_of (H3.out (by first | rfl | trivial)) hb).mono ?_
    rintro e w' ⟨rfl, rfl⟩
    go_wp2_with fail
    refine (owes_of (ow_zero kd) hb).mono ?_
    rintro e w' ⟨rfl, rfl⟩
    go_wp2
    go_ret
    exact ⟨rfl, g1⟩
  · go_enter Try.func3, Try.ntmps3
    go_wp2_with fail
    refine (new_any kd _).mono ?_
    rintro e w1 ⟨b, rfl, hb, g1⟩
    go_wp2_with fail
    refine (owes_of H1.out hb).mono ?_
    rintro e w' ⟨rfl, rfl⟩
    go_wp2_with fail
    refine (owes_of HX.out hb).mono ?_
    rintro e w' ⟨rfl, rfl⟩
    go_wp2_with fail
    refine (owes_of H2.out hb).mono ?_
    rintro e w' ⟨rfl, rfl⟩
    go_wp2_with fail
    refine (owes_of HX.out hb).mono ?_
    rintro e w' ⟨rfl, rfl⟩
    go_wp2_with fail
    refine (owes_of (ow_zero kd) hb).mono ?_
    rintro e w' ⟨rfl, rfl⟩
    go_wp2
    go_ret
    exact ⟨rfl, g1⟩

theorem neutral_edge (kd c : Int) (w : World) (h : kd < 0 ∨ 2 < kd) : Calls Try.prog 4 #[.int .i64 kd, .int .u8 c] w fun e w' => e = .returned (.bool true) ∧ Grown w w' := by
  rcases h with h | h
  all_goals
    go_enter Try.func4, Try.ntmps4
    go_wp2
    go_ret
    exact ⟨rfl, Grown.refl _⟩

theorem ow_fin (kd : Int) : ow kd (fin kd) = false := by
  unfold fin
  split
  · have := ow_eq kd 1 (by omega)
    unfold msk at this
    rw [if_pos (by assumption)] at this
    exact this
  · have := ow_eq kd 2 (by omega)
    unfold msk at this
    rw [if_neg (by assumption)] at this
    exact this

theorem n1 (kd : Int) (c : Nat) (hc : c < 256) : ow kd (bits .or .u8 c (fin kd)) = ow kd c := by
  have h4 := ow_fin kd
  unfold fin at *
  split
  · rename_i hk
    rw [if_pos hk] at h4
    have := ow_or kd c 1 hc (by omega)
    rw [show ow kd ((1 : Nat) : Int) = false from h4, Bool.or_false] at this
    exact this
  · rename_i hk
    rw [if_neg hk] at h4
    have := ow_or kd c 2 hc (by omega)
    rw [show ow kd ((2 : Nat) : Int) = false from h4, Bool.or_false] at this
    exact this
theorem n2 (kd : Int) (c : Nat) (hc : c < 256) : ow kd (bits .andNot .u8 c (fin kd)) = ow kd c := by
  have e : bits .andNot .u8 (c : Int) (fin kd) = ((c &&& msk kd : Nat) : Int) := by
    unfold fin msk
    split
    · exact u8_andNot_nat c 1 hc (by omega)
    · exact u8_andNot_nat c 2 hc (by omega)
  have hlt : (c &&& msk kd) < 256 := Nat.lt_of_le_of_lt Nat.and_le_left hc
  rw [e, ow_eq kd _ hlt, ow_eq kd _ hc, Nat.and_assoc, Nat.and_self]
theorem n3 (kd : Int) (c : Nat) (hc : c < 256) : ow kd (bits .or .u8 c (bits .andNot .u8 3 (fin kd))) = true := by
  unfold fin
  split
  · rename_i hk
    subst hk
    have e : bits .andNot .u8 (3 : Int) 1 = ((2 : Nat) : Int) := u8_andNot_nat 3 1 (by omega) (by omega)
    have h := ow_or 1 c 2 hc (by omega)
    rw [show ow 1 ((2 : Nat) : Int) = true from ow_eq 1 2 (by omega), Bool.or_true] at h
    rw [e]; exact h
  · rename_i hk
    have e : bits .andNot .u8 (3 : Int) 2 = ((1 : Nat) : Int) := u8_andNot_nat 3 2 (by omega) (by omega)
    have h := ow_or kd c 1 hc (by omega)
    have h1 : ow kd ((1 : Nat) : Int) = true := by
      have := ow_eq kd 1 (by omega)
      unfold msk at this
      rw [if_neg hk] at this
      exact this
    rw [h1, Bool.or_true] at h
    rw [e]; exact h

set_option maxRecDepth 100000 in
set_option maxHeartbeats 2000000 in
theorem neutral_main (x : Bool) (kd : Int) (c : Nat) (w : World) (hk0 : 0 ≤ kd) (hk2 : kd ≤ 2) (hc : c < 256) (hx : ow kd c = x) :
    Calls Try.prog 4 #[.int .i64 kd, .int .u8 c] w fun e w' => e = .returned (.bool true) ∧ Grown w w' := by
  have N1 := hidden ((n1 kd c hc).trans hx)
  have N2 := hidden ((n2 kd c hc).trans hx)
  have N3 := hidden (n3 kd c hc)
  have N4 := hidden (ow_fin kd)
  have HX := hidden hx
  clear hx
  by_cases hk : kd = 1
  · subst hk
    replace N1 : Hid (ow 1 (bits .or .u8 c 1) = x) := N1
    replace N2 : Hid (ow 1 (bits .andNot .u8 c 1) = x) := N2
    replace N3 : Hid (ow 1 (bits .or .u8 c (bits .andNot .u8 3 1)) = true) := N3
    replace N4 : Hid (ow 1 1 = false) := N4
    go_enter Try.func4, Try.ntmps4
    go_wp2_with fail
    refine (new_any _ _).mono ?_
    rintro e w1 ⟨b, rfl, hb, g1⟩
    go_wp2_with fail
    refine (owes_of N1.out hb).mono ?_
    rintro e w' ⟨rfl, rfl⟩
    go_wp2_with fail
    refine (owes_of HX.out hb).mono ?_
    rintro e w' ⟨rfl, rfl⟩
    go_wp2_with fail
    refine (owes_of N2.out hb).mono ?_
    rintro e w' ⟨rfl, rfl⟩
    go_wp2_with fail
    refine (owes_of HX.out hb).mono ?_
    rintro e w' ⟨rfl, rfl⟩
    go_wp2_with fail
    refine (owes_of N3.out hb).mono ?_
    rintro e w' ⟨rfl, rfl⟩
    go_wp2_with fail
    refine (owes_of N4.out hb).mono ?_
    rintro e w' ⟨rfl, rfl⟩
    go_wp2
    go_ret
    exact ⟨rfl, g1⟩
  · have ef : fin kd = 2 := by unfold fin; rw [if_neg hk]
    rw [ef] at N1 N2 N3 N4
    have hk' : (kd == 1) = false := by simpa using hk
    clear ef hk
    go_enter Try.func4, Try.ntmps4
    go_wp2_with fail
    refine (new_any _ _).mono ?_
    rintro e w1 ⟨b, rfl, hb, g1⟩
    go_wp2_with fail
    refine (owes_of N1.out hb).mono ?_
    rintro e w' ⟨rfl, rfl⟩
    go_wp2_with fail
    refine (owes_of HX.out hb).mono ?_
    rintro e w' ⟨rfl, rfl⟩
    go_wp2_with fail
    refine (owes_of N2.out hb).mono ?_
    rintro e w' ⟨rfl, rfl⟩
    go_wp2_with fail
    refine (owes_of HX.out hb).mono ?_
    rintro e w' ⟨rfl, rfl⟩
    go_wp2_with fail
    refine (owes_of N3.out hb).mono ?_
    rintro e w' ⟨rfl, rfl⟩
    go_wp2_with fail
    refine (owes_of N4.out hb).mono ?_
    rintro e w' ⟨rfl, rfl⟩
    go_wp2
    go_ret
    exact ⟨rfl, g1⟩

end Go.Proofs.Qxb6614961a
