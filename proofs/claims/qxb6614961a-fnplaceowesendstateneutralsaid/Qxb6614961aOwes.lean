import Derived.Test.Qxb6614961aRows
import Derived.WalkKit
import Derived.WalkSpells
import Derived.WalkLawsBesides
import Derived.Laws.BitsAllLaws
import Derived.OpenShut
import Derived.Outline
namespace Go.Proofs.Qxb6614961a
open Go.RowKit
set_option linter.unusedVariables false

theorem hidden {p : Prop} (h : p) : Hid p := h

/-- what a place of kind kd must hold when its scope ends -/
def fin (kd : Int) : Int := if kd = 1 then 1 else 2
/-- does a place of kind kd that holds v owe? -/
def ow (kd v : Int) : Bool := bits .andNot .u8 v (fin kd) != 0

theorem owes_any (b : Nat) (kd v : Int) (w : World) (h0 : w.cell? ⟨b, 0, none⟩ = some (.int .i64 kd)) :
    Calls Try.prog 6 #[.pointer (some ⟨b, 0, none⟩), .int .u8 v] w fun e w' => e = .returned (.bool (ow kd v)) ∧ w = w' := by
  by_cases hk : kd = 1
  · subst hk
    go_enter Try.func6, Try.ntmps6
    go_wp2
    go_ret
    exact ⟨rfl, rfl⟩
  · have hk' : (kd == 1) = false := by simpa using hk
    have e : ow kd v = (bits .andNot .u8 v 2 != 0) := by unfold ow fin; rw [if_neg hk]
    rw [e]
    clear e hk
    go_enter Try.func6, Try.ntmps6
    go_wp2
    go_ret
    exact ⟨rfl, rfl⟩

theorem new_any (kd : Int) (w : World) :
    Calls Try.prog 5 #[.int .i64 kd, .int .i64 0, .int .i64 0] w fun e w' => ∃ b, e = .returned (.pointer (some ⟨b, 0, none⟩)) ∧ w'.cell? ⟨b, 0, none⟩ = some (.int .i64 kd) ∧ Grown w w' := by
  go_enter Try.func5, Try.ntmps5
  go_wp2
  go_ret
  exact ⟨_, rfl, by simp, (Grown.refl w).alloc _ _⟩

/-! ### plain laws on bytes -/
/-- the bits that make it owe -/
def msk (kd : Int) : Nat := if kd = 1 then 254 else 253
theorem ow_eq (kd : Int) (n : Nat) (hn : n < 256) : ow kd n = ((n &&& msk kd) != 0) := by
  unfold ow fin msk
  split
  · rw [show ((1 : Int)) = ((1 : Nat) : Int) from rfl, u8_andNot_nat n 1 hn (by omega), Bool.eq_iff_iff]
    simp
  · rw [show ((2 : Int)) = ((2 : Nat) : Int) from rfl, u8_andNot_nat n 2 hn (by omega), Bool.eq_iff_iff]
    simp
theorem or_ne_zero (a b : Nat) : ((a ||| b) != 0) = ((a != 0) || (b != 0)) := by
  rw [Bool.eq_iff_iff]
  simp [Nat.or_eq_zero_iff]
  omega
theorem lor_lt {c d : Nat} (hc : c < 256) (hd : d < 256) : (c ||| d) < 256 := Nat.or_lt_two_pow (n := 8) hc hd
theorem ow_or (kd : Int) (c d : Nat) (hc : c < 256) (hd : d < 256) : ow kd (bits .or .u8 c d) = (ow kd c || ow kd d) := by
  rw [u8_or_nat c d hc hd, ow_eq kd _ (lor_lt hc hd), ow_eq kd _ hc, ow_eq kd _ hd, Nat.and_or_distrib_right, or_ne_zero]
theorem xor1 : ∀ n : Fin 256, ((n.val &&& 254) != 0) = true ∨ (((n.val ^^^ 3) &&& 254) != 0) = true := by decide +kernel
theorem xor2 : ∀ n : Fin 256, ((n.val &&& 253) != 0) = true ∨ (((n.val ^^^ 3) &&& 253) != 0) = true := by decide +kernel
theorem ow_xor (kd : Int) (c : Nat) (hc : c < 256) (h : ow kd c = false) : ow kd (bits .xor .u8 c 3) = true := by
  have e : bits .xor .u8 (c : Int) 3 = ((c ^^^ 3 : Nat) : Int) := u8_xor_nat c 3 hc (by omega)
  have hlt : (c ^^^ 3) < 256 := Nat.xor_lt_two_pow (n := 8) hc (by omega)
  rw [e, ow_eq kd _ hlt]
  rw [ow_eq kd _ hc] at h
  unfold msk at *
  split
  · rename_i hk
    rw [if_pos hk] at h
    rcases xor1 ⟨c, hc⟩ with h' | h'
    · rw [h'] at h; cases h
    · exact h'
  · rename_i hk
    rw [if_neg hk] at h
    rcases xor2 ⟨c, hc⟩ with h' | h'
    · rw [h'] at h; cases h
    · exact h'
theorem ow_three (kd : Int) : ow kd 3 = true := by
  have := ow_eq kd 3 (by omega)
  unfold msk at this
  split at this <;> exact this
theorem ow_zero (kd : Int) : ow kd 0 = false := by
  have := ow_eq kd 0 (by omega)
  unfold msk at this
  split at this <;> exact this

end Go.Proofs.Qxb6614961a
