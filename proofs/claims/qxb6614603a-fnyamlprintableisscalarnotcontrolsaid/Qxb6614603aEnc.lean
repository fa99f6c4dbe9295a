import Derived.Laws.Runes
import Derived.Laws.Strings
import Derived.WalkKit
namespace Go.Proofs.Qxb6614603a

theorem u8_inj {a b : Nat} (ha : a < 256) (hb : b < 256) (h : UInt8.ofNat a = UInt8.ofNat b) : a = b := by
  have := congrArg UInt8.toNat h
  simp at this
  omega

/-- no scalar value: the encoder writes U+FFFD -/
theorem enc_bad (r : Int) (h : r < 0 ∨ (55296 ≤ r ∧ r ≤ 57343) ∨ 1114111 < r) : ((Utf8.encode r).toList == [239, 191, 189]) = true := by
  have hv : Utf8.valid r = false := by rw [validRune_eq]; unfold validRune; simp; omega
  have e : Utf8.encode r = ⟨#[239, 191, 189]⟩ := by
    unfold Utf8.encode
    simp [hv, Utf8.runeError]
  rw [e, ByteArray.toList_eq]
  rfl

/-- a scalar value other than U+FFFD: the encoder writes something else -/
theorem enc_ok (r : Int) (h : (0 ≤ r ∧ r ≤ 55295) ∨ (57344 ≤ r ∧ r ≤ 1114111)) (hne : r ≠ 65533) : ((Utf8.encode r).toList == [239, 191, 189]) = false := by
  have hv : Utf8.valid r = true := by rw [validRune_eq]; unfold validRune; simp; omega
  have key : (Utf8.encode r).toList ≠ [239, 191, 189] := by
    rw [ByteArray.toList_eq]
    unfold Utf8.encode
    simp only [hv, if_true]
    intro e
    split at e
    · simp at e
    · split at e
      · simp at e
      · split at e
        · simp only [List.cons.injEq, and_true] at e
          obtain ⟨e1, e2, e3⟩ := e
          have f1 := u8_inj (b := 239) (by omega) (by omega) e1
          have f2 := u8_inj (b := 191) (by omega) (by omega) e2
          have f3 := u8_inj (b := 189) (by omega) (by omega) e3
          omega
        · simp at e
  simpa using key

end Go.Proofs.Qxb6614603a
