import Derived.Test.Qxb6614494aLawCT
import Derived.Test.Qxb6614494aLawCF
namespace Go.Proofs.Qxb6614494a
open Go.RowKit Go.Maps
set_option linter.unusedVariables false

def PN (p : Int) (n : Nat) : Prop := p < 1 ∨ 1073741824 < p ∨ ¬ (n : Int) = (p + 511) / 512

set_option maxRecDepth 100000 in
set_option maxHeartbeats 1000000 in
theorem law5_edge (a0 a1 : Int) (a : Option Addr) (n cap : Nat) (a3 : Int) (b : Option Addr) (n2 cap2 : Nat) (w : World) (h : 4096 < n ∨ 4096 < n2 ∨ a0 < 1 ∨ PN a1 n ∨ PN a3 n2) :
    Calls Try.prog 5 #[.int .i64 a0, .int .i64 a1, .slice a n cap, .int .i64 a3, .slice b n2 cap2] w fun e w' => e = .returned (.bool true) ∧ Below w.heap.size w w' := by
  have key : Calls Try.prog 5 #[.int .i64 a0, .int .i64 a1, .slice a n cap, .int .i64 a3, .slice b n2 cap2] w fun e w' => e = .returned (.bool true) ∧ w = w' := by
    by_cases h1 : 1048576 < n + n2
    · clear h
      go_enter Try.func5, Try.ntmps5
      go_wp2_with fail
      refine (bytes5_no _ _ _ _ _ _ _ _ _ h1 _).mono ?_
      rintro e w' ⟨rfl, hw'⟩
      obtain rfl := hw'.symm
      go_wp2
      go_ret
      exact ⟨rfl, rfl⟩
    by_cases h2 : 4096 < n
    · clear h
      go_enter Try.func5, Try.ntmps5
      go_wp2_with fail
      refine (bytes5_yes _ _ _ _ _ _ _ _ _ (by omega) (by omega) (by omega) _).mono ?_
      rintro e w' ⟨rfl, hw'⟩
      obtain rfl := hw'.symm
      go_wp2
      go_ret
      exact ⟨rfl, rfl⟩
    by_cases h3 : 4096 < n2
    · clear h
      go_enter Try.func5, Try.ntmps5
      go_wp2_with fail
      refine (bytes5_yes _ _ _ _ _ _ _ _ _ (by omega) (by omega) (by omega) _).mono ?_
      rintro e w' ⟨rfl, hw'⟩
      obtain rfl := hw'.symm
      go_wp2
      go_ret
      exact ⟨rfl, rfl⟩
    by_cases h4 : a0 < 1
    · clear h
      go_enter Try.func5, Try.ntmps5
      go_wp2_with fail
      refine (bytes5_yes _ _ _ _ _ _ _ _ _ (by omega) (by omega) (by omega) _).mono ?_
      rintro e w' ⟨rfl, hw'⟩
      obtain rfl := hw'.symm
      go_wp2
      go_ret
      exact ⟨rfl, rfl⟩
    by_cases h5 : PN a1 n
    · clear h
      have H5 := hidden h5
      clear h5
      go_enter Try.func5, Try.ntmps5
      go_wp2_with fail
      refine (bytes5_yes _ _ _ _ _ _ _ _ _ (by omega) (by omega) (by omega) _).mono ?_
      rintro e w' ⟨rfl, hw'⟩
      obtain rfl := hw'.symm
      go_wp2_with fail
      refine (prompt_no _ _ _ _ _ H5.out).mono ?_
      rintro e w' ⟨rfl, hw'⟩
      obtain rfl := hw'.symm
      go_wp2
      go_ret
      exact ⟨rfl, rfl⟩
    · have H6 : Hid (PN a3 n2) := by
        rcases h with h | h | h | h | h
        · omega
        · omega
        · omega
        · exact absurd h h5
        · exact h
      have H5 := hidden h5
      clear h5 h
      go_enter Try.func5, Try.ntmps5
      go_wp2_with fail
      refine (bytes5_yes _ _ _ _ _ _ _ _ _ (by omega) (by omega) (by omega) _).mono ?_
      rintro e w' ⟨rfl, hw'⟩
      obtain rfl := hw'.symm
      go_wp2_with fail
      refine (prompt_yes _ _ _ _ _ (by have := H5.out; unfold PN at this; omega) (by have := H5.out; unfold PN at this; omega) (by have := H5.out; unfold PN at this; omega)).mono ?_
      rintro e w' ⟨rfl, hw'⟩
      obtain rfl := hw'.symm
      go_wp2_with fail
      refine (prompt_no _ _ _ _ _ H6.out).mono ?_
      rintro e w' ⟨rfl, hw'⟩
      obtain rfl := hw'.symm
      go_wp2
      go_ret
      exact ⟨rfl, rfl⟩
  exact key.mono fun e w' ⟨he, hw⟩ => ⟨he, by rw [← hw]; exact Below.refl _ _⟩

theorem law5_main (kv p1 : Int) (b1 off1 n1 cap1 : Nat) (f1 : Nat → Int) (p2 : Int) (b2 off2 n2 cap2 : Nat) (f2 : Nat → Int) (w : World) (h0 : 1 ≤ kv ∧ kv ≤ 9223372036854775807)
    (hn1' : n1 ≤ 4096) (hn2' : n2 ≤ 4096) (hp1 : ¬ PN p1 n1) (hp2 : ¬ PN p2 n2) (hb1 : b1 < w.heap.size) (hb2 : b2 < w.heap.size)
    (hc1 : ∀ k, k < n1 → w.cell? ⟨b1, off1 + k, none⟩ = some (.int .u64 (f1 k))) (hc2 : ∀ k, k < n2 → w.cell? ⟨b2, off2 + k, none⟩ = some (.int .u64 (f2 k)))
    (hwf1 : ∀ i, i < n1 → (Lit.int .u64 (f1 i)).wf = true) (hwf2 : ∀ i, i < n2 → (Lit.int .u64 (f2 i)).wf = true) :
    Calls Try.prog 5 #[.int .i64 kv, .int .i64 p1, .slice (some ⟨b1, off1, none⟩) n1 cap1, .int .i64 p2, .slice (some ⟨b2, off2, none⟩) n2 cap2] w fun e w' => e = .returned (.bool true) ∧ Below w.heap.size w w' := by
  unfold PN at hp1 hp2
  by_cases hx : 512 * (n1 : Int) + 1 ≤ kv
  · exact law5_T _ kv p1 b1 off1 n1 cap1 f1 p2 b2 off2 n2 cap2 f2 w h0 (by omega) hn1' (by omega) hn2' (by omega) (by omega) (by omega) (by omega) (hidden (by omega)) (hidden (by omega)) hb1 hb2 hc1 hc2 hwf1 hwf2 (decide_eq_true hx) rfl
  · exact law5_F _ kv p1 b1 off1 n1 cap1 f1 p2 b2 off2 n2 cap2 f2 w h0 (by omega) hn1' (by omega) hn2' (by omega) (by omega) (by omega) (by omega) (hidden (by omega)) (hidden (by omega)) hb1 hb2 hc1 hc2 hwf1 hwf2 (decide_eq_false hx) rfl

end Go.Proofs.Qxb6614494a
