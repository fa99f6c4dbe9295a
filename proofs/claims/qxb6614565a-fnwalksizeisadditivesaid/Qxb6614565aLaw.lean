import Derived.Test.Qxb6614565aNew
import Derived.OpenShut
namespace Go.Proofs.Qxb6614565a
open Go.RowKit
set_option linter.unusedVariables false

theorem grown_trans {a b c : World} (h : Grown a b) (k : Grown b c) : Grown a c :=
  ⟨World.keptBut_trans h.1 (World.keptBut_mono (fun _ f => f.elim) k.1), fun x => (k.2.1 x).trans (h.2.1 x), Nat.le_trans h.2.2 k.2.2⟩
theorem grown_drewN {a b : World} (h : Grown a b) (n : Nat) : Grown a (b.drewN n) := h

theorem new_of (x1 x2 x3 x4 x5 : Int) (s t k p r : Nat) (w : World) (e1 : x1 = s) (e2 : x2 = t) (e3 : x3 = k) (e4 : x4 = p) (e5 : x5 = r) (hs : s ≤ 65536) (ht : t ≤ 65536) (hk : k ≤ 65536) (hp : p ≤ 65536) (hr : r ≤ 65536) :
    Calls Try.prog 11 #[.int .i64 x1, .int .i64 x2, .int .i64 x3, .int .i64 x4, .int .i64 x5] w fun e w' => ∃ b, e = .returned (.pointer (some ⟨b, 0, none⟩)) ∧ IsWalk w' b s t k p r ∧ Grown w w' := by
  subst e1 e2 e3 e4 e5
  exact new_any s t k p r w hs ht hk hp hr

theorem zzsize_any (b s t k p r : Nat) (w : World) (h : IsWalk w b s t k p r) (hs : s ≤ 65536) (ht : t ≤ 65536) (hk : k ≤ 65536) (hp : p ≤ 65536) (hr : r ≤ 65536) :
    Calls Try.prog 10 #[.pointer (some ⟨b, 0, none⟩)] w fun e w' => e = .returned (.int .i64 (4 * ((s : Int) + t + k) + 8 * p + 16 * r)) ∧ Grown w w' := by
  obtain ⟨x1, x2, x3, x4, x5, c1, c2, c3, c4, c5⟩ := h
  go_enter Try.func10, Try.ntmps10
  go_wp2_with (go_at_call 13; refine (size_any b x1 x2 x3 x4 x5 s t k p r _ hs ht hk hp hr c1 c2 c3 c4 c5).mono ?_; rintro e w' ⟨rfl, d, rfl⟩)
  go_ret
  exact ⟨rfl, grown_drewN (Grown.refl w) d⟩

set_option maxRecDepth 100000 in
set_option maxHeartbeats 8000000 in
theorem law_edge (a0 : Int) (a1 : Int) (a2 : Int) (a3 : Int) (a4 : Int) (a5 : Int) (a6 : Int) (a7 : Int) (a8 : Int) (a9 : Int) (w : World) (h : a0 < 0 ∨ 32768 < a0 ∨ a1 < 0 ∨ 32768 < a1 ∨ a2 < 0 ∨ 32768 < a2 ∨ a3 < 0 ∨ 32768 < a3 ∨ a4 < 0 ∨ 32768 < a4 ∨ a5 < 0 ∨ 32768 < a5 ∨ a6 < 0 ∨ 32768 < a6 ∨ a7 < 0 ∨ 32768 < a7 ∨ a8 < 0 ∨ 32768 < a8 ∨ a9 < 0 ∨ 32768 < a9) :
    Calls Try.prog 4 #[.int .i64 a0, .int .i64 a1, .int .i64 a2, .int .i64 a3, .int .i64 a4, .int .i64 a5, .int .i64 a6, .int .i64 a7, .int .i64 a8, .int .i64 a9] w fun e w' => e = .returned (.bool true) ∧ Grown w w' := by
  by_cases h0 : a0 < 0
  · clear h
    go_enter Try.func4, Try.ntmps4
    go_wp2
    go_ret
    exact ⟨rfl, Grown.refl _⟩
  by_cases h1 : 32768 < a0
  · clear h
    go_enter Try.func4, Try.ntmps4
    go_wp2
    go_ret
    exact ⟨rfl, Grown.refl _⟩
  by_cases h2 : a1 < 0
  · clear h
    go_enter Try.func4, Try.ntmps4
    go_wp2
    go_ret
    exact ⟨rfl, Grown.refl _⟩
  by_cases h3 : 32768 < a1
  · clear h
    go_enter Try.func4, Try.ntmps4
    go_wp2
    go_ret
    exact ⟨rfl, Grown.refl _⟩
  by_cases h4 : a2 < 0
  · clear h
    go_enter Try.func4, Try.ntmps4
    go_wp2
    go_ret
    exact ⟨rfl, Grown.refl _⟩
  by_cases h5 : 32768 < a2
  · clear h
    go_enter Try.func4, Try.ntmps4
    go_wp2
    go_ret
    exact ⟨rfl, Grown.refl _⟩
  by_cases h6 : a3 < 0
  · clear h
    go_enter Try.func4, Try.ntmps4
    go_wp2
    go_ret
    exact ⟨rfl, Grown.refl _⟩
  by_cases h7 : 32768 < a3
  · clear h
    go_enter Try.func4, Try.ntmps4
    go_wp2
    go_ret
    exact ⟨rfl, Grown.refl _⟩
  by_cases h8 : a4 < 0
  · clear h
    go_enter Try.func4, Try.ntmps4
    go_wp2
    go_ret
    exact ⟨rfl, Grown.refl _⟩
  by_cases h9 : 32768 < a4
  · clear h
    go_enter Try.func4, Try.ntmps4
    go_wp2
    go_ret
    exact ⟨rfl, Grown.refl _⟩
  by_cases h10 : a5 < 0
  · clear h
    go_enter Try.func4, Try.ntmps4
    go_wp2
    go_ret
    exact ⟨rfl, Grown.refl _⟩
  by_cases h11 : 32768 < a5
  · clear h
    go_enter Try.func4, Try.ntmps4
    go_wp2
    go_ret
    exact ⟨rfl, Grown.refl _⟩
  by_cases h12 : a6 < 0
  · clear h
    go_enter Try.func4, Try.ntmps4
    go_wp2
    go_ret
    exact ⟨rfl, Grown.refl _⟩
  by_cases h13 : 32768 < a6
  · clear h
    go_enter Try.func4, Try.ntmps4
    go_wp2
    go_ret
    exact ⟨rfl, Grown.refl _⟩
  by_cases h14 : a7 < 0
  · clear h
    go_enter Try.func4, Try.ntmps4
    go_wp2
    go_ret
    exact ⟨rfl, Grown.refl _⟩
  by_cases h15 : 32768 < a7
  · clear h
    go_enter Try.func4, Try.ntmps4
    go_wp2
    go_ret
    exact ⟨rfl, Grown.refl _⟩
  by_cases h16 : a8 < 0
  · clear h
    go_enter Try.func4, Try.ntmps4
    go_wp2
    go_ret
    exact ⟨rfl, Grown.refl _⟩
  by_cases h17 : 32768 < a8
  · clear h
    go_enter Try.func4, Try.ntmps4
    go_wp2
    go_ret
    exact ⟨rfl, Grown.refl _⟩
  by_cases h18 : a9 < 0
  · clear h
    go_enter Try.func4, Try.ntmps4
    go_wp2
    go_ret
    exact ⟨rfl, Grown.refl _⟩
  by_cases h19 : 32768 < a9
  · clear h
    go_enter Try.func4, Try.ntmps4
    go_wp2
    go_ret
    exact ⟨rfl, Grown.refl _⟩
  omega

set_option maxRecDepth 100000 in
set_option maxHeartbeats 8000000 in
theorem law_main (s1 t1 k1 p1 r1 s2 t2 k2 p2 r2 : Nat) (w : World) (hs1 : s1 ≤ 32768) (ht1 : t1 ≤ 32768) (hk1 : k1 ≤ 32768) (hp1 : p1 ≤ 32768) (hr1 : r1 ≤ 32768) (hs2 : s2 ≤ 32768) (ht2 : t2 ≤ 32768) (hk2 : k2 ≤ 32768) (hp2 : p2 ≤ 32768) (hr2 : r2 ≤ 32768) :
    Calls Try.prog 4 #[.int .i64 s1, .int .i64 t1, .int .i64 k1, .int .i64 p1, .int .i64 r1, .int .i64 s2, .int .i64 t2, .int .i64 k2, .int .i64 p2, .int .i64 r2] w fun e w' => e = .returned (.bool true) ∧ Grown w w' := by
  go_enter Try.func4, Try.ntmps4
  go_wp2_with fail
  refine (new_of _ _ _ _ _ s1 t1 k1 p1 r1 _ rfl rfl rfl rfl rfl (by omega) (by omega) (by omega) (by omega) (by omega)).mono ?_
  rintro e w1 ⟨b1, rfl, hb1, g1⟩
  go_wp2_with fail
  refine (zzsize_any b1 s1 t1 k1 p1 r1 _ hb1 (by omega) (by omega) (by omega) (by omega) (by omega)).mono ?_
  rintro e w2 ⟨rfl, g2⟩
  have G2 := grown_trans g1 g2
  clear g1 g2 hb1
  go_wp2_with fail
  refine (new_of _ _ _ _ _ s2 t2 k2 p2 r2 _ rfl rfl rfl rfl rfl (by omega) (by omega) (by omega) (by omega) (by omega)).mono ?_
  rintro e w3 ⟨b2, rfl, hb2, g3⟩
  have G3 := grown_trans G2 g3
  go_wp2_with fail
  refine (zzsize_any b2 s2 t2 k2 p2 r2 _ hb2 (by omega) (by omega) (by omega) (by omega) (by omega)).mono ?_
  rintro e w4 ⟨rfl, g4⟩
  have G4 := grown_trans G3 g4
  clear G2 G3 g3 g4 hb2
  go_wp2_with fail
  refine (new_of _ _ _ _ _ (s1 + s2) (t1 + t2) (k1 + k2) (p1 + p2) (r1 + r2) _ (by omega) (by omega) (by omega) (by omega) (by omega) (by omega) (by omega) (by omega) (by omega) (by omega)).mono ?_
  rintro e w5 ⟨b3, rfl, hb3, g5⟩
  have G5 := grown_trans G4 g5
  go_wp2_with fail
  refine (zzsize_any b3 _ _ _ _ _ _ hb3 (by omega) (by omega) (by omega) (by omega) (by omega)).mono ?_
  rintro e w6 ⟨rfl, g6⟩
  have G6 := grown_trans G5 g6
  clear G4 G5 g5 g6 hb3
  have hEq : (4 * ((s1 : Int) + t1 + k1) + 8 * p1 + 16 * r1 == 0) = ((s1 : Int) + t1 + k1 + p1 + r1 == 0) := by
    rw [Bool.eq_iff_iff]; simp; omega
  have h16 : 4 * ((s1 : Int) + t1 + k1) + 8 * p1 + 16 * r1 ≤ 16 * ((s1 : Int) + t1 + k1 + p1 + r1) := by omega
  go_wp2
  go_ret
  exact ⟨rfl, G6⟩

end Go.Proofs.Qxb6614565a
