import Derived.Test.Qxb6614494aAdmit
namespace Go.Proofs.Qxb6614494a
open Go.RowKit Go.Maps
set_option linter.unusedVariables false

theorem idx_pos {f : Nat → Int} {n : Nat} {id r : Int} (hh : hit f n id = true) (h : (r = -1 ∧ ∀ k, k < n → f k ≠ id) ∨ ∃ k : Nat, k < n ∧ r = k ∧ f k = id) : 0 ≤ r := by
  rcases h with ⟨_, h'⟩ | ⟨x, hx, h, h'⟩
  · obtain ⟨y, hy, hy'⟩ := (hit_iff f n id).1 hh
    exact absurd hy' (h' y hy)
  · omega
theorem idx_neg {f : Nat → Int} {n : Nat} {id r : Int} (hh : hit f n id = false) (h : (r = -1 ∧ ∀ k, k < n → f k ≠ id) ∨ ∃ k : Nat, k < n ∧ r = k ∧ f k = id) : r < 0 := by
  rcases h with ⟨h, _⟩ | ⟨x, hx, h, h'⟩
  · omega
  · have := (hit_iff f n id).2 ⟨x, hx, h'⟩
    rw [hh] at this
    cases this

theorem held_no (w : World) (r n cap : Nat) (a o : Option Addr) (n2 cap2 : Nat) (x : Bool) (h5 : w.cell? ⟨r, 5, none⟩ = some (.slice none 0 0)) :
    Calls Try.prog 13 #[.pointer (some ⟨r, 0, none⟩), .slice a n cap, .bool false, .slice o n2 cap2, .bool x] w fun e w' => e = .returned (.bool true) ∧ w' = w := by
  go_enter Try.func13, Try.ntmps13
  go_wp2_with (go_at_call 23; refine (reqHeld_any r none 0 0 _ h5).mono ?_; rintro e w' ⟨rfl, hw'⟩; obtain rfl := hw'.symm)
  go_ret
  exact ⟨rfl, rfl⟩

set_option maxRecDepth 100000 in
set_option maxHeartbeats 1000000 in
theorem held_alone (w : World) (r g b off k cap cap2 : Nat) (o : Option Addr) (n2 cap3 : Nat) (f : Nat → Int) (bl : Nat → Nat) (hk : k ≤ 1048576)
    (h5 : w.cell? ⟨r, 5, none⟩ = some (.slice (some ⟨g, 0, none⟩) k cap)) (hc : ∀ i, i < k → w.cell? ⟨b, off + i, none⟩ = some (.int .u64 (f i)))
    (hg : ∀ i, i < k → w.cell? ⟨g, i, none⟩ = some (.pointer (some ⟨bl i, 0, none⟩))) (h0 : ∀ i, i < k → w.cell? ⟨bl i, 0, none⟩ = some (.int .u64 (f i))) (h1 : ∀ i, i < k → w.cell? ⟨bl i, 1, none⟩ = some (.int .i64 1)) :
    Calls Try.prog 13 #[.pointer (some ⟨r, 0, none⟩), .slice (some ⟨b, off, none⟩) k cap2, .bool true, .slice o n2 cap3, .bool false] w fun e w' => e = .returned (.bool true) ∧ ∃ d, w' = w.drewN d := by
  go_enter Try.func13, Try.ntmps13
  go_wp2_with (go_at_call 23; refine (reqHeld_any r (some ⟨g, 0, none⟩) k cap _ h5).mono ?_; rintro e w' ⟨rfl, hw'⟩; obtain rfl := hw'.symm)
  go_loopw [12] (fun t wr => ∃ i d : Nat, i ≤ k ∧ t = .int .i64 i ∧ wr = w.drewN d) (fun t _ => k - (intOf t).toNat)
  case atStart => exact ⟨0, 0, Nat.zero_le _, rfl, rfl⟩
  case round =>
    obtain ⟨i, d, hi, rfl, hwr⟩ := hrel
    have HW : Hid (wr = w.drewN d) := hwr
    have hcell : ∀ a, wr.cell? a = w.cell? a := fun a => by rw [hwr]; rfl
    by_cases hlt : i < k
    · have c1 := (hcell _).trans (hc i hlt)
      have c2 := (hcell _).trans (hg i hlt)
      have c3 := (hcell _).trans (h0 i hlt)
      have c4 := (hcell _).trans (h1 i hlt)
      have hl1 : (i : Int) < (k : Int) := by omega
      clear hc hg h0 h1 h5 hwr hcell
      go_wp2
      go_quiet ((go_at_call 28; exact Calls.quiet_of_same (blockID_any (bl i) (f i) _ (by simpa using c3))))
      go_wp2_with (go_at_call 29; refine (blockHolders_any (bl i) 1 _ (by exact c4)).mono ?_; rintro e w' ⟨rfl, hw'⟩; obtain rfl := hw'.symm)
      go_roundw
      case rel => exact ⟨i + 1, _, by omega, by go_num, by rw [HW.out]; exact World.drewN_drewN _ _ _⟩
      case measure => simp [intOf]; omega
    · clear hc hg h0 h1 h5 hwr hcell
      go_wp2
      go_ret
      exact ⟨rfl, _, HW.out⟩

set_option maxRecDepth 100000 in
set_option maxHeartbeats 2000000 in
theorem held_both (w : World) (r g b off k cap cap2 : Nat) (b2 off2 n2 cap3 : Nat) (f f2 : Nat → Int) (bl : Nat → Nat) (hk : k ≤ 1048576) (hn2 : n2 ≤ 1048576)
    (h5 : w.cell? ⟨r, 5, none⟩ = some (.slice (some ⟨g, 0, none⟩) k cap)) (hc : ∀ i, i < k → w.cell? ⟨b, off + i, none⟩ = some (.int .u64 (f i))) (hc2 : ∀ i, i < n2 → w.cell? ⟨b2, off2 + i, none⟩ = some (.int .u64 (f2 i)))
    (hg : ∀ i, i < k → w.cell? ⟨g, i, none⟩ = some (.pointer (some ⟨bl i, 0, none⟩))) (h0 : ∀ i, i < k → w.cell? ⟨bl i, 0, none⟩ = some (.int .u64 (f i)))
    (h1 : ∀ i, i < k → w.cell? ⟨bl i, 1, none⟩ = some (.int .i64 (if hit f2 n2 (f i) then 2 else 1))) :
    Calls Try.prog 13 #[.pointer (some ⟨r, 0, none⟩), .slice (some ⟨b, off, none⟩) k cap2, .bool true, .slice (some ⟨b2, off2, none⟩) n2 cap3, .bool true] w fun e w' => e = .returned (.bool true) ∧ ∃ d, w' = w.drewN d := by
  go_enter Try.func13, Try.ntmps13
  go_wp2_with (go_at_call 23; refine (reqHeld_any r (some ⟨g, 0, none⟩) k cap _ h5).mono ?_; rintro e w' ⟨rfl, hw'⟩; obtain rfl := hw'.symm)
  go_loopw [12, 13] (fun t _ wr => ∃ i d : Nat, i ≤ k ∧ t = .int .i64 i ∧ wr = w.drewN d) (fun t _ _ => k - (intOf t).toNat)
  case atStart => exact ⟨0, 0, Nat.zero_le _, rfl, rfl⟩
  case round =>
    obtain ⟨i, d, hi, rfl, hwr⟩ := hrel
    have HW : Hid (wr = w.drewN d) := hwr
    have hcell : ∀ a, wr.cell? a = w.cell? a := fun a => by rw [hwr]; rfl
    by_cases hlt : i < k
    · have c1 := (hcell _).trans (hc i hlt)
      have c2 := (hcell _).trans (hg i hlt)
      have c3 := (hcell _).trans (h0 i hlt)
      have c4 := (hcell _).trans (h1 i hlt)
      have hl1 : (i : Int) < (k : Int) := by omega
      cases hh : hit f2 n2 (f i) with
      | true =>
        have c4' : wr.cell? ⟨bl i, 1, none⟩ = some (.int .i64 2) := by rw [c4, hh]; rfl
        have HH : Hid (hit f2 n2 (f i) = true) := hh
        clear hc hg h0 h1 h5 c4 hh hwr
        have hc2 : ∀ i, i < n2 → wr.cell? ⟨b2, off2 + i, none⟩ = some (.int .u64 (f2 i)) := fun i hi => (hcell _).trans (hc2 i hi)
        clear hcell
        go_wp2
        go_quiet ((go_at_call 28; exact Calls.quiet_of_same (blockID_any (bl i) (f i) _ (by simpa using c3))))
        go_wp2_with (first
          | (go_at_call 24; refine (index_any f2 b2 off2 n2 cap3 (f i) _ hn2 (by exact hc2)).mono ?_; rintro e w' ⟨⟨ri, rfl, hri⟩, hw'⟩; obtain rfl := hw'.symm; have hr0 : 0 ≤ ri := idx_pos HH.out hri; clear hri)
          | (go_at_call 29; refine (blockHolders_any (bl i) 2 _ (by exact c4')).mono ?_; rintro e w' ⟨rfl, hw'⟩; obtain rfl := hw'.symm))
        go_roundw
        case rel => exact ⟨i + 1, _, by omega, by go_num, by rw [HW.out]; exact World.drewN_drewN _ _ _⟩
        case measure => simp [intOf]; omega
      | false =>
        have c4' : wr.cell? ⟨bl i, 1, none⟩ = some (.int .i64 1) := by rw [c4, hh]; rfl
        have HH : Hid (hit f2 n2 (f i) = false) := hh
        clear hc hg h0 h1 h5 c4 hh hwr
        have hc2 : ∀ i, i < n2 → wr.cell? ⟨b2, off2 + i, none⟩ = some (.int .u64 (f2 i)) := fun i hi => (hcell _).trans (hc2 i hi)
        clear hcell
        go_wp2
        go_quiet ((go_at_call 28; exact Calls.quiet_of_same (blockID_any (bl i) (f i) _ (by simpa using c3))))
        go_wp2_with (first
          | (go_at_call 24; refine (index_any f2 b2 off2 n2 cap3 (f i) _ hn2 (by exact hc2)).mono ?_; rintro e w' ⟨⟨ri, rfl, hri⟩, hw'⟩; obtain rfl := hw'.symm; have hr0 : ri < 0 := idx_neg HH.out hri; clear hri)
          | (go_at_call 29; refine (blockHolders_any (bl i) 1 _ (by exact c4')).mono ?_; rintro e w' ⟨rfl, hw'⟩; obtain rfl := hw'.symm))
        go_roundw
        case rel => exact ⟨i + 1, _, by omega, by go_num, by rw [HW.out]; exact World.drewN_drewN _ _ _⟩
        case measure => simp [intOf]; omega
    · clear hc hg h0 h1 h5 hc2 hwr hcell
      go_wp2
      go_ret
      exact ⟨rfl, _, HW.out⟩

end Go.Proofs.Qxb6614494a
