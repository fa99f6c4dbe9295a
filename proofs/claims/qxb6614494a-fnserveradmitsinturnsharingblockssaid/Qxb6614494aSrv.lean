import Derived.Test.Qxb6614494aLawB
import Derived.Deep.RegionWith
import Derived.Lib.Builder
namespace Go.Proofs.Qxb6614494a
open Go.RowKit Go.Maps
set_option linter.unusedVariables false

theorem bytes5_yes (a0 a1 : Int) (a : Option Addr) (n cap : Nat) (a2 : Int) (b : Option Addr) (n2 cap2 : Nat) (hn : n ≤ 1048576) (hn2 : n2 ≤ 1048576) (hnn : n + n2 ≤ 1048576) (w : World) :
    Calls Try.prog 15 #[.int .i64 a0, .int .i64 a1, .slice a n cap, .int .i64 a2, .slice b n2 cap2] w fun e w' => e = .returned (.bool true) ∧ w' = w := by
  go_enter Try.func15, Try.ntmps15
  go_wp2
  go_ret
  exact ⟨rfl, rfl⟩
theorem bytes5_no (a0 a1 : Int) (a : Option Addr) (n cap : Nat) (a2 : Int) (b : Option Addr) (n2 cap2 : Nat) (h : 1048576 < n + n2) (w : World) :
    Calls Try.prog 15 #[.int .i64 a0, .int .i64 a1, .slice a n cap, .int .i64 a2, .slice b n2 cap2] w fun e w' => e = .returned (.bool false) ∧ w' = w := by
  by_cases h1 : 1048576 < n
  · go_enter Try.func15, Try.ntmps15
    go_wp2
    go_ret
    exact ⟨rfl, rfl⟩
  · by_cases h2 : 1048576 < n2
    · go_enter Try.func15, Try.ntmps15
      go_wp2
      go_ret
      exact ⟨rfl, rfl⟩
    · go_enter Try.func15, Try.ntmps15
      go_wp2
      go_ret
      exact ⟨rfl, rfl⟩

theorem prompt_yes (p : Int) (a : Option Addr) (n cap : Nat) (w : World) (h1 : 1 ≤ p) (h2 : p ≤ 1073741824) (h : (n : Int) = (p + 511) / 512) :
    Calls Try.prog 16 #[.int .i64 p, .slice a n cap] w fun e w' => e = .returned (.bool true) ∧ w' = w := by
  have h' : ((n : Int) == (p + 512 - 1) / 512) = true := by simp; omega
  have HH : Hid ((n : Int) = (p + 511) / 512) := h
  clear h
  go_enter Try.func16, Try.ntmps16
  go_wp2
  go_ret
  exact ⟨rfl, rfl⟩
theorem prompt_no (p : Int) (a : Option Addr) (n cap : Nat) (w : World) (h : p < 1 ∨ 1073741824 < p ∨ ¬ (n : Int) = (p + 511) / 512) :
    Calls Try.prog 16 #[.int .i64 p, .slice a n cap] w fun e w' => e = .returned (.bool false) ∧ w' = w := by
  by_cases h1 : p < 1
  · clear h
    go_enter Try.func16, Try.ntmps16
    go_wp2
    go_ret
    exact ⟨rfl, rfl⟩
  · by_cases h2 : 1073741824 < p
    · clear h
      go_enter Try.func16, Try.ntmps16
      go_wp2
      go_ret
      exact ⟨rfl, rfl⟩
    · have h' : ((n : Int) == (p + 512 - 1) / 512) = false := by simp; omega
      clear h
      go_enter Try.func16, Try.ntmps16
      go_wp2
      go_ret
      exact ⟨rfl, rfl⟩

/-- the ids of f1, as a map -/
def inF (f : Nat → Int) (n : Nat) (id : Int) : Option Nat := if hit f n id then some 0 else none
theorem inF_none {f : Nat → Int} {n : Nat} {id : Int} (h : hit f n id = false) : inF f n id = none := by simp [inF, h]
theorem inF_some {f : Nat → Int} {n : Nat} {id : Int} (h : hit f n id = true) : inF f n id = some 0 := by simp [inF, h]

set_option maxHeartbeats 1000000 in
theorem count_any (f2 f1 : Nat → Int) (b2 off2 n2 cap2 b1 off1 n1 cap1 : Nat) (w : World) (hn2 : n2 ≤ 1048576) (hn1 : n1 ≤ 1048576)
    (hc2 : ∀ k, k < n2 → w.cell? ⟨b2, off2 + k, none⟩ = some (.int .u64 (f2 k))) (hc1 : ∀ k, k < n1 → w.cell? ⟨b1, off1 + k, none⟩ = some (.int .u64 (f1 k))) :
    Calls Try.prog 17 #[.slice (some ⟨b2, off2, none⟩) n2 cap2, .slice (some ⟨b1, off1, none⟩) n1 cap1] w fun e w' => e = .returned (.int .i64 (freshN (inF f1 n1) f2 n2)) ∧ w = w' := by
  go_enter Try.func17, Try.ntmps17
  go_wp2
  go_loop [5, 6] (fun t i => ∃ k : Nat, k ≤ n2 ∧ i = .int .i64 k ∧ t = .int .i64 (freshN (inF f1 n1) f2 k)) (fun _ i => n2 - (intOf i).toNat)
  case atStart => exact ⟨0, Nat.zero_le _, rfl, rfl⟩
  case round =>
    obtain ⟨k, hk, rfl, rfl⟩ := hrel
    have hfl := freshN_le (inF f1 n1) f2 k
    by_cases hlt : k < n2
    · have hck := hc2 k hlt
      clear hc2
      cases hh : hit f1 n1 (f2 k) with
      | true =>
        have HH : Hid (hit f1 n1 (f2 k) = true) := hh
        clear hh
        go_wp2_with (go_at_call 24; refine (index_any f1 b1 off1 n1 cap1 (f2 k) _ hn1 hc1).mono ?_; rintro e w' ⟨⟨ri, rfl, hri⟩, hw'⟩; obtain rfl := hw'.symm; have hr0 : 0 ≤ ri := idx_pos HH.out hri; clear hri)
        go_round
        case rel => exact ⟨k + 1, by omega, by go_num, by rw [freshN_some (inF_some HH.out)]⟩
        case measure => simp [intOf]; omega
      | false =>
        have HH : Hid (hit f1 n1 (f2 k) = false) := hh
        clear hh
        go_wp2_with (go_at_call 24; refine (index_any f1 b1 off1 n1 cap1 (f2 k) _ hn1 hc1).mono ?_; rintro e w' ⟨⟨ri, rfl, hri⟩, hw'⟩; obtain rfl := hw'.symm; have hr0 : ri < 0 := idx_neg HH.out hri; clear hri)
        go_round
        case rel => exact ⟨k + 1, by omega, by go_num, by rw [freshN_none (inF_none HH.out)]; go_num⟩
        case measure => simp [intOf]; omega
    · obtain rfl : k = n2 := by omega
      clear hc1 hc2
      go_wp2
      go_ret
      exact ⟨rfl, rfl⟩

/-- a server: its limits, its running requests, its memory -/
def srvCells (kv : Int) (m : Nat) (run : Value) : Array Value := #[.int .i64 2, .int .i64 2048, .int .i64 kv, .slice none 0 0, run, .pointer (some ⟨m, 0, none⟩), .bool false, .float .f64 0, .slice none 0 0]

theorem freshAfter_any (w : World) (r : Nat) (p pf : Int) (adm : Bool) (h6 : w.cell? ⟨r, 6, none⟩ = some (.bool adm)) (h7 : w.cell? ⟨r, 7, none⟩ = some (.int .i64 0)) (h8 : w.cell? ⟨r, 8, none⟩ = some (.int .i64 pf)) (h9 : w.cell? ⟨r, 9, none⟩ = some (.int .i64 0))
    (hpf : pf = if adm then p else 0) :
    Calls Try.prog 22 #[.pointer (some ⟨r, 0, none⟩), .bool adm, .int .i64 p] w fun e w' => e = .returned (.bool true) ∧ w = w' := by
  subst hpf
  cases adm
  all_goals
    go_enter Try.func22, Try.ntmps22
    go_wp2
    go_ret
    exact ⟨rfl, rfl⟩

theorem srvUsed_any (w : World) (sv m bm n : Nat) (F : Int → Option Nat) (h5 : w.cell? ⟨sv, 5, none⟩ = some (.pointer (some ⟨m, 0, none⟩))) (h1 : w.cell? ⟨m, 1, none⟩ = some (.map (some bm))) (h3 : w.cell? ⟨m, 3, none⟩ = some (.int .i64 0)) (hm : MapIs w bm F n) (hn : n ≤ 1048576) :
    Calls Try.prog 20 #[.pointer (some ⟨sv, 0, none⟩)] w fun e w' => e = .returned (.int .i64 (512 * n)) ∧ Grew w w' := by
  go_enter Try.func20, Try.ntmps20
  go_wp2_with (go_at_call 27; refine (used_any m bm n F _ h1 h3 hm hn).mono ?_; rintro e w' ⟨rfl, d, rfl⟩)
  go_ret
  exact ⟨rfl, Grew.drewN w d⟩

theorem srvRunning_any (w : World) (sv : Nat) (a : Option Addr) (l cp : Nat) (h4 : w.cell? ⟨sv, 4, none⟩ = some (.slice a l cp)) :
    Calls Try.prog 21 #[.pointer (some ⟨sv, 0, none⟩)] w fun e w' => e = .returned (.slice a l cp) ∧ w = w' := by
  go_enter Try.func21, Try.ntmps21
  go_wp2
  go_ret
  exact ⟨rfl, rfl⟩

theorem cached_any (w : World) (m bm n r rh k kc b : Nat) (F : Int → Option Nat) (p id : Int) (h1 : w.cell? ⟨m, 1, none⟩ = some (.map (some bm))) (hm : MapIs w bm F n) (hw : (Lit.int .u64 id).wf = true) (hF : F id = some b)
    (h3 : w.cell? ⟨r, 3, none⟩ = some (.slice (some ⟨rh, 0, none⟩) k kc)) (hr0 : w.cell? ⟨rh, 0, none⟩ = some (.int .u64 id)) (hk : 1 ≤ k) (hk' : k ≤ 4096) (hp : w.cell? ⟨r, 1, none⟩ = some (.int .i64 p)) (hp1 : 1 ≤ p) (hp2 : p ≤ 1073741824) (h2 : w.cell? ⟨b, 2, none⟩ = some (.bool false)) :
    Calls Try.prog 37 #[.pointer (some ⟨m, 0, none⟩), .pointer (some ⟨r, 0, none⟩)] w fun e w' => e = .returned (.int .i64 0) ∧ w = w' := by
  have hlk := hm.look_some hw hF
  clear hm hF
  go_enter Try.func37, Try.ntmps37
  go_wp2
  refine wp_loop_rounds 1 ?_
  rw [rounds_succ]
  go_wp2
  go_ret
  exact ⟨rfl, rfl⟩

end Go.Proofs.Qxb6614494a
