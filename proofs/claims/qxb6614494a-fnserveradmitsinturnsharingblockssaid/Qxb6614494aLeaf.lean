import Derived.Test.Qxb6614494aRows
import Derived.WalkKit
import Derived.WalkSpells
import Derived.WalkLawsBesides
import Derived.Deep.QuietTactic
import Derived.BigQuiet
import Derived.Deep.OwnRows
import Derived.Outline
namespace Go.Proofs.Qxb6614494a
open Go.RowKit
set_option linter.unusedVariables false

/-- The first n numbers of f are all different. -/
def Dist (f : Nat → Int) (n : Nat) : Prop := ∀ i j, i < n → j < n → f i = f j → i = j

theorem bytes3_yes (a0 : Int) (a : Option Addr) (n cap : Nat) (hn : n ≤ 1048576) (w : World) :
    Calls Try.prog 6 #[.int .i64 a0, .slice a n cap] w fun e w' => e = .returned (.bool true) ∧ w' = w := by
  go_enter Try.func6, Try.ntmps6
  go_wp2
  go_ret
  exact ⟨rfl, rfl⟩
theorem bytes3_no (a0 : Int) (a : Option Addr) (n cap : Nat) (hn : 1048576 < n) (w : World) :
    Calls Try.prog 6 #[.int .i64 a0, .slice a n cap] w fun e w' => e = .returned (.bool false) ∧ w' = w := by
  go_enter Try.func6, Try.ntmps6
  go_wp2
  go_ret
  exact ⟨rfl, rfl⟩

set_option maxHeartbeats 400000 in
theorem index_any (f : Nat → Int) (b off n cap : Nat) (id : Int) (w : World) (hn : n ≤ 1048576)
    (hc : ∀ k, k < n → w.cell? ⟨b, off + k, none⟩ = some (.int .u64 (f k))) :
    Calls Try.prog 24 #[.slice (some ⟨b, off, none⟩) n cap, .int .u64 id] w fun e w' => (∃ r : Int, e = .returned (.int .i64 r) ∧ ((r = -1 ∧ ∀ k, k < n → f k ≠ id) ∨ ∃ k : Nat, k < n ∧ r = k ∧ f k = id)) ∧ w' = w := by
  go_enter Try.func24, Try.ntmps24
  go_wp2
  go_loop [5] (fun i => ∃ k : Nat, k ≤ n ∧ i = .int .i64 k ∧ ∀ j, j < k → f j ≠ id) (fun i => n - (intOf i).toNat)
  case atStart => exact ⟨0, Nat.zero_le _, rfl, fun j hj => absurd hj (by omega)⟩
  case round =>
    obtain ⟨k, hk, rfl, hne⟩ := hrel
    by_cases hlt : k < n
    · have hck := hc k hlt
      have HN : Hid (∀ j, j < k → f j ≠ id) := hne
      clear hc hne
      by_cases he : (f k == id) = true
      · go_wp2
        go_ret
        exact ⟨⟨_, rfl, .inr ⟨k, hlt, rfl, by simpa using he⟩⟩, rfl⟩
      · have he' : (f k == id) = false := by simpa using he
        clear he
        go_wp2
        go_round
        case rel => exact ⟨k + 1, by omega, by go_num, fun j hj => by
          by_cases e : j = k
          · subst e; simpa using he'
          · exact HN.out j (by omega)⟩
        case measure => simp [intOf]; omega
    · have HN : Hid (∀ j, j < k → f j ≠ id) := hne
      clear hc hne
      go_wp2
      go_ret
      exact ⟨⟨_, rfl, .inl ⟨rfl, fun j hj => HN.out j (by omega)⟩⟩, rfl⟩

set_option maxHeartbeats 800000 in
theorem distinct_any (f : Nat → Int) (b off n cap : Nat) (w : World) (hn : n ≤ 1048576)
    (hc : ∀ k, k < n → w.cell? ⟨b, off + k, none⟩ = some (.int .u64 (f k))) :
    Calls Try.prog 7 #[.slice (some ⟨b, off, none⟩) n cap] w fun e w' => (e = .returned (.bool false) ∨ (e = .returned (.bool true) ∧ Dist f n)) ∧ ∃ d, w' = w.drewN d := by
  go_enter Try.func7, Try.ntmps7
  go_wp2
  go_loopw [3] (fun i wr => ∃ k d : Nat, k ≤ n ∧ i = .int .i64 k ∧ wr = w.drewN d ∧ ∀ i j, i < k → j < n → i < j → f i ≠ f j) (fun i _ => n - (intOf i).toNat)
  case atStart => exact ⟨0, 0, Nat.zero_le _, rfl, rfl, fun i j hi => absurd hi (by omega)⟩
  case round =>
    obtain ⟨k, d, hk, rfl, rfl, hne⟩ := hrel
    by_cases hlt : k < n
    · have hck := hc k hlt
      have HN : Hid (∀ i j, i < k → j < n → i < j → f i ≠ f j) := hne
      clear hne
      go_wp2
      go_loopw [4] (fun i wr => ∃ k' d : Nat, k < k' ∧ k' ≤ n ∧ i = .int .i64 k' ∧ wr = w.drewN d ∧ ∀ j, k < j → j < k' → f k ≠ f j) (fun i _ => n - (intOf i).toNat)
      case atStart => exact ⟨k + 1, d, by omega, by omega, by go_num, rfl, fun j hj => by omega⟩
      case round =>
        obtain ⟨k', d', hkk, hk', rfl, rfl, hne⟩ := hrel
        by_cases hlt' : k' < n
        · have hck' := hc k' hlt'
          have HN' : Hid (∀ j, k < j → j < k' → f k ≠ f j) := hne
          have hl1 : (k : Int) < (n : Int) := by omega
          have hl2 : (k' : Int) < (n : Int) := by omega
          clear hne hc
          by_cases he : (f k == f k') = true
          · go_wp2
            go_quiet (fail)
            go_wp2
            go_ret
            exact ⟨.inl rfl, _, World.drewN_drewN _ _ _⟩
          · have he' : (f k == f k') = false := by simpa using he
            clear he
            go_wp2
            go_quiet (fail)
            go_wp2
            go_roundw
            case rel => exact ⟨k' + 1, _, by omega, by omega, by go_num, rfl, fun j hj hj' => by
              by_cases e : j = k'
              · subst e; simpa using he'
              · exact HN'.out j hj (by omega)⟩
            case measure => simp [intOf]; omega
        · have HN' : Hid (∀ j, k < j → j < k' → f k ≠ f j) := hne
          clear hne hc
          go_wp2
          go_roundw
          case rel => exact ⟨k + 1, _, by omega, by go_num, rfl, fun i j hi hj hij => by
            by_cases e : i = k
            · subst e; exact HN'.out j hij (by omega)
            · exact HN.out i j (by omega) hj hij⟩
          case measure => simp [intOf]; omega
    · have HN : Hid (∀ i j, i < k → j < n → i < j → f i ≠ f j) := hne
      clear hne hc
      go_wp2
      go_ret
      refine ⟨.inr ⟨rfl, fun i j hi hj e => ?_⟩, _, rfl⟩
      rcases Nat.lt_trichotomy i j with h | h | h
      · exact absurd e (HN.out i j (by omega) hj h)
      · exact h
      · exact absurd e.symm (HN.out j i (by omega) hi h)

theorem info48 : (Try.prog.info? 48).map (fun i => (i.zero, i.size, i.bytes)) = some (some (.int .u64 0), 1, 8) := by kernel_rfl

set_option maxHeartbeats 800000 in
theorem clone_any (f : Nat → Int) (b off n cap : Nat) (w : World) (hn : n ≤ 1048576) (hb : b < w.heap.size)
    (hc : ∀ k, k < n → w.cell? ⟨b, off + k, none⟩ = some (.int .u64 (f k))) :
    Calls Try.prog 8 #[.slice (some ⟨b, off, none⟩) n cap] w fun e w' => e = .returned (.slice (some ⟨w.heap.size, 0, none⟩) n n) ∧ w'.rowIs w.heap.size 48 n (fun i => .int .u64 (f i)) ∧ Below w.heap.size w w' ∧ w'.heap.size = w.heap.size + 1 := by
  have hmk := run_make_row' (P := Try.prog) 22 48 (.int .u64 0) 8 Try.underlying22 info48 rfl .i64 .i64 n (by omega) (by omega)
  have hnil := fun wx => Lib.run_eql_slice_nil (P := Try.prog) wx 22 48 (some ⟨b, off, none⟩) n cap 0 0 Try.underlying22
  go_enter Try.func8, Try.ntmps8
  go_wp2
  go_loopw [4] (fun i wr => ∃ k : Nat, k ≤ n ∧ i = .int .i64 k ∧ wr.rowIs w.heap.size 48 n (fun i => .int .u64 (if i < k then f i else 0)) ∧ Below w.heap.size w wr ∧ wr.heap.size = w.heap.size + 1) (fun i _ => n - (intOf i).toNat)
  case atStart => exact ⟨0, Nat.zero_le _, rfl, by simpa using World.rowIs_made w (.int .u64 0) n 48, (Below.refl _ _).alloc (Nat.le_refl _) _, by simp⟩
  case round =>
    obtain ⟨k, hk, rfl, hrow, hbel, hsz⟩ := hrel
    by_cases hlt : k < n
    · have hck : wr.cell? ⟨b, off + k, none⟩ = some (.int .u64 (f k)) := (hbel.cell (by exact hb)).trans (hc k hlt)
      have hfz := hrow.frozen k
      have hrk := hrow.cell hlt
      have HS : Hid (wr.heap.size = w.heap.size + 1) := hsz
      clear hc hsz hmk hnil
      go_wp2
      go_roundw
      case rel => exact ⟨k + 1, by omega, by go_num, (hrow.set k _).congr (fun i hi => by
        by_cases e : i = k
        · subst e; simp
        · simp [e]; by_cases h : i < k
          · simp [h, show i < k + 1 by omega]
          · simp [h, show ¬ i < k + 1 by omega]), hbel.setCell (Nat.le_refl _) _, by rw [← HS.out]; simp [World.setCell]⟩
      case measure => simp [intOf]; omega
    · have : k = n := by omega
      subst this
      clear hc hmk hnil
      have HS : Hid (wr.heap.size = w.heap.size + 1) := hsz
      clear hsz
      go_wp2
      go_ret
      exact ⟨rfl, hrow.congr (fun i hi => by simp [hi]), hbel, HS.out⟩

end Go.Proofs.Qxb6614494a
