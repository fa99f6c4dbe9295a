import Derived.Test.Qxb6614565aRows
import Derived.WalkKit
import Derived.WalkSpells
import Derived.WalkLawsBesides
import Derived.Deep.QuietTactic
import Derived.BigQuiet
import Derived.BigRegion
import Derived.Deep.OwnRows
import Derived.Outline
namespace Go.Proofs.Qxb6614565a
open Go.RowKit
set_option linter.unusedVariables false

theorem info63 : (Try.prog.info? 63).map (fun i => (i.zero, i.size, i.bytes)) = some (some (.int .u32 0), 1, 4) := by kernel_rfl
theorem info3 : (Try.prog.info? 3).map (fun i => (i.zero, i.size, i.bytes)) = some (some (.int .i64 0), 1, 8) := by kernel_rfl
theorem info85 : (Try.prog.info? 85).map (fun i => (i.zero, i.size, i.bytes)) = some (some (.agg #[.int .i64 0, .int .i64 0]), 2, 16) := by kernel_rfl

def ob60 (n : Nat) : Array Value := madeCells #[.int .u32 0] n
def ob44 (n : Nat) : Array Value := madeCells #[.int .i64 0] n
def ob61 (n : Nat) : Array Value := madeCells #[.int .i64 0, .int .i64 0] (n * 2)

theorem mk_any (t e : TypeId) (z : Value) (size bytes : Nat) (ht : Try.prog.underlying t = some (.slice e)) (hinfo : (Try.prog.info? e).map (fun i => (i.zero, i.size, i.bytes)) = some (some z, size, bytes)) (hb : bytes ≤ 16) (n : Nat) (hn : n ≤ 65536) (w : World) :
    (Instr.makeSlice t (.int .i64 0) (.int .i64 (n : Int))).run Try.prog w = .ok (.slice (some ⟨w.heap.size, 0, none⟩) 0 n) (w.alloc (.cells (madeCells z.cells (n * size)) e)) := by
  obtain ⟨i, hi, hzz⟩ := Option.map_eq_some_iff.1 hinfo
  simp only [Prod.mk.injEq] at hzz
  obtain ⟨hz, hs, hby⟩ := hzz
  have hmul : (i.bytes : Int) * (n : Int) ≤ 16 * 65536 := by
    rw [hby]
    exact Int.mul_le_mul (by omega) (by omega) (by omega) (by omega)
  have := run_make (P := Try.prog) w t e i z ht hi hz .i64 .i64 0 (n : Int) (by omega) (by omega) (by omega) (by omega)
  simpa [hs] using this

theorem mk60 (n : Nat) (hn : n ≤ 65536) (w : World) : (Instr.makeSlice 60 (.int .i64 0) (.int .i64 (n : Int))).run Try.prog w = .ok (.slice (some ⟨w.heap.size, 0, none⟩) 0 n) (w.alloc (.cells (ob60 n) 63)) := by
  have := mk_any 60 63 (.int .u32 0) 1 4 Try.underlying60 info63 (by omega) n hn w
  rw [Nat.mul_one] at this; exact this
theorem mk44 (n : Nat) (hn : n ≤ 65536) (w : World) : (Instr.makeSlice 44 (.int .i64 0) (.int .i64 (n : Int))).run Try.prog w = .ok (.slice (some ⟨w.heap.size, 0, none⟩) 0 n) (w.alloc (.cells (ob44 n) 3)) := by
  have := mk_any 44 3 (.int .i64 0) 1 8 Try.underlying44 info3 (by omega) n hn w
  rw [Nat.mul_one] at this; exact this
theorem mk61 (n : Nat) (hn : n ≤ 65536) (w : World) : (Instr.makeSlice 61 (.int .i64 0) (.int .i64 (n : Int))).run Try.prog w = .ok (.slice (some ⟨w.heap.size, 0, none⟩) 0 n) (w.alloc (.cells (ob61 n) 85)) :=
  mk_any 61 85 (.agg #[.int .i64 0, .int .i64 0]) 2 16 Try.underlying61 info85 (by omega) n hn w

theorem size_any (b : Nat) (x1 x2 x3 x4 x5 : Option Addr) (s t k p r : Nat) (w : World) (hs : s ≤ 65536) (ht : t ≤ 65536) (hk : k ≤ 65536) (hp : p ≤ 65536) (hr : r ≤ 65536)
    (c1 : w.cell? ⟨b, 1, none⟩ = some (.slice x1 0 s)) (c3 : w.cell? ⟨b, 3, none⟩ = some (.slice x2 0 t)) (c4 : w.cell? ⟨b, 4, none⟩ = some (.slice x3 0 k)) (c7 : w.cell? ⟨b, 7, none⟩ = some (.slice x4 0 p)) (c8 : w.cell? ⟨b, 8, none⟩ = some (.slice x5 0 r)) :
    Calls Try.prog 13 #[.pointer (some ⟨b, 0, none⟩)] w fun e w' => e = .returned (.int .i64 (4 * ((s : Int) + t + k) + 8 * p + 16 * r)) ∧ ∃ d, w' = w.drewN d := by
  go_enter Try.func13, Try.ntmps13
  go_wp2
  go_quiet (fail)
  go_wp2
  go_ret
  exact ⟨rfl, _, rfl⟩

end Go.Proofs.Qxb6614565a
