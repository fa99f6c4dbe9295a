import Derived.Test.Qxb6614494aBase
namespace Go.Proofs.Qxb6614494a
open Go.RowKit Go.Maps
set_option linter.unusedVariables false

section
variable {w : World} {m bm bs n : Nat} {c : Int} {F : Int → Option Nat} {hc : Int → Int}

theorem Mem.c0 (h : Mem w m c bm bs F n hc) : w.cell? ⟨m, 0, none⟩ = some (.int .i64 c) := cellOf h.blk 0 rfl
theorem Mem.c1 (h : Mem w m c bm bs F n hc) : w.cell? ⟨m, 1, none⟩ = some (.map (some bm)) := cellOf h.blk 1 rfl
theorem Mem.c2 (h : Mem w m c bm bs F n hc) : w.cell? ⟨m, 2, none⟩ = some (.slice none 0 0) := cellOf h.blk 2 rfl
theorem Mem.c3 (h : Mem w m c bm bs F n hc) : w.cell? ⟨m, 3, none⟩ = some (.int .i64 0) := cellOf h.blk 3 rfl
end

theorem used_any (m bm n : Nat) (F : Int → Option Nat) (w : World) (h1 : w.cell? ⟨m, 1, none⟩ = some (.map (some bm))) (h3 : w.cell? ⟨m, 3, none⟩ = some (.int .i64 0)) (hm : MapIs w bm F n) (hn : n ≤ 1048576) :
    Calls Try.prog 27 #[.pointer (some ⟨m, 0, none⟩)] w fun e w' => e = .returned (.int .i64 (512 * n)) ∧ ∃ d, w' = w.drewN d := by
  have hlen : ∀ ty nq, (Builtin.len_ #[60] ty #[.map (some bm)]).run Try.prog (w.drewN nq) = .ok (.int .i64 n) (w.drewN nq) := fun ty nq => (hm.of_block (w' := w.drewN nq) rfl).len ty
  clear hm
  go_enter Try.func27, Try.ntmps27
  go_wp2
  go_quiet (fail)
  go_wp2
  go_ret
  exact ⟨rfl, _, rfl⟩

theorem memUsed_any (m bm n : Nat) (F : Int → Option Nat) (w : World) (h1 : w.cell? ⟨m, 1, none⟩ = some (.map (some bm))) (h3 : w.cell? ⟨m, 3, none⟩ = some (.int .i64 0)) (hm : MapIs w bm F n) (hn : n ≤ 1048576) :
    Calls Try.prog 12 #[.pointer (some ⟨m, 0, none⟩)] w fun e w' => e = .returned (.int .i64 (512 * n)) ∧ ∃ d, w' = w.drewN d := by
  go_enter Try.func12, Try.ntmps12
  go_wp2_with (go_at_call 27; refine (used_any m bm n F _ h1 h3 hm hn).mono ?_; rintro e w' ⟨rfl, d, rfl⟩)
  go_ret
  exact ⟨rfl, _, rfl⟩

theorem newMem_any (c : Int) (w : World) :
    Calls Try.prog 25 #[.int .i64 c] w fun e w' => e = .returned (.pointer (some ⟨w.heap.size + 2, 0, none⟩)) ∧ w' = ((w.alloc (.map #[] 0)).alloc (.map #[] 0)).alloc (.cells (memCells c w.heap.size (w.heap.size + 1)) 64) := by
  have hmm := @run_makeMap Try.prog
  go_enter Try.func25, Try.ntmps25
  go_wp2
  go_ret
  exact ⟨rfl, rfl⟩

theorem zznewMem_any (c : Int) (w : World) :
    Calls Try.prog 9 #[.int .i64 c] w fun e w' => e = .returned (.pointer (some ⟨w.heap.size + 2, 0, none⟩)) ∧ w' = ((w.alloc (.map #[] 0)).alloc (.map #[] 0)).alloc (.cells (memCells c w.heap.size (w.heap.size + 1)) 64) := by
  go_enter Try.func9, Try.ntmps9
  go_wp2_with (go_at_call 25; refine (newMem_any _ _).mono ?_; rintro e w' ⟨rfl, rfl⟩)
  go_ret
  exact ⟨rfl, rfl⟩

theorem newReq_any (p : Int) (hash blocks : Value) (ha : Option Addr) (hl hcap : Nat) (hh : hash = .slice ha hl hcap) (ba : Option Addr) (bl bcap : Nat) (hb : blocks = .slice ba bl bcap) (w : World) :
    Calls Try.prog 10 #[.int .i64 p, .int .i64 1, hash, blocks] w fun e w' => e = .returned (.pointer (some ⟨w.heap.size, 0, none⟩)) ∧ w' = w.alloc (.cells (reqCells p hash blocks (.slice none 0 0) false 0) 51) := by
  subst hh hb
  go_enter Try.func10, Try.ntmps10
  go_wp2
  go_ret
  exact ⟨rfl, rfl⟩

theorem reqHeld_any (r : Nat) (a : Option Addr) (l cp : Nat) (w : World) (h5 : w.cell? ⟨r, 5, none⟩ = some (.slice a l cp)) :
    Calls Try.prog 23 #[.pointer (some ⟨r, 0, none⟩)] w fun e w' => e = .returned (.slice a l cp) ∧ w' = w := by
  go_enter Try.func23, Try.ntmps23
  go_wp2
  go_ret
  exact ⟨rfl, rfl⟩
theorem blockID_any (b : Nat) (id : Int) (w : World) (h0 : w.cell? ⟨b, 0, none⟩ = some (.int .u64 id)) :
    Calls Try.prog 28 #[.pointer (some ⟨b, 0, none⟩)] w fun e w' => e = .returned (.int .u64 id) ∧ w' = w := by
  go_enter Try.func28, Try.ntmps28
  go_wp2
  go_ret
  exact ⟨rfl, rfl⟩
theorem blockHolders_any (b : Nat) (h : Int) (w : World) (h1 : w.cell? ⟨b, 1, none⟩ = some (.int .i64 h)) :
    Calls Try.prog 29 #[.pointer (some ⟨b, 0, none⟩)] w fun e w' => e = .returned (.int .i64 h) ∧ w' = w := by
  go_enter Try.func29, Try.ntmps29
  go_wp2
  go_ret
  exact ⟨rfl, rfl⟩
theorem hold_any (m b : Nat) (h : Int) (w : World) (h1 : w.cell? ⟨b, 1, none⟩ = some (.int .i64 h)) (f1 : w.frozen? ⟨b, 1, none⟩ = false) (hp : 1 ≤ h) (hq : h ≤ 1048576) :
    Calls Try.prog 35 #[.pointer (some ⟨m, 0, none⟩), .pointer (some ⟨b, 0, none⟩)] w fun e w' => e = .returned (.tuple #[]) ∧ w' = w.setCell ⟨b, 1, none⟩ (.int .i64 (h + 1)) := by
  have hz : (h == 0) = false := by simp; omega
  go_enter Try.func35, Try.ntmps35
  go_wp2
  go_end0
  exact ⟨rfl, rfl⟩

end Go.Proofs.Qxb6614494a
