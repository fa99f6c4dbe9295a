import Derived.Test.Qxb6614494aSrv
namespace Go.Proofs.Qxb6614494a
open Go.RowKit Go.Maps
set_option linter.unusedVariables false

set_option maxHeartbeats 1000000 in
theorem newServer_any (kv : Int) (w : World) :
    Calls Try.prog 18 #[.agg #[.int .i64 2, .int .i64 2048, .int .i64 kv]] w fun e w' => ∃ sv m bm bs, e = .returned (.pointer (some ⟨sv, 0, none⟩)) ∧ w'.heap[sv]? = some (.cells (srvCells kv m (.slice none 0 0)) 58 (0, 0)) ∧ Mem w' m kv bm bs (fun _ => none) 0 (fun _ => 0) ∧ Grew w w' ∧ w.heap.size ≤ sv ∧ w.heap.size ≤ m ∧ w.heap.size ≤ bm := by
  go_enter Try.func18, Try.ntmps18
  go_wp2
  go_region_with (go_at_call 25; refine (newMem_abs _ _).mono ?_; rintro e w' ⟨m, bm, bs, rfl, hM, g1, hm, hbm⟩; have k0 : w'.cell? ⟨w.heap.size, 0, none⟩ = some (.int .i64 2) := g1.cell (by simp); have k1 : w'.cell? ⟨w.heap.size, 1, none⟩ = some (.int .i64 2048) := g1.cell (by simp); have k2 : w'.cell? ⟨w.heap.size, 2, none⟩ = some (.int .i64 kv) := g1.cell (by simp))
  all_goals
    go_wp2
    go_ret
    have g0 : Grew w (w.alloc (.cells #[.int .i64 2, .int .i64 2048, .int .i64 kv] 39)).drew := (Turned.alloc w _ _).trans (Turned.drew _ _)
    have gA : Grew w' (w'.alloc (.cells (srvCells kv m (.slice none 0 0)) 58)) := Turned.alloc w' _ _
    have z0 := g0.size
    have z1 := g1.size
    exact ⟨w'.heap.size, m, bm, bs, rfl, heap_alloc_new w' _, gA.mem hM, (g0.trans g1).trans gA, by omega, by omega, by omega⟩

end Go.Proofs.Qxb6614494a
