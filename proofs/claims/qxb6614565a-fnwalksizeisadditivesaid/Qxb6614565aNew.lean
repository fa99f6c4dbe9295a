import Derived.Test.Qxb6614565aAny
namespace Go.Proofs.Qxb6614565a
open Go.RowKit
set_option linter.unusedVariables false

/-- what lies at block b: a walk of these capacities -/
def IsWalk (w : World) (b s t k p r : Nat) : Prop :=
  ∃ x1 x2 x3 x4 x5 : Option Addr, w.cell? ⟨b, 1, none⟩ = some (.slice x1 0 s) ∧ w.cell? ⟨b, 3, none⟩ = some (.slice x2 0 t) ∧ w.cell? ⟨b, 4, none⟩ = some (.slice x3 0 k) ∧ w.cell? ⟨b, 7, none⟩ = some (.slice x4 0 p) ∧ w.cell? ⟨b, 8, none⟩ = some (.slice x5 0 r)

theorem IsWalk.grown {w w' : World} {b s t k p r : Nat} (h : IsWalk w b s t k p r) (hc : ∀ (a : Addr) (v : Value), w.cell? a = some v → w'.cell? a = some v) : IsWalk w' b s t k p r := by
  obtain ⟨x1, x2, x3, x4, x5, h1, h2, h3, h4, h5⟩ := h
  exact ⟨x1, x2, x3, x4, x5, hc _ _ h1, hc _ _ h2, hc _ _ h3, hc _ _ h4, hc _ _ h5⟩

def walkCells (x1 x2 x3 x4 x5 : Option Addr) (s t k p r : Nat) : Array Value :=
  #[.pointer none, .slice x1 0 s, .int .u32 0, .slice x2 0 t, .slice x3 0 k, .slice none 0 0, .slice none 0 0, .slice x4 0 p, .slice x5 0 r]

/-- what operation number i leaves in its slot -/
def Left5 (s t k p r : Nat) (i : Nat) (v : Value) (w : World) : Prop :=
  match i with
  | 0 => v = .int .i64 s
  | 1 => ∃ x, v = .slice x 0 s
  | 2 => v = .int .i64 t
  | 3 => ∃ x, v = .slice x 0 t
  | 4 => v = .int .i64 k
  | 5 => ∃ x, v = .slice x 0 k
  | 6 => v = .int .i64 p
  | 7 => ∃ x, v = .slice x 0 p
  | 8 => v = .int .i64 r
  | 9 => ∃ x, v = .slice x 0 r
  | 10 => ∃ x1 x2 x3 x4 x5, v = .agg (walkCells x1 x2 x3 x4 x5 s t k p r)
  | 11 => ∃ b, v = .pointer (some ⟨b, 0, none⟩) ∧ IsWalk w b s t k p r
  | _ => ∃ b, v = .pointer (some ⟨b, 0, none⟩) ∧ IsWalk w b s t k p r
def dst5 (i : Nat) : Nat := if i = 12 then 10 else i + 11

theorem Left5.grown {s t k p r i : Nat} {v : Value} {w w' : World} (h : Left5 s t k p r i v w) (hc : ∀ (a : Addr) (v : Value), w.cell? a = some v → w'.cell? a = some v) : Left5 s t k p r i v w' := by
  unfold Left5 at *
  split at h <;> first | exact h | (obtain ⟨b, e, hw⟩ := h; exact ⟨b, e, hw.grown hc⟩)

structure Inv5 (w0 : World) (s t k p r : Nat) (listed : Array Bool) (a : Act) (w : World) : Prop where
  size : a.tmps.size = 23
  defers : a.defers = []
  a0 : a.eval (.tmp 0) = .int .i64 s
  a1 : a.eval (.tmp 1) = .int .i64 t
  a2 : a.eval (.tmp 2) = .int .i64 k
  a3 : a.eval (.tmp 3) = .int .i64 p
  a4 : a.eval (.tmp 4) = .int .i64 r
  grown : Grown w0 w
  each : ∀ i, i < 13 → listed.getD i true = true → Left5 s t k p r i (a.eval (.tmp (dst5 i))) w

theorem Inv5.step {w0 w w' : World} {s t k p r : Nat} {listed : Array Bool} {a : Act} (h : Inv5 w0 s t k p r listed a w) {i : Nat} (hi : i < 13) {v : Value} (hg : w' = w ∨ ∃ c t, w' = w.alloc (.cells c t)) (hv : Left5 s t k p r i v w') :
    Inv5 w0 s t k p r (listed.setIfInBounds i true) (a.put (some (dst5 i)) v) w' := by
  have hd : 10 ≤ dst5 i ∧ dst5 i ≤ 22 := by unfold dst5; split <;> omega
  have hc : ∀ (a : Addr) (v : Value), w.cell? a = some v → w'.cell? a = some v := by
    intro a v ha
    rcases hg with rfl | ⟨c, t, rfl⟩
    · exact ha
    · exact (World.cell?_of_block (Below.heap_alloc _ _ _ (World.block_lt_of_cell? w a ha))).trans ha
  refine ⟨by simp [Act.put, h.size], h.defers, ?_, ?_, ?_, ?_, ?_, ?_, fun j hj hL => ?_⟩
  · rw [eval_other _ (by omega)]; exact h.a0
  · rw [eval_other _ (by omega)]; exact h.a1
  · rw [eval_other _ (by omega)]; exact h.a2
  · rw [eval_other _ (by omega)]; exact h.a3
  · rw [eval_other _ (by omega)]; exact h.a4
  · rcases hg with rfl | ⟨c, t, rfl⟩
    · exact h.grown
    · exact h.grown.alloc c t
  · by_cases e : j = i
    · subst e
      rw [eval_same _ (by rw [h.size]; omega)]
      exact hv
    · rw [getD_set_ne true (fun h => e h.symm)] at hL
      rw [eval_other _ (by unfold dst5; split <;> split <;> omega)]
      exact (h.each j hj hL).grown hc

theorem exec_make {P : Program} {ρ : Operand → Value} {o : Oper} {t : TypeId} {l c : Operand} (h : o.op = .makeSlice t l c) {v : Value} {w w' : World} (hr : (Instr.makeSlice t (ρ l) (ρ c)).run P w = .ok v w') : (execOp ρ o).run P w = .ok (.value v) w' := by
  unfold execOp; rw [h]; simp [hr]
theorem zero65 (w : World) : (zeroValue 65).run Try.prog w = .ok (.agg (walkCells none none none none none 0 0 0 0 0)) w := by kernel_rfl
theorem exec_build {ρ : Operand → Value} {o : Oper} (h : o.op = .build 65 #[(1, .tmp 12), (3, .tmp 14), (4, .tmp 16), (7, .tmp 18), (8, .tmp 20)]) (w : World) {x1 x2 x3 x4 x5 : Option Addr} {s t k p r : Nat}
    (h1 : ρ (.tmp 12) = .slice x1 0 s) (h2 : ρ (.tmp 14) = .slice x2 0 t) (h3 : ρ (.tmp 16) = .slice x3 0 k) (h4 : ρ (.tmp 18) = .slice x4 0 p) (h5 : ρ (.tmp 20) = .slice x5 0 r) :
    (execOp ρ o).run Try.prog w = .ok (.value (.agg (walkCells x1 x2 x3 x4 x5 s t k p r))) w := by
  unfold execOp; rw [h]; simp [go_sem, h1, h2, h3, h4, h5, walkCells]
theorem exec_box {ρ : Operand → Value} {o : Oper} (h : o.op = .box 65 (.tmp 21)) (w : World) {cs : Array Value} (h1 : ρ (.tmp 21) = .agg cs) :
    (execOp ρ o).run Try.prog w = .ok (.value (.pointer (some ⟨w.heap.size, 0, none⟩))) (w.alloc (.cells cs 65)) := by
  unfold execOp; rw [h]; simp [go_sem, h1]

set_option maxHeartbeats 4000000 in
theorem new_any (s t k p r : Nat) (w : World) (hs : s ≤ 65536) (ht : t ≤ 65536) (hk : k ≤ 65536) (hp : p ≤ 65536) (hr : r ≤ 65536) :
    Calls Try.prog 11 #[.int .i64 s, .int .i64 t, .int .i64 k, .int .i64 p, .int .i64 r] w fun e w' => ∃ b, e = .returned (.pointer (some ⟨b, 0, none⟩)) ∧ IsWalk w' b s t k p r ∧ Grown w w' := by
  go_enter Try.func11, Try.ntmps11
  go_wp2
  refine wp_region_any (by kernel_rfl) ?_
  refine wpAny_inv (Inv5 w s t k p r) ?_ ?_ ?_ _ _ _ _ ?_ ?_ ?_
  · intro listed a w1 i o hsz hI ho hL hE
    have hi : i < 13 := by simpa using (Array.getElem?_eq_some_iff.1 ho).1
    obtain rfl | rfl | rfl | rfl | rfl | rfl | rfl | rfl | rfl | rfl | rfl | rfl | rfl : i = 0 ∨ i = 1 ∨ i = 2 ∨ i = 3 ∨ i = 4 ∨ i = 5 ∨ i = 6 ∨ i = 7 ∨ i = 8 ∨ i = 9 ∨ i = 10 ∨ i = 11 ∨ i = 12 := by omega
    · simp at ho
      subst ho
      refine wpOp_of rfl rfl ?_
      unfold Oper.wp
      rw [BigFrame.run_move (.tmp 0) rfl]
      exact hI.step (i := 0) (by omega) (.inl rfl) hI.a0
    · simp at ho
      subst ho
      have e1 : a.eval (.tmp 11) = .int .i64 s := hI.each 0 (by omega) (hE ⟨0, .data⟩ (by simp) rfl)
      refine wpOp_of rfl rfl ?_
      unfold Oper.wp
      rw [exec_make (P := Try.prog) (ρ := a.eval) rfl (by rw [e1]; exact mk60 s hs w1)]
      exact hI.step (i := 1) (by omega) (.inr ⟨_, _, rfl⟩) ⟨_, rfl⟩
    · simp at ho
      subst ho
      refine wpOp_of rfl rfl ?_
      unfold Oper.wp
      rw [BigFrame.run_move (.tmp 1) rfl]
      exact hI.step (i := 2) (by omega) (.inl rfl) hI.a1
    · simp at ho
      subst ho
      have e1 : a.eval (.tmp 13) = .int .i64 t := hI.each 2 (by omega) (hE ⟨2, .data⟩ (by simp) rfl)
      refine wpOp_of rfl rfl ?_
      unfold Oper.wp
      rw [exec_make (P := Try.prog) (ρ := a.eval) rfl (by rw [e1]; exact mk60 t ht w1)]
      exact hI.step (i := 3) (by omega) (.inr ⟨_, _, rfl⟩) ⟨_, rfl⟩
    · simp at ho
      subst ho
      refine wpOp_of rfl rfl ?_
      unfold Oper.wp
      rw [BigFrame.run_move (.tmp 2) rfl]
      exact hI.step (i := 4) (by omega) (.inl rfl) hI.a2
    · simp at ho
      subst ho
      have e1 : a.eval (.tmp 15) = .int .i64 k := hI.each 4 (by omega) (hE ⟨4, .data⟩ (by simp) rfl)
      refine wpOp_of rfl rfl ?_
      unfold Oper.wp
      rw [exec_make (P := Try.prog) (ρ := a.eval) rfl (by rw [e1]; exact mk60 k hk w1)]
      exact hI.step (i := 5) (by omega) (.inr ⟨_, _, rfl⟩) ⟨_, rfl⟩
    · simp at ho
      subst ho
      refine wpOp_of rfl rfl ?_
      unfold Oper.wp
      rw [BigFrame.run_move (.tmp 3) rfl]
      exact hI.step (i := 6) (by omega) (.inl rfl) hI.a3
    · simp at ho
      subst ho
      have e1 : a.eval (.tmp 17) = .int .i64 p := hI.each 6 (by omega) (hE ⟨6, .data⟩ (by simp) rfl)
      refine wpOp_of rfl rfl ?_
      unfold Oper.wp
      rw [exec_make (P := Try.prog) (ρ := a.eval) rfl (by rw [e1]; exact mk44 p hp w1)]
      exact hI.step (i := 7) (by omega) (.inr ⟨_, _, rfl⟩) ⟨_, rfl⟩
    · simp at ho
      subst ho
      refine wpOp_of rfl rfl ?_
      unfold Oper.wp
      rw [BigFrame.run_move (.tmp 4) rfl]
      exact hI.step (i := 8) (by omega) (.inl rfl) hI.a4
    · simp at ho
      subst ho
      have e1 : a.eval (.tmp 19) = .int .i64 r := hI.each 8 (by omega) (hE ⟨8, .data⟩ (by simp) rfl)
      refine wpOp_of rfl rfl ?_
      unfold Oper.wp
      rw [exec_make (P := Try.prog) (ρ := a.eval) rfl (by rw [e1]; exact mk61 r hr w1)]
      exact hI.step (i := 9) (by omega) (.inr ⟨_, _, rfl⟩) ⟨_, rfl⟩
    · simp at ho
      subst ho
      obtain ⟨x1, e1⟩ := hI.each 1 (by omega) (hE ⟨1, .data⟩ (by simp) rfl)
      obtain ⟨x2, e2⟩ := hI.each 3 (by omega) (hE ⟨3, .data⟩ (by simp) rfl)
      obtain ⟨x3, e3⟩ := hI.each 5 (by omega) (hE ⟨5, .data⟩ (by simp) rfl)
      obtain ⟨x4, e4⟩ := hI.each 7 (by omega) (hE ⟨7, .data⟩ (by simp) rfl)
      obtain ⟨x5, e5⟩ := hI.each 9 (by omega) (hE ⟨9, .data⟩ (by simp) rfl)
      refine wpOp_of rfl rfl ?_
      unfold Oper.wp
      rw [exec_build (ρ := a.eval) rfl w1 e1 e2 e3 e4 e5]
      exact hI.step (i := 10) (by omega) (.inl rfl) ⟨_, _, _, _, _, rfl⟩
    · simp at ho
      subst ho
      obtain ⟨x1, x2, x3, x4, x5, e1⟩ := hI.each 10 (by omega) (hE ⟨10, .data⟩ (by simp) rfl)
      refine wpOp_of rfl rfl ?_
      unfold Oper.wp
      rw [exec_box (ρ := a.eval) rfl w1 e1]
      exact hI.step (i := 11) (by omega) (.inr ⟨_, _, rfl⟩) ⟨_, rfl, x1, x2, x3, x4, x5, by simp [walkCells], by simp [walkCells], by simp [walkCells], by simp [walkCells], by simp [walkCells]⟩
    · simp at ho
      subst ho
      obtain ⟨b, e1, hb⟩ := hI.each 11 (by omega) (hE ⟨11, .data⟩ (by simp) rfl)
      refine wpOp_of rfl rfl ?_
      unfold Oper.wp
      rw [BigFrame.run_assign (.tmp 22) rfl]
      exact hI.step (i := 12) (by omega) (.inl rfl) ⟨b, e1, hb⟩
  · intro i o ho
    have hi : i < 13 := by simpa using (Array.getElem?_eq_some_iff.1 ho).1
    obtain rfl | rfl | rfl | rfl | rfl | rfl | rfl | rfl | rfl | rfl | rfl | rfl | rfl : i = 0 ∨ i = 1 ∨ i = 2 ∨ i = 3 ∨ i = 4 ∨ i = 5 ∨ i = 6 ∨ i = 7 ∨ i = 8 ∨ i = 9 ∨ i = 10 ∨ i = 11 ∨ i = 12 := by omega
    all_goals
      simp at ho
      subst ho
      simp
  · intro listed a w1 hI hall
    obtain ⟨b, e1, hb⟩ := hI.each 12 (by omega) (hall 12 (by simp))
    rename_i hK
    refine hK _ _ ?_
    refine wp_ret ?_
    refine bodyPost_ret (v := .pointer (some ⟨b, 0, none⟩)) ?_ hI.defers ⟨b, rfl, hb, hI.grown⟩
    rw [← e1]
    exact results_tmp rfl _ _ _
  · simp
  · exact Nat.le_trans (by decide) (Nat.le_refl _)
  · exact ⟨rfl, rfl, rfl, rfl, rfl, rfl, rfl, Grown.refl _, fun i hi hL => absurd (show (Array.replicate 13 false).getD i true = true from hL) (by simp [hi])⟩

end Go.Proofs.Qxb6614565a
