import Derived.Test.Qxb6614494aHeld
namespace Go.Proofs.Qxb6614494a
open Go.RowKit Go.Maps
set_option linter.unusedVariables false

/-! ### nothing that was there has turned -/
def Grew (w w' : World) : Prop := Turned (fun _ => False) w w'
namespace Grew
variable {w w' w'' : World}
theorem refl (w : World) : Grew w w := Turned.refl _ _
theorem trans (h : Grew w w') (k : Grew w' w'') : Grew w w'' := Turned.trans h k
theorem drewN (w : World) (n : Nat) : Grew w (w.drewN n) := Turned.drewN _ _ _
theorem heap (h : Grew w w') {b : Nat} {o : Obj} (hb : w.heap[b]? = some o) : w'.heap[b]? = some o := (h.block b (ltOf hb) (fun e => e)).trans hb
theorem row (h : Grew w w') {b : Nat} {t : TypeId} {n : Nat} {f : Nat → Value} (hb : w.rowIs b t n f) : w'.rowIs b t n f := by
  obtain ⟨cs, hrb⟩ := row_block hb
  exact hb.of_block ((h.heap hrb).trans hrb.symm)
theorem mem (h : Grew w w') {m bm bs n : Nat} {c : Int} {F : Int → Option Nat} {hc : Int → Int} (hm : Mem w m c bm bs F n hc) : Mem w' m c bm bs F n hc := hm.keep h (fun e => e) (fun e => e) (fun _ _ _ e => e)
theorem cell (h : Grew w w') {a : Addr} {v : Value} (hc : w.cell? a = some v) : w'.cell? a = some v :=
  (World.cell?_of_block (h.block a.block (World.block_lt_of_cell? w a hc) (fun e => e))).trans hc
theorem below (h : Grew w w') : Below w.heap.size w w' := Turned.below h (Nat.le_refl _) (fun _ e => e.elim)
end Grew

theorem clone_abs (f : Nat → Int) (b off n cap : Nat) (w : World) (hn : n ≤ 1048576) (hb : b < w.heap.size) (hc : ∀ k, k < n → w.cell? ⟨b, off + k, none⟩ = some (.int .u64 (f k))) :
    Calls Try.prog 8 #[.slice (some ⟨b, off, none⟩) n cap] w fun e w' => ∃ s, e = .returned (.slice (some ⟨s, 0, none⟩) n n) ∧ w'.rowIs s 48 n (fun i => .int .u64 (f i)) ∧ Grew w w' ∧ w.heap.size ≤ s :=
  (clone_any f b off n cap w hn hb hc).mono fun e w' ⟨he, hr, hb, hs⟩ => ⟨_, he, hr, Turned.ofBelow hb (fun k hk _ => hk), Nat.le_refl _⟩

theorem clone_row (f : Nat → Int) (b n cap : Nat) (w : World) (hn : n ≤ 1048576) (hr : w.rowIs b 48 n (fun i => .int .u64 (f i))) :
    Calls Try.prog 8 #[.slice (some ⟨b, 0, none⟩) n cap] w fun e w' => ∃ s, e = .returned (.slice (some ⟨s, 0, none⟩) n n) ∧ w'.rowIs s 48 n (fun i => .int .u64 (f i)) ∧ Grew w w' ∧ w.heap.size ≤ s :=
  clone_abs f b 0 n cap w hn hr.lt (fun k hk => by rw [Nat.zero_add]; exact hr.cell hk)

theorem mem_new (c : Int) (w w' : World) (hw : w' = ((w.alloc (.map #[] 0)).alloc (.map #[] 0)).alloc (.cells (memCells c w.heap.size (w.heap.size + 1)) 64)) :
    Mem w' (w.heap.size + 2) c w.heap.size (w.heap.size + 1) (fun _ => none) 0 (fun _ => 0) ∧ Grew w w' := by
  subst hw
  refine ⟨⟨?_, ?_, fun _ _ h => by cases h⟩, ?_⟩
  · have := heap_alloc_new ((w.alloc (.map #[] 0)).alloc (.map #[] 0)) (.cells (memCells c w.heap.size (w.heap.size + 1)) 64)
    simpa using this
  · have h := MapIs.made w
    refine h.of_block ?_
    rw [Below.heap_alloc _ _ _ (by simp; omega), Below.heap_alloc _ _ _ (by simp)]
  · exact ((Turned.alloc w _ _).trans (Turned.alloc _ _ _)).trans (Turned.alloc _ _ _)

theorem newMem_abs (c : Int) (w : World) :
    Calls Try.prog 25 #[.int .i64 c] w fun e w' => ∃ m bm bs, e = .returned (.pointer (some ⟨m, 0, none⟩)) ∧ Mem w' m c bm bs (fun _ => none) 0 (fun _ => 0) ∧ Grew w w' ∧ w.heap.size ≤ m ∧ w.heap.size ≤ bm :=
  (newMem_any c w).mono fun e w' ⟨he, hw⟩ => ⟨_, _, _, he, (mem_new c w w' hw).1, (mem_new c w w' hw).2, by omega, Nat.le_refl _⟩
theorem zznewMem_abs (c : Int) (w : World) :
    Calls Try.prog 9 #[.int .i64 c] w fun e w' => ∃ m bm bs, e = .returned (.pointer (some ⟨m, 0, none⟩)) ∧ Mem w' m c bm bs (fun _ => none) 0 (fun _ => 0) ∧ Grew w w' ∧ w.heap.size ≤ m ∧ w.heap.size ≤ bm :=
  (zznewMem_any c w).mono fun e w' ⟨he, hw⟩ => ⟨_, _, _, he, (mem_new c w w' hw).1, (mem_new c w w' hw).2, by omega, Nat.le_refl _⟩

theorem newReq_abs (p : Int) (ha : Option Addr) (hl hcap : Nat) (ba : Option Addr) (bl bcap : Nat) (w : World) :
    Calls Try.prog 10 #[.int .i64 p, .int .i64 1, .slice ha hl hcap, .slice ba bl bcap] w fun e w' => ∃ r, e = .returned (.pointer (some ⟨r, 0, none⟩)) ∧
      w'.heap[r]? = some (.cells (reqCells p (.slice ha hl hcap) (.slice ba bl bcap) (.slice none 0 0) false 0) 51 (0, 0)) ∧ Grew w w' ∧ w.heap.size ≤ r :=
  (newReq_any p _ _ ha hl hcap rfl ba bl bcap rfl w).mono fun e w' ⟨he, hw⟩ => ⟨_, he, by rw [hw]; exact heap_alloc_new w _, by rw [hw]; exact Turned.alloc w _ _, Nat.le_refl _⟩

theorem zzAdmit {P Q : Value} {w : World} {x : Bool} {R : World → Prop} (hP : ∃ a, P = .pointer (some a)) (hQ : ∃ a, Q = .pointer (some a)) (h : Calls Try.prog 26 #[P, Q] w fun e w' => e = .returned (.bool x) ∧ R w') : Calls Try.prog 11 #[P, Q] w fun e w' => e = .returned (.bool x) ∧ R w' := by
  obtain ⟨a, rfl⟩ := hP
  obtain ⟨b, rfl⟩ := hQ
  go_enter Try.func11, Try.ntmps11
  go_wp2_with (go_at_call 26; refine h.mono ?_; rintro e w' ⟨rfl, hR⟩)
  go_ret
  exact ⟨rfl, hR⟩

theorem used_mem (m bm bs n : Nat) (c : Int) (F : Int → Option Nat) (hc : Int → Int) (w : World) (h : Mem w m c bm bs F n hc) (hn : n ≤ 1048576) :
    Calls Try.prog 12 #[.pointer (some ⟨m, 0, none⟩)] w fun e w' => e = .returned (.int .i64 (512 * n)) ∧ Grew w w' :=
  (memUsed_any m bm n F w h.c1 h.c3 h.map hn).mono fun e w' ⟨he, d, hw⟩ => ⟨he, by rw [hw]; exact Grew.drewN w d⟩

end Go.Proofs.Qxb6614494a
