import Derived.Test.Qxb6614494aSrvSteps
namespace Go.Proofs.Qxb6614494a
open Go.RowKit Go.Maps
set_option linter.unusedVariables false

theorem srvAdmit_no (base : Nat) (w : World) (sv m bm bs n r rh rb k hcap kc j cp : Nat) (kv p : Int) (F : Int → Option Nat) (hc : Int → Int) (f : Nat → Int) (ao : Option Addr) (xs : List Value)
    (hM : Mem w m kv bm bs F n hc) (hS : Srv base w sv kv m ao j cp xs) (hR : w.heap[r]? = some (.cells (reqCells p (.slice (some ⟨rh, 0, none⟩) k hcap) (.slice (some ⟨rb, 0, none⟩) k kc) (.slice none 0 0) false 0) 51 (0, 0)))
    (hB : w.rowIs rb 48 k (fun i => .int .u64 (f i))) (hwf : ∀ i, i < k → (Lit.int .u64 (f i)).wf = true) (hD : Dist f k) (hcb : ∀ id b, F id = some b → 1 ≤ hc id ∧ hc id ≤ 1000)
    (hk0 : 0 < k) (hk : k ≤ 4096) (hn : n ≤ 4096) (hno : kv < 512 * (n : Int) + (512 * (freshN F f k : Int) + 1)) (hc63 : -9223372036854775808 ≤ kv ∧ kv ≤ 9223372036854775807) :
    Calls Try.prog 30 #[.pointer (some ⟨sv, 0, none⟩), .pointer (some ⟨r, 0, none⟩)] w fun e w' => e = .returned (.bool false) ∧ Grew w w' := by
  have s5 : w.cell? ⟨sv, 5, none⟩ = some (.pointer (some ⟨m, 0, none⟩)) := cellOf hS.blk 5 rfl
  have key := admit_no w m bm bs n r rb k kc kv p 0 F hc _ f false hM hR hB hwf hD hcb hk0 hk hn hno hc63
  have HK := key
  clear key hM hS hR hB hwf hD hcb hno
  go_enter Try.func30, Try.ntmps30
  go_wp2_with fail
  refine HK.mono ?_
  rintro e w' ⟨rfl, d, rfl⟩
  clear HK
  go_wp2
  go_ret
  exact ⟨rfl, Grew.drewN w d⟩

set_option maxRecDepth 100000 in
set_option maxHeartbeats 2000000 in
theorem srvAdmit_yes (base : Nat) (w : World) (sv m bm bs n r rh rb k hcap kc j cp : Nat) (kv p : Int) (F : Int → Option Nat) (hc : Int → Int) (f : Nat → Int) (ao : Option Addr) (xs : List Value)
    (hM : Mem w m kv bm bs F n hc) (hS : Srv base w sv kv m ao j cp xs) (hR : w.heap[r]? = some (.cells (reqCells p (.slice (some ⟨rh, 0, none⟩) k hcap) (.slice (some ⟨rb, 0, none⟩) k kc) (.slice none 0 0) false 0) 51 (0, 0)))
    (hB : w.rowIs rb 48 k (fun i => .int .u64 (f i))) (hH : w.rowIs rh 48 k (fun i => .int .u64 (f i))) (hwf : ∀ i, i < k → (Lit.int .u64 (f i)).wf = true) (hD : Dist f k) (hcb : ∀ id b, F id = some b → 1 ≤ hc id ∧ hc id ≤ 1000)
    (hk0 : 0 < k) (hk : k ≤ 4096) (hn : n ≤ 4096) (hyes : 512 * (n : Int) + (512 * (freshN F f k : Int) + 1) ≤ kv) (hc63 : -9223372036854775808 ≤ kv ∧ kv ≤ 9223372036854775807)
    (hp1 : 1 ≤ p) (hp2 : p ≤ 1073741824) (hj : j ≤ 1048576) (hbase : base ≤ w.heap.size) :
    Calls Try.prog 30 #[.pointer (some ⟨sv, 0, none⟩), .pointer (some ⟨r, 0, none⟩)] w fun e w' => e = .returned (.bool true) ∧ ∃ F' ao' cp', Took base w w' sv m bm bs n r kv p F hc k f ao j cp xs F' ao' cp' := by
  have s5 : w.cell? ⟨sv, 5, none⟩ = some (.pointer (some ⟨m, 0, none⟩)) := cellOf hS.blk 5 rfl
  have HK := admit_yes w m bm bs n r rb k kc kv p 0 F hc _ f false hM hR hB hwf hD hcb hk0 hk hn hyes hc63
  have hw0 := hwf 0 hk0
  have kd : ∀ (b : Nat) (o : Obj), w.heap[b]? = some o → (∀ cs z, o ≠ .cells cs 64 z) → (∀ cs z, o ≠ .cells cs 51 z) → (∀ es z, o ≠ .map es z) → (∀ cs z, o ≠ .cells cs 66 z) → ¬ (b = m ∨ b = r ∨ b = bm ∨ ∃ id, F id = some b) := by
    rintro b o hb h1 h2 h3 h4 (rfl | rfl | rfl | ⟨id, e⟩)
    · exact h1 _ _ (by simpa using hb.symm.trans hM.blk)
    · exact h2 _ _ (by simpa using hb.symm.trans hR)
    · obtain ⟨es, clk, hmp⟩ := hM.map.isMapBlock
      exact h3 _ _ (by simpa using hb.symm.trans hmp)
    · exact h4 _ _ (by simpa using hb.symm.trans (hM.each id b e))
  have KD : Hid (∀ (b : Nat) (o : Obj), w.heap[b]? = some o → (∀ cs z, o ≠ .cells cs 64 z) → (∀ cs z, o ≠ .cells cs 51 z) → (∀ es z, o ≠ .map es z) → (∀ cs z, o ≠ .cells cs 66 z) → ¬ (b = m ∨ b = r ∨ b = bm ∨ ∃ id, F id = some b)) := kd
  clear kd hM hR hB hwf hD hcb hyes
  go_enter Try.func30, Try.ntmps30
  go_wp2_with fail
  refine HK.mono ?_
  rintro e w1 ⟨rfl, g0, cap0, F', h4⟩
  clear HK
  have hS1 : Srv base w1 sv kv m ao j cp xs := hS.keep h4.turned (KD.out sv _ hS.blk (by simp) (by simp) (by simp) (by simp)) (fun b hb cs z e => KD.out b _ e (by simp) (by simp) (by simp) (by simp) hb)
  have hH1 : w1.rowIs rh 48 k (fun i => .int .u64 (f i)) := by
    obtain ⟨cs, hb⟩ := row_block hH
    exact hH.of_block (h4.turned.block rh (ltOf hb) (KD.out rh _ hb (by simp) (by simp) (by simp) (by simp)))
  have hbase1 : base ≤ w1.heap.size := Nat.le_trans hbase h4.turned.size
  have s5' : w1.cell? ⟨sv, 5, none⟩ = some (.pointer (some ⟨m, 0, none⟩)) := cellOf hS1.blk 5 rfl
  have r3 : w1.cell? ⟨r, 3, none⟩ = some (.slice (some ⟨rh, 0, none⟩) k hcap) := cellOf h4.req 3 rfl
  have r1 : w1.cell? ⟨r, 1, none⟩ = some (.int .i64 p) := cellOf h4.req 1 rfl
  have b2 : w1.cell? ⟨blOf F' f 0, 2, none⟩ = some (.bool false) := cellOf (h4.mem.each _ _ (h4.isIn hk0)) 2 rfl
  clear KD hS hH s5 hbase
  go_wp2_with fail
  refine (cached_any w1 m bm _ r rh k hcap (blOf F' f 0) F' p (f 0) h4.mem.c1 h4.mem.map hw0 (h4.isIn hk0) r3 (hH1.cell hk0) hk0 hk r1 hp1 hp2 b2).mono ?_
  rintro e w2 ⟨rfl, rfl⟩
  have r6 : w1.cell? ⟨r, 6, none⟩ = some (.bool false) := cellOf h4.req 6 rfl
  have r7 : w1.cell? ⟨r, 7, none⟩ = some (.int .i64 0) := cellOf h4.req 7 rfl
  have f6 : w1.frozen? ⟨r, 6, none⟩ = false := freeOf h4.req 6
  have f7 : w1.frozen? ⟨r, 7, none⟩ = false := freeOf h4.req 7
  clear r3 b2 hH1 s5' hw0
  go_wp2
  obtain ⟨W, hW⟩ : ∃ W, W = (w1.setCell ⟨r, 6, none⟩ (.bool true)).setCell ⟨r, 7, none⟩ (.int .i64 0) := ⟨_, rfl⟩
  rw [← hW]
  have qW : W.heap[r]? = some (.cells (reqCells p (.slice (some ⟨rh, 0, none⟩) k hcap) (.slice (some ⟨rb, 0, none⟩) k kc) (.slice (some ⟨g0, 0, none⟩) k cap0) true 0) 51 (0, 0)) := by
    rw [hW, setOf_same (setOf_same h4.req 6 _)]; rfl
  have tW : Turned (fun b => b = r) w1 W := by
    rw [hW]; exact (Turned.setCell w1 (S := fun b => b = r) (a := ⟨r, 6, none⟩) rfl _).trans (Turned.setCell _ (S := fun b => b = r) (a := ⟨r, 7, none⟩) rfl _)
  have x1 : W.cell? ⟨r, 1, none⟩ = some (.int .i64 p) := cellOf qW 1 rfl
  have x10 : W.cell? ⟨r, 10, none⟩ = some (.int .i64 0) := cellOf qW 10 rfl
  have x8 : W.cell? ⟨r, 8, none⟩ = some (.int .i64 0) := cellOf qW 8 rfl
  have x9 : W.cell? ⟨r, 9, none⟩ = some (.int .i64 0) := cellOf qW 9 rfl
  have y8 : W.frozen? ⟨r, 8, none⟩ = false := freeOf qW 8
  have y9 : W.frozen? ⟨r, 9, none⟩ = false := freeOf qW 9
  clear hW r6 r7 f6 f7 r1
  go_region
  obtain ⟨V, hV⟩ : ∃ V, V = ((W.setCell ⟨r, 8, none⟩ (.int .i64 p)).setCell ⟨r, 9, none⟩ (.int .i64 0)).drew := ⟨_, rfl⟩
  rw [← hV]
  have qV : V.heap[r]? = some (.cells (reqCells p (.slice (some ⟨rh, 0, none⟩) k hcap) (.slice (some ⟨rb, 0, none⟩) k kc) (.slice (some ⟨g0, 0, none⟩) k cap0) true p) 51 (0, 0)) := by
    rw [hV]
    show ((W.setCell ⟨r, 8, none⟩ (.int .i64 p)).setCell ⟨r, 9, none⟩ (.int .i64 0)).heap[r]? = _
    rw [setOf_same (setOf_same qW 8 _)]; rfl
  have tV : Turned (fun b => b = r) w1 V := by
    rw [hV]; exact tW.trans (((Turned.setCell W (S := fun b => b = r) (a := ⟨r, 8, none⟩) rfl _).trans (Turned.setCell _ (S := fun b => b = r) (a := ⟨r, 9, none⟩) rfl _)).trans (Turned.drew _ _))
  have hSV : Srv base V sv kv m ao j cp xs := hS1.keep tV (neOf hS1.blk h4.req (by simp)) (by rintro b rfl cs z e; exact absurd (h4.req.symm.trans e) (by simp))
  have v4 : V.cell? ⟨sv, 4, none⟩ = some (.slice ao j cp) := cellOf hSV.blk 4 rfl
  have hbV : base ≤ V.heap.size := Nat.le_trans hbase1 tV.size
  have hown := hSV.own
  clear hV x1 x10 x8 x9 y8 y9 qW tW hS1
  go_wp2_with (first
    | (at_builtin; refine wpList_append_req V rfl _ _ rfl base ao j cp xs rfl hown (some ⟨r, 0, none⟩) rfl hj hbV ?_; intro g cap w5 hown5 hg5; have c4 : w5.cell? ⟨sv, 4, none⟩ = some (.slice ao j cp) := cellOf (hSV.mid hg5) 4 rfl; have f4 : w5.frozen? ⟨sv, 4, none⟩ = false := freeOf (hSV.mid hg5) 4)
    | go_in)
  go_ret
  exact ⟨rfl, F', _, _, took h4 hSV tV qV hown5 hg5⟩

end Go.Proofs.Qxb6614494a
