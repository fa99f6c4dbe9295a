import Derived.Test.Qxb6614494aLawA
namespace Go.Proofs.Qxb6614494a
open Go.RowKit Go.Maps
set_option linter.unusedVariables false

/-- a fresh memory has judged one request of the k ids f: x: it was admitted -/
def Done (x : Bool) (w : World) (m bm bs r k : Nat) (c : Int) (f : Nat → Int) : Prop :=
  ∃ (F' : Int → Option Nat) (nn : Nat) (hc : Int → Int) (p : Int) (hash blocks held : Value) (adm : Bool) (pf : Int), Mem w m c bm bs F' nn hc ∧ nn ≤ 4096 ∧ (512 * (nn : Int) = if x then 512 * (k : Int) else 0) ∧
    w.heap[r]? = some (.cells (reqCells p hash blocks held adm pf) 51 (0, 0)) ∧ (x = false → held = .slice none 0 0) ∧
    (x = true → ∃ (g cap : Nat) (cur : Array Value), held = .slice (some ⟨g, 0, none⟩) k cap ∧ w.heap[g]? = some (.cells cur 49 (0, 0)) ∧ ∀ i, i < k → F' (f i) = some (blOf F' f i) ∧ hc (f i) = 1 ∧ cur[i]? = some (.pointer (some ⟨blOf F' f i, 0, none⟩)))

theorem Done.keep {x : Bool} {w w' : World} {m bm bs r k : Nat} {c : Int} {f : Nat → Int} {S : Nat → Prop} (h : Done x w m bm bs r k c f) (t : Turned S w w')
    (hS : ∀ b, S b → b ≠ m ∧ b ≠ bm ∧ b ≠ r ∧ (∀ cs z, w.heap[b]? ≠ some (.cells cs 66 z)) ∧ (∀ cs z, w.heap[b]? ≠ some (.cells cs 49 z))) : Done x w' m bm bs r k c f := by
  obtain ⟨F', nn, hc, p, hash, blocks, held, adm, pf, hM, hn, hu, hR, h0, h1⟩ := h
  refine ⟨F', nn, hc, p, hash, blocks, held, adm, pf, hM.keep t (fun e => (hS _ e).1 rfl) (fun e => (hS _ e).2.1 rfl) (fun id b hb e => (hS _ e).2.2.2.1 _ _ (hM.each id b hb)), hn, hu, (t.block r (ltOf hR) (fun e => (hS _ e).2.2.1 rfl)).trans hR, h0, fun hx => ?_⟩
  obtain ⟨g, cap, cur, e, hg, hcur⟩ := h1 hx
  exact ⟨g, cap, cur, e, (t.block g (ltOf hg) (fun e => (hS _ e).2.2.2.2 _ _ hg)).trans hg, hcur⟩

theorem Done.grew {x : Bool} {w w' : World} {m bm bs r k : Nat} {c : Int} {f : Nat → Int} (h : Done x w m bm bs r k c f) (t : Grew w w') : Done x w' m bm bs r k c f := h.keep t (fun _ e => e.elim)

theorem admitF (x : Bool) (w : World) (m bm bs r rb k kc : Nat) (c p : Int) (hash : Value) (f : Nat → Int) (hx : decide (512 * (k : Int) + 1 ≤ c) = x)
    (hM : Mem w m c bm bs (fun _ => none) 0 (fun _ => 0)) (hR : w.heap[r]? = some (.cells (reqCells p hash (.slice (some ⟨rb, 0, none⟩) k kc) (.slice none 0 0) false 0) 51 (0, 0)))
    (hB : w.rowIs rb 48 k (fun i => .int .u64 (f i))) (hwf : ∀ i, i < k → (Lit.int .u64 (f i)).wf = true) (hD : Dist f k) (hk0 : 0 < k) (hk : k ≤ 4096) (hc63 : -9223372036854775808 ≤ c ∧ c ≤ 9223372036854775807) :
    Calls Try.prog 11 #[.pointer (some ⟨m, 0, none⟩), .pointer (some ⟨r, 0, none⟩)] w fun e w' => e = .returned (.bool x) ∧ Done x w' m bm bs r k c f ∧ Turned (fun b => b = m ∨ b = r ∨ b = bm) w w' := by
  cases x with
  | true =>
    refine (admit_fresh_yes w m bm bs r rb k kc c p hash f hM hR hB hwf hD hk0 hk (by simpa using hx) hc63).mono ?_
    rintro e w' ⟨rfl, g, cap, F', h⟩
    refine ⟨rfl, ⟨F', _, _, p, hash, _, _, _, _, h.mem, by rw [freshN_all]; omega, by rw [freshN_all]; simp, h.req, (fun e => by cases e), fun _ => ?_⟩, h.turned.mono (fun b _ e => ?_)⟩
    · obtain ⟨cur, hg, hcur⟩ := h.held
      exact ⟨g, cap, cur, rfl, hg, fun i hi => ⟨h.isIn hi, hcNew_one hi _, by rw [hcur i hi, if_pos hi, h.isIn hi]; rfl⟩⟩
    · rcases e with e | e | e | ⟨_, e⟩
      · exact .inl e
      · exact .inr (.inl e)
      · exact .inr (.inr e)
      · cases e
  | false =>
    refine (admit_fresh_no w m bm bs r rb k kc c p hash f hM hR hB hwf hD hk0 hk (by have : ¬ (512 * (k : Int) + 1 ≤ c) := by simpa using hx
                                                                                     omega) hc63).mono ?_
    rintro e w' ⟨rfl, g⟩
    exact ⟨rfl, ⟨_, 0, _, p, hash, _, _, _, _, g.mem hM, by omega, by simp, g.heap hR, fun _ => rfl, (fun e => by cases e)⟩, Turned.mono g (fun _ _ e => e.elim)⟩

theorem usedF (x : Bool) (w : World) (m bm bs r k : Nat) (c : Int) (f : Nat → Int) (h : Done x w m bm bs r k c f) :
    Calls Try.prog 12 #[.pointer (some ⟨m, 0, none⟩)] w fun e w' => e = .returned (.int .i64 (if x then 512 * (k : Int) else 0)) ∧ Grew w w' := by
  obtain ⟨F', nn, hc, p, hash, blocks, held, adm, pf, hM, hn, hu, _⟩ := h
  rw [← hu]
  exact used_mem m bm bs nn c F' hc w hM (by omega)

theorem heldF (x : Bool) (w : World) (m bm bs r k s cap2 : Nat) (o : Option Addr) (n2 cap3 : Nat) (c : Int) (f : Nat → Int) (h : Done x w m bm bs r k c f) (hk : k ≤ 4096) (hs : w.rowIs s 48 k (fun i => .int .u64 (f i))) :
    Calls Try.prog 13 #[.pointer (some ⟨r, 0, none⟩), .slice (some ⟨s, 0, none⟩) k cap2, .bool x, .slice o n2 cap3, .bool false] w fun e w' => e = .returned (.bool true) ∧ Grew w w' := by
  obtain ⟨F', nn, hc, p, hash, blocks, held, adm, pf, hM, hn, hu, hR, h0, h1⟩ := h
  cases x with
  | true =>
    obtain ⟨g, cap, cur, rfl, hg, hcur⟩ := h1 rfl
    refine (held_alone w r g s 0 k cap cap2 o n2 cap3 f (blOf F' f) (by omega) (cellOf hR 5 rfl) (fun i hi => by rw [Nat.zero_add]; exact hs.cell hi) (fun i hi => cellOf hg i (hcur i hi).2.2)
      (fun i hi => cellOf (hM.each _ _ (hcur i hi).1) 0 rfl) (fun i hi => (cellOf (hM.each _ _ (hcur i hi).1) 1 rfl).trans (by rw [(hcur i hi).2.1]; rfl))).mono ?_
    rintro e w' ⟨he, d, rfl⟩
    exact ⟨he, Grew.drewN w d⟩
  | false =>
    obtain rfl := h0 rfl
    refine (held_no w r k cap2 _ o n2 cap3 false (cellOf hR 5 rfl)).mono ?_
    rintro e w' ⟨he, rfl⟩
    exact ⟨he, Grew.refl _⟩

theorem bytes4_yes (a0 : Int) (a : Option Addr) (n cap : Nat) (a2 : Int) (b : Option Addr) (n2 cap2 : Nat) (hn : n ≤ 1048576) (hn2 : n2 ≤ 1048576) (hnn : n + n2 ≤ 1048576) (w : World) :
    Calls Try.prog 14 #[.int .i64 a0, .slice a n cap, .int .i64 a2, .slice b n2 cap2] w fun e w' => e = .returned (.bool true) ∧ w' = w := by
  go_enter Try.func14, Try.ntmps14
  go_wp2
  go_ret
  exact ⟨rfl, rfl⟩
theorem bytes4_no (a0 : Int) (a : Option Addr) (n cap : Nat) (a2 : Int) (b : Option Addr) (n2 cap2 : Nat) (h : 1048576 < n + n2) (w : World) :
    Calls Try.prog 14 #[.int .i64 a0, .slice a n cap, .int .i64 a2, .slice b n2 cap2] w fun e w' => e = .returned (.bool false) ∧ w' = w := by
  by_cases h1 : 1048576 < n
  · go_enter Try.func14, Try.ntmps14
    go_wp2
    go_ret
    exact ⟨rfl, rfl⟩
  · by_cases h2 : 1048576 < n2
    · go_enter Try.func14, Try.ntmps14
      go_wp2
      go_ret
      exact ⟨rfl, rfl⟩
    · go_enter Try.func14, Try.ntmps14
      go_wp2
      go_ret
      exact ⟨rfl, rfl⟩

theorem law4_edge (a0 : Int) (a : Option Addr) (n cap : Nat) (a2 : Int) (b : Option Addr) (n2 cap2 : Nat) (w : World) (h : n = 0 ∨ 4096 < n ∨ n2 = 0 ∨ 4096 < n2) :
    Calls Try.prog 4 #[.int .i64 a0, .slice a n cap, .int .i64 a2, .slice b n2 cap2] w fun e w' => e = .returned (.bool true) ∧ Below w.heap.size w w' := by
  have key : Calls Try.prog 4 #[.int .i64 a0, .slice a n cap, .int .i64 a2, .slice b n2 cap2] w fun e w' => e = .returned (.bool true) ∧ w = w' := by
    by_cases h1 : 1048576 < n + n2
    · go_enter Try.func4, Try.ntmps4
      go_wp2_with (go_at_call 14; refine (bytes4_no _ _ _ _ _ _ _ _ h1 _).mono ?_; rintro e w' ⟨rfl, hw'⟩; obtain rfl := hw'.symm)
      go_ret
      exact ⟨rfl, rfl⟩
    · by_cases h2 : 4096 < n
      · go_enter Try.func4, Try.ntmps4
        go_wp2_with (go_at_call 14; refine (bytes4_yes _ _ _ _ _ _ _ _ (by omega) (by omega) (by omega) _).mono ?_; rintro e w' ⟨rfl, hw'⟩; obtain rfl := hw'.symm)
        go_ret
        exact ⟨rfl, rfl⟩
      by_cases h3 : 4096 < n2
      · go_enter Try.func4, Try.ntmps4
        go_wp2_with (go_at_call 14; refine (bytes4_yes _ _ _ _ _ _ _ _ (by omega) (by omega) (by omega) _).mono ?_; rintro e w' ⟨rfl, hw'⟩; obtain rfl := hw'.symm)
        go_ret
        exact ⟨rfl, rfl⟩
      by_cases h4 : n = 0
      · subst h4
        go_enter Try.func4, Try.ntmps4
        go_wp2_with (go_at_call 14; refine (bytes4_yes _ _ _ _ _ _ _ _ (by omega) (by omega) (by omega) _).mono ?_; rintro e w' ⟨rfl, hw'⟩; obtain rfl := hw'.symm)
        go_ret
        exact ⟨rfl, rfl⟩
      · obtain rfl : n2 = 0 := by omega
        have h5 : ((n : Int) == 0) = false := by simp; omega
        go_enter Try.func4, Try.ntmps4
        go_wp2_with (go_at_call 14; refine (bytes4_yes _ _ _ _ _ _ _ _ (by omega) (by omega) (by omega) _).mono ?_; rintro e w' ⟨rfl, hw'⟩; obtain rfl := hw'.symm)
        go_ret
        exact ⟨rfl, rfl⟩
  exact key.mono fun e w' ⟨he, hw⟩ => ⟨he, by rw [← hw]; exact Below.refl _ _⟩

theorem kinds {w : World} {m bm bs n r : Nat} {c : Int} {F : Int → Option Nat} {hc : Int → Int} {rq : Array Value} (hM : Mem w m c bm bs F n hc) (hR : w.heap[r]? = some (.cells rq 51 (0, 0))) {t : TypeId} (h1 : t ≠ 64) (h2 : t ≠ 51) :
    ∀ b, (b = m ∨ b = r ∨ b = bm) → ∀ cs z, w.heap[b]? ≠ some (.cells cs t z) := by
  rintro b (rfl | rfl | rfl) cs z e
  · have := hM.blk.symm.trans e
    simp at this
    exact h1 this.2.1.symm
  · have := hR.symm.trans e
    simp at this
    exact h2 this.2.1.symm
  · exact hM.map.ne_cells e rfl
theorem row_keep {w w' : World} {s k : Nat} {f : Nat → Value} {S : Nat → Prop} (h : w.rowIs s 48 k f) (t : Turned S w w') (hS : ∀ b, S b → ∀ cs z, w.heap[b]? ≠ some (.cells cs 48 z)) : w'.rowIs s 48 k f := by
  obtain ⟨cs, hb⟩ := row_block h
  exact h.of_block (t.block s (ltOf hb) (fun e => hS s e _ _ hb))

theorem Done.keepOther {x : Bool} {w w' : World} {m bm bs r k m2 bm2 bs2 n2 r2 : Nat} {c c2 : Int} {f : Nat → Int} {F : Int → Option Nat} {hc : Int → Int} {rq : Array Value} (h : Done x w m bm bs r k c f) (hM2 : Mem w m2 c2 bm2 bs2 F n2 hc) (hR2 : w.heap[r2]? = some (.cells rq 51 (0, 0)))
    (n1m : m2 ≠ m) (n1b : bm2 ≠ bm) (n1r : r2 ≠ r) (t : Turned (fun b => b = m2 ∨ b = r2 ∨ b = bm2) w w') : Done x w' m bm bs r k c f := by
  have h' := h
  obtain ⟨F', nn, hc', p, hash, blocks, held, adm, pf, hM, hn, hu, hR, h0, h1⟩ := h'
  have k66 := kinds hM2 hR2 (t := 66) (by decide) (by decide)
  have k49 := kinds hM2 hR2 (t := 49) (by decide) (by decide)
  refine h.keep t (fun b e => ⟨?_, ?_, ?_, k66 b e, k49 b e⟩)
  · rcases e with rfl | rfl | rfl
    · exact n1m
    · exact neOf hR2 hM.blk (by simp)
    · exact fun e => hM2.map.ne_cells hM.blk e.symm
  · rcases e with rfl | rfl | rfl
    · exact hM.map.ne_cells hM2.blk
    · exact hM.map.ne_cells hR2
    · exact n1b
  · rcases e with rfl | rfl | rfl
    · exact neOf hM2.blk hR (by simp)
    · exact n1r
    · exact fun e => hM2.map.ne_cells hR e.symm

set_option maxRecDepth 100000 in
set_option maxHeartbeats 4000000 in
theorem law4_main (x1 x2 : Bool) (c1 : Int) (b1 off1 n1 cap1 : Nat) (f1 : Nat → Int) (c2 : Int) (b2 off2 n2 cap2 : Nat) (f2 : Nat → Int) (w : World) (h1 : -9223372036854775808 ≤ c1 ∧ c1 ≤ 9223372036854775807) (h2 : -9223372036854775808 ≤ c2 ∧ c2 ≤ 9223372036854775807)
    (hn1 : 1 ≤ n1) (hn1' : n1 ≤ 4096) (hn2 : 1 ≤ n2) (hn2' : n2 ≤ 4096) (hb1 : b1 < w.heap.size) (hb2 : b2 < w.heap.size)
    (hc1 : ∀ k, k < n1 → w.cell? ⟨b1, off1 + k, none⟩ = some (.int .u64 (f1 k))) (hc2 : ∀ k, k < n2 → w.cell? ⟨b2, off2 + k, none⟩ = some (.int .u64 (f2 k)))
    (hwf1 : ∀ i, i < n1 → (Lit.int .u64 (f1 i)).wf = true) (hwf2 : ∀ i, i < n2 → (Lit.int .u64 (f2 i)).wf = true)
    (hx1 : decide (512 * (n1 : Int) + 1 ≤ c1) = x1) (hx2 : decide (512 * (n2 : Int) + 1 ≤ c2) = x2) :
    Calls Try.prog 4 #[.int .i64 c1, .slice (some ⟨b1, off1, none⟩) n1 cap1, .int .i64 c2, .slice (some ⟨b2, off2, none⟩) n2 cap2] w fun e w' => e = .returned (.bool true) ∧ Below w.heap.size w w' := by
  have hz1 : ((n1 : Int) == 0) = false := by simp; omega
  have hz2 : ((n2 : Int) == 0) = false := by simp; omega
  cases x1 <;> cases x2
  all_goals
    go_enter Try.func4, Try.ntmps4
    go_wp2_with fail
    refine (bytes4_yes _ _ _ _ _ _ _ _ (by omega) (by omega) (by omega) _).mono ?_
    rintro e w' ⟨rfl, hw'⟩
    obtain rfl := hw'.symm
    go_wp2_with fail
    refine (distinct_any f1 b1 off1 n1 cap1 _ (by omega) hc1).mono ?_
    rintro e w1 ⟨hd, d, hw1⟩
    have g1 : Grew w w1 := by rw [hw1]; exact Grew.drewN w d
    clear hw1
    rcases hd with rfl | ⟨rfl, hD1⟩
    · go_wp2
      go_ret
      exact ⟨rfl, g1.below⟩
    replace hc1 : ∀ k, k < n1 → w1.cell? ⟨b1, off1 + k, none⟩ = some (.int .u64 (f1 k)) := fun k hk => g1.cell (hc1 k hk)
    replace hc2 : ∀ k, k < n2 → w1.cell? ⟨b2, off2 + k, none⟩ = some (.int .u64 (f2 k)) := fun k hk => g1.cell (hc2 k hk)
    go_wp2_with fail
    refine (distinct_any f2 b2 off2 n2 cap2 _ (by omega) hc2).mono ?_
    rintro e w2 ⟨hd, d, hw2⟩
    have g2 : Grew w1 w2 := by rw [hw2]; exact Grew.drewN w1 d
    clear hw2
    have G2 := g1.trans g2
    rcases hd with rfl | ⟨rfl, hD2⟩
    · go_wp2
      go_ret
      exact ⟨rfl, G2.below⟩
    replace hc1 : ∀ k, k < n1 → w2.cell? ⟨b1, off1 + k, none⟩ = some (.int .u64 (f1 k)) := fun k hk => g2.cell (hc1 k hk)
    replace hc2 : ∀ k, k < n2 → w2.cell? ⟨b2, off2 + k, none⟩ = some (.int .u64 (f2 k)) := fun k hk => g2.cell (hc2 k hk)
    replace hb1 : b1 < w2.heap.size := Nat.lt_of_lt_of_le hb1 G2.size
    replace hb2 : b2 < w2.heap.size := Nat.lt_of_lt_of_le hb2 G2.size
    clear g1 g2
    go_wp2_with fail
    refine (clone_abs f1 b1 off1 n1 cap1 _ (by omega) hb1 hc1).mono ?_
    rintro e w3 ⟨s1, rfl, hs1, g3, _⟩
    have G3 := G2.trans g3
    replace hc2 : ∀ k, k < n2 → w3.cell? ⟨b2, off2 + k, none⟩ = some (.int .u64 (f2 k)) := fun k hk => g3.cell (hc2 k hk)
    replace hb2 : b2 < w3.heap.size := Nat.lt_of_lt_of_le hb2 g3.size
    clear hc1 hb1 G2 g3
    go_wp2_with fail
    refine (clone_abs f2 b2 off2 n2 cap2 _ (by omega) hb2 hc2).mono ?_
    rintro e w4 ⟨s2, rfl, hs2, g4, _⟩
    have G4 := G3.trans g4
    replace hs1 := g4.row hs1
    clear hc2 hb2 G3 g4
    go_wp2_with fail
    refine (zznewMem_abs _ _).mono ?_
    rintro e w5 ⟨m1, bm1, bs1, rfl, hM1, g5, hm1, hbm1⟩
    have G5 := G4.trans g5
    replace hs1 := g5.row hs1
    replace hs2 := g5.row hs2
    have q1 : w.heap.size ≤ m1 := Nat.le_trans G4.size hm1
    have q2 : w.heap.size ≤ bm1 := Nat.le_trans G4.size hbm1
    clear hm1 hbm1 G4 g5
    go_wp2_with fail
    refine (zznewMem_abs _ _).mono ?_
    rintro e w6 ⟨m2, bm2, bs2, rfl, hM2, g6, hm2, hbm2⟩
    have G6 := G5.trans g6
    have q3 : w.heap.size ≤ m2 := Nat.le_trans G5.size hm2
    have q4 : w.heap.size ≤ bm2 := Nat.le_trans G5.size hbm2
    have n1m : m2 ≠ m1 := by have := ltOf hM1.blk; omega
    have n1b : bm2 ≠ bm1 := by have := hM1.map.lt; omega
    replace hs1 := g6.row hs1
    replace hs2 := g6.row hs2
    replace hM1 := g6.mem hM1
    clear hm2 hbm2 G5 g6
    go_wp2_with fail
    refine (clone_row f1 s1 n1 n1 _ (by omega) hs1).mono ?_
    rintro e w7 ⟨s3, rfl, _, g7, _⟩
    have G7 := G6.trans g7
    replace hs1 := g7.row hs1
    replace hs2 := g7.row hs2
    replace hM1 := g7.mem hM1
    replace hM2 := g7.mem hM2
    clear G6 g7
    go_wp2_with fail
    refine (clone_row f1 s1 n1 n1 _ (by omega) hs1).mono ?_
    rintro e w8 ⟨s4, rfl, hs4, g8, _⟩
    have G8 := G7.trans g8
    replace hs1 := g8.row hs1
    replace hs2 := g8.row hs2
    replace hM1 := g8.mem hM1
    replace hM2 := g8.mem hM2
    clear G7 g8
    go_wp2_with fail
    refine (newReq_abs _ _ _ _ _ _ _ _).mono ?_
    rintro e w9 ⟨r1, rfl, hR1, g9, hr1⟩
    have q5 : w.heap.size ≤ r1 := Nat.le_trans G8.size hr1
    have G9 := G8.trans g9
    replace hs1 := g9.row hs1
    replace hs2 := g9.row hs2
    replace hs4 := g9.row hs4
    replace hM1 := g9.mem hM1
    replace hM2 := g9.mem hM2
    clear G8 g9 hr1
    go_wp2_with fail
    refine (clone_row f2 s2 n2 n2 _ (by omega) hs2).mono ?_
    rintro e w10 ⟨s5, rfl, _, g10, _⟩
    have G10 := G9.trans g10
    replace hs1 := g10.row hs1
    replace hs2 := g10.row hs2
    replace hs4 := g10.row hs4
    replace hM1 := g10.mem hM1
    replace hM2 := g10.mem hM2
    replace hR1 := g10.heap hR1
    clear G9 g10
    go_wp2_with fail
    refine (clone_row f2 s2 n2 n2 _ (by omega) hs2).mono ?_
    rintro e w11 ⟨s6, rfl, hs6, g11, _⟩
    have G11 := G10.trans g11
    replace hs1 := g11.row hs1
    replace hs2 := g11.row hs2
    replace hs4 := g11.row hs4
    replace hM1 := g11.mem hM1
    replace hM2 := g11.mem hM2
    replace hR1 := g11.heap hR1
    clear G10 g11
    go_wp2_with fail
    refine (newReq_abs _ _ _ _ _ _ _ _).mono ?_
    rintro e w12 ⟨r2, rfl, hR2, g12, hr2⟩
    have q6 : w.heap.size ≤ r2 := Nat.le_trans G11.size hr2
    have n1r : r2 ≠ r1 := by have := ltOf hR1; omega
    have G12 := G11.trans g12
    replace hs1 := g12.row hs1
    replace hs2 := g12.row hs2
    replace hs4 := g12.row hs4
    replace hs6 := g12.row hs6
    replace hM1 := g12.mem hM1
    replace hM2 := g12.mem hM2
    replace hR1 := g12.heap hR1
    clear G11 g12 hr2
    go_wp2_with fail
    refine (admitF _ _ m1 bm1 bs1 r1 s4 n1 n1 c1 _ _ f1 hx1 hM1 hR1 hs4 hwf1 hD1 (by omega) hn1' h1).mono ?_
    rintro e w13 ⟨rfl, hO1, t13⟩
    have T13 : Turned (fun x => w.heap.size ≤ x) w w13 := (Turned.mono (S' := fun x => w.heap.size ≤ x) G12 (fun _ _ e => e.elim)).andThen t13 (by rintro x _ (rfl | rfl | rfl) <;> assumption)
    have k48 := kinds hM1 hR1 (t := 48) (by decide) (by decide)
    replace hs1 := row_keep hs1 t13 k48
    replace hs2 := row_keep hs2 t13 k48
    replace hs6 := row_keep hs6 t13 k48
    have hM2' : Mem w13 m2 c2 bm2 bs2 (fun _ => none) 0 (fun _ => 0) := hM2.keep t13 (by
        rintro (e | e | e)
        · exact n1m e
        · exact neOf hM2.blk hR1 (by simp) e
        · exact hM1.map.ne_cells hM2.blk e) (by
        rintro (e | e | e)
        · exact hM2.map.ne_cells hM1.blk e.symm
        · exact hM2.map.ne_cells hR1 e.symm
        · exact n1b e) (fun _ _ e => by cases e)
    have hR2' := (t13.block r2 (ltOf hR2) (by
        rintro (e | e | e)
        · exact neOf hR2 hM1.blk (by simp) e
        · exact n1r e
        · exact hM1.map.ne_cells hR2 e)).trans hR2
    clear hM1 hM2 hR1 hR2 hs4 t13 G12 k48
    go_wp2_with fail
    refine (usedF _ _ m1 bm1 bs1 r1 n1 c1 f1 hO1).mono ?_
    rintro e w14 ⟨rfl, g14⟩
    have T14 : Turned (fun x => w.heap.size ≤ x) w w14 := T13.andThen g14 (fun _ _ e => e.elim)
    replace hs1 := g14.row hs1
    replace hs2 := g14.row hs2
    replace hs6 := g14.row hs6
    replace hO1 := hO1.grew g14
    replace hM2 := g14.mem hM2'
    replace hR2 := g14.heap hR2'
    clear T13 g14 hM2' hR2'
    go_wp2_with fail
    refine (admitF _ _ m2 bm2 bs2 r2 s6 n2 n2 c2 _ _ f2 hx2 hM2 hR2 hs6 hwf2 hD2 (by omega) hn2' h2).mono ?_
    rintro e w15 ⟨rfl, hO2, t15⟩
    have T15 : Turned (fun x => w.heap.size ≤ x) w w15 := T14.andThen t15 (by rintro x _ (rfl | rfl | rfl) <;> assumption)
    have k48 := kinds hM2 hR2 (t := 48) (by decide) (by decide)
    replace hs1 := row_keep hs1 t15 k48
    replace hs2 := row_keep hs2 t15 k48
    replace hO1 := hO1.keepOther hM2 hR2 n1m n1b n1r t15
    clear hM2 hR2 hs6 t15 T14 k48
    go_wp2_with fail
    refine (usedF _ _ m2 bm2 bs2 r2 n2 c2 f2 hO2).mono ?_
    rintro e w16 ⟨rfl, g16⟩
    have T16 : Turned (fun x => w.heap.size ≤ x) w w16 := T15.andThen g16 (fun _ _ e => e.elim)
    replace hs1 := g16.row hs1
    replace hs2 := g16.row hs2
    replace hO1 := hO1.grew g16
    replace hO2 := hO2.grew g16
    clear T15 g16
    go_wp2_with fail
    refine (usedF _ _ m1 bm1 bs1 r1 n1 c1 f1 hO1).mono ?_
    rintro e w17 ⟨rfl, g17⟩
    have T17 : Turned (fun x => w.heap.size ≤ x) w w17 := T16.andThen g17 (fun _ _ e => e.elim)
    replace hs1 := g17.row hs1
    replace hs2 := g17.row hs2
    replace hO1 := hO1.grew g17
    replace hO2 := hO2.grew g17
    clear T16 g17
    go_wp2_with fail
    refine (heldF _ _ m1 bm1 bs1 r1 n1 s1 n1 _ _ _ c1 f1 hO1 hn1' hs1).mono ?_
    rintro e w18 ⟨rfl, g18⟩
    have T18 : Turned (fun x => w.heap.size ≤ x) w w18 := T17.andThen g18 (fun _ _ e => e.elim)
    replace hs2 := g18.row hs2
    replace hO2 := hO2.grew g18
    clear T17 g18 hs1 hO1
    go_wp2_with fail
    refine (heldF _ _ m2 bm2 bs2 r2 n2 s2 n2 _ _ _ c2 f2 hO2 hn2' hs2).mono ?_
    rintro e w19 ⟨rfl, g19⟩
    have B19 := (T18.andThen g19 (fun _ _ e => e.elim)).below (B := w.heap.size) (Nat.le_refl _) (fun _ e => e)
    clear T18 g19 hs2 hO2
    go_wp2
    go_ret
    exact ⟨rfl, B19⟩

end Go.Proofs.Qxb6614494a
