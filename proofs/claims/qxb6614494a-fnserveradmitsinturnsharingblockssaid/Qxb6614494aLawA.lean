import Derived.Test.Qxb6614494aAbs
import Derived.OpenShut
namespace Go.Proofs.Qxb6614494a
open Go.RowKit Go.Maps
set_option linter.unusedVariables false

def blOf (F' : Int → Option Nat) (f : Nat → Int) (i : Nat) : Nat := (F' (f i)).getD 0

section
variable {w0 w : World} {m bm bs n r rb k kc g cap : Nat} {c p pf : Int} {F F' : Int → Option Nat} {hc : Int → Int} {hash : Value} {f : Nat → Int} {adm : Bool}
theorem St4.isIn (h : St4 w0 w m c bm bs F n hc r p hash rb k kc f adm pf g cap F' k) {i : Nat} (hi : i < k) : F' (f i) = some (blOf F' f i) := by
  unfold blOf
  cases e : F (f i) with
  | some b => rw [h.ext _ _ e]; rfl
  | none =>
    have := h.new _ e
    rw [(hit_iff f k (f i)).2 ⟨i, hi, rfl⟩] at this
    cases e' : F' (f i) with
    | some b => rfl
    | none => rw [e'] at this; cases this
theorem St4.ptrCell (h : St4 w0 w m c bm bs F n hc r p hash rb k kc f adm pf g cap F' k) {i : Nat} (hi : i < k) : w.cell? ⟨g, i, none⟩ = some (.pointer (some ⟨blOf F' f i, 0, none⟩)) := by
  obtain ⟨cur, hg, hcur⟩ := h.held
  have := hcur i hi
  rw [if_pos hi, h.isIn hi] at this
  exact cellOf hg i this
theorem St4.idCell (h : St4 w0 w m c bm bs F n hc r p hash rb k kc f adm pf g cap F' k) {i : Nat} (hi : i < k) : w.cell? ⟨blOf F' f i, 0, none⟩ = some (.int .u64 (f i)) := cellOf (h.mem.each _ _ (h.isIn hi)) 0 rfl
theorem St4.hldCell (h : St4 w0 w m c bm bs F n hc r p hash rb k kc f adm pf g cap F' k) {i : Nat} (hi : i < k) : w.cell? ⟨blOf F' f i, 1, none⟩ = some (.int .i64 (hcNew F hc f k (f i))) := cellOf (h.mem.each _ _ (h.isIn hi)) 1 rfl
end

theorem freshN_all (f : Nat → Int) (k : Nat) : freshN (fun _ => none) f k = k := by
  induction k with
  | zero => rfl
  | succ k ih => simp [freshN, ih]
theorem hcNew_one {f : Nat → Int} {k i : Nat} (hi : i < k) (hc : Int → Int) : hcNew (fun _ => none) hc f k (f i) = 1 := by
  unfold hcNew
  rw [(hit_iff f k (f i)).2 ⟨i, hi, rfl⟩]
  rfl

/-- what a fresh memory's admission leaves, told for the laws -/
theorem admit_fresh_yes (w : World) (m bm bs r rb k kc : Nat) (c p : Int) (hash : Value) (f : Nat → Int)
    (hM : Mem w m c bm bs (fun _ => none) 0 (fun _ => 0)) (hR : w.heap[r]? = some (.cells (reqCells p hash (.slice (some ⟨rb, 0, none⟩) k kc) (.slice none 0 0) false 0) 51 (0, 0)))
    (hB : w.rowIs rb 48 k (fun i => .int .u64 (f i))) (hwf : ∀ i, i < k → (Lit.int .u64 (f i)).wf = true) (hD : Dist f k) (hk0 : 0 < k) (hk : k ≤ 4096) (hyes : 512 * (k : Int) + 1 ≤ c) (hc63 : -9223372036854775808 ≤ c ∧ c ≤ 9223372036854775807) :
    Calls Try.prog 11 #[.pointer (some ⟨m, 0, none⟩), .pointer (some ⟨r, 0, none⟩)] w fun e w' => e = .returned (.bool true) ∧ ∃ g cap F', St4 w w' m c bm bs (fun _ => none) 0 (fun _ => 0) r p hash rb k kc f false 0 g cap F' k :=
  zzAdmit ⟨_, rfl⟩ ⟨_, rfl⟩ (admit_yes w m bm bs 0 r rb k kc c p 0 _ _ hash f false hM hR hB hwf hD (fun _ _ h => by cases h) hk0 hk (by omega) (by rw [freshN_all]; simp; omega) hc63)

theorem admit_fresh_no (w : World) (m bm bs r rb k kc : Nat) (c p : Int) (hash : Value) (f : Nat → Int)
    (hM : Mem w m c bm bs (fun _ => none) 0 (fun _ => 0)) (hR : w.heap[r]? = some (.cells (reqCells p hash (.slice (some ⟨rb, 0, none⟩) k kc) (.slice none 0 0) false 0) 51 (0, 0)))
    (hB : w.rowIs rb 48 k (fun i => .int .u64 (f i))) (hwf : ∀ i, i < k → (Lit.int .u64 (f i)).wf = true) (hD : Dist f k) (hk0 : 0 < k) (hk : k ≤ 4096) (hno : c < 512 * (k : Int) + 1) (hc63 : -9223372036854775808 ≤ c ∧ c ≤ 9223372036854775807) :
    Calls Try.prog 11 #[.pointer (some ⟨m, 0, none⟩), .pointer (some ⟨r, 0, none⟩)] w fun e w' => e = .returned (.bool false) ∧ Grew w w' :=
  (zzAdmit ⟨_, rfl⟩ ⟨_, rfl⟩ (admit_no w m bm bs 0 r rb k kc c p 0 _ _ hash f false hM hR hB hwf hD (fun _ _ h => by cases h) hk0 hk (by omega) (by rw [freshN_all]; simp; omega) hc63)).mono fun e w' ⟨he, d, hw⟩ => ⟨he, by rw [hw]; exact Grew.drewN w d⟩

set_option maxRecDepth 100000 in
set_option maxHeartbeats 2000000 in
theorem law3_main (a0 : Int) (b off n cap : Nat) (f : Nat → Int) (w : World) (h0 : -9223372036854775808 ≤ a0 ∧ a0 ≤ 9223372036854775807) (hn1 : 1 ≤ n) (hn : n ≤ 4096) (hb : b < w.heap.size)
    (hc : ∀ k, k < n → w.cell? ⟨b, off + k, none⟩ = some (.int .u64 (f k))) (hwf : ∀ i, i < n → (Lit.int .u64 (f i)).wf = true) :
    Calls Try.prog 3 #[.int .i64 a0, .slice (some ⟨b, off, none⟩) n cap] w fun e w' => e = .returned (.bool true) ∧ Below w.heap.size w w' := by
  have hz : ((n : Int) == 0) = false := by simp; omega
  by_cases hfit : 512 * (n : Int) + 1 ≤ a0
  · go_enter Try.func3, Try.ntmps3
    go_wp2_with fail
    refine (bytes3_yes _ _ _ _ (by omega) _).mono ?_
    rintro e w' ⟨rfl, hw'⟩
    obtain rfl := hw'.symm
    go_wp2_with fail
    refine (distinct_any f b off n cap _ (by omega) hc).mono ?_
    rintro e w1 ⟨hd, d, hw1⟩
    have g1 : Grew w w1 := by rw [hw1]; exact Grew.drewN w d
    clear hw1
    rcases hd with rfl | ⟨rfl, hD⟩
    · go_wp2
      go_ret
      exact ⟨rfl, g1.below⟩
    have hlt1 : b < w1.heap.size := Nat.lt_of_lt_of_le hb g1.size
    have hc1 : ∀ k, k < n → w1.cell? ⟨b, off + k, none⟩ = some (.int .u64 (f k)) := fun k hk => g1.cell (hc k hk)
    clear hc hb
    go_wp2_with fail
    refine (clone_abs f b off n cap _ (by omega) hlt1 hc1).mono ?_
    rintro e w2 ⟨s, rfl, hs, g2, hs2⟩
    clear hc1 hlt1
    go_wp2_with fail
    refine (zznewMem_abs _ _).mono ?_
    rintro e w3 ⟨m, bm, bs, rfl, hM, g3, hm3, hbm3⟩
    replace hs := g3.row hs
    go_wp2_with fail
    refine (clone_row f s n n _ (by omega) hs).mono ?_
    rintro e w4 ⟨s4, rfl, hs4, g4, hh4⟩
    replace hs := g4.row hs
    replace hM := g4.mem hM
    go_wp2_with fail
    refine (clone_row f s n n _ (by omega) hs).mono ?_
    rintro e w5 ⟨s5, rfl, hs5, g5, hh5⟩
    replace hs := g5.row hs
    replace hM := g5.mem hM
    go_wp2_with fail
    refine (newReq_abs _ _ _ _ _ _ _ _).mono ?_
    rintro e w6 ⟨r, rfl, hR, g6, hr6⟩
    replace hs := g6.row hs
    replace hs5 := g6.row hs5
    replace hM := g6.mem hM
    have G : Grew w w6 := g1.trans (g2.trans (g3.trans (g4.trans (g5.trans g6))))
    have hm : w.heap.size ≤ m := by have := (g1.trans g2).size; omega
    have hbm : w.heap.size ≤ bm := by have := (g1.trans g2).size; omega
    have hr : w.heap.size ≤ r := by have := (g1.trans (g2.trans (g3.trans (g4.trans g5)))).size; omega
    clear g1 g2 g3 g4 g5 g6 hs4 hm3 hbm3 hh4 hh5 hr6 hs2
    go_wp2_with fail
    refine (admit_fresh_yes _ m bm bs r s5 n n a0 _ _ f hM hR hs5 hwf hD (by omega) hn (by omega) h0).mono ?_
    rintro e w7 ⟨rfl, g, cp, F', h7⟩
    have T7 : Turned (fun x => w.heap.size ≤ x) w w7 := (Turned.mono (S' := fun x => w.heap.size ≤ x) G (fun _ _ e => e.elim)).andThen h7.turned (fun x _ e => by
      rcases e with rfl | rfl | rfl | ⟨_, e⟩
      · exact hm
      · exact hr
      · exact hbm
      · cases e)
    have hs7 : w7.rowIs s 48 n (fun i => .int .u64 (f i)) := by
      obtain ⟨cs, hrb⟩ := row_block hs
      refine hs.of_block (h7.turned.block s (ltOf hrb) ?_)
      rintro (rfl | rfl | rfl | ⟨_, e⟩)
      · exact absurd (hrb.symm.trans hM.blk) (by simp)
      · exact absurd (hrb.symm.trans hR) (by simp)
      · exact hM.map.ne_cells hrb rfl
      · cases e
    have hM7 := h7.mem
    rw [freshN_all] at hM7
    clear hM hR hs hs5 hm hr hbm G
    go_wp2_with fail
    refine (used_mem m bm bs (0 + n) a0 F' _ _ hM7 (by omega)).mono ?_
    rintro e w8 ⟨rfl, g8⟩
    have h5 : w8.cell? ⟨r, 5, none⟩ = some (.slice (some ⟨g, 0, none⟩) n cp) := g8.cell (cellOf h7.req 5 rfl)
    have c1 : ∀ i, i < n → w8.cell? ⟨s, 0 + i, none⟩ = some (.int .u64 (f i)) := fun i hi => by rw [Nat.zero_add]; exact g8.cell (hs7.cell hi)
    have c2 : ∀ i, i < n → w8.cell? ⟨g, i, none⟩ = some (.pointer (some ⟨blOf F' f i, 0, none⟩)) := fun i hi => g8.cell (h7.ptrCell hi)
    have c3 : ∀ i, i < n → w8.cell? ⟨blOf F' f i, 0, none⟩ = some (.int .u64 (f i)) := fun i hi => g8.cell (h7.idCell hi)
    have c4 : ∀ i, i < n → w8.cell? ⟨blOf F' f i, 1, none⟩ = some (.int .i64 1) := fun i hi => g8.cell ((h7.hldCell hi).trans (by rw [hcNew_one hi]))
    have B8 : Below w.heap.size w w8 := (T7.andThen g8 (fun _ _ e => e.elim)).below (Nat.le_refl _) (fun _ e => e)
    clear hM7 h7 hs7 T7 g8
    go_wp2_with fail
    refine (held_alone _ r g s 0 n cp n _ _ _ f (blOf F' f) (by omega) h5 c1 c2 c3 c4).mono ?_
    rintro e w9 ⟨rfl, d9, hw9⟩
    have B9 : Below w.heap.size w w9 := by rw [hw9]; exact ⟨B8.os, B8.tape, B8.output, B8.size, B8.block⟩
    clear hw9 c1 c2 c3 c4 h5
    go_wp2
    go_ret
    exact ⟨rfl, B9⟩
  · have hdec : decide (512 * (n : Int) + 1 ≤ a0) = false := decide_eq_false hfit
    go_enter Try.func3, Try.ntmps3
    go_wp2_with fail
    refine (bytes3_yes _ _ _ _ (by omega) _).mono ?_
    rintro e w' ⟨rfl, hw'⟩
    obtain rfl := hw'.symm
    go_wp2_with fail
    refine (distinct_any f b off n cap _ (by omega) hc).mono ?_
    rintro e w1 ⟨hd, d, hw1⟩
    have g1 : Grew w w1 := by rw [hw1]; exact Grew.drewN w d
    clear hw1
    rcases hd with rfl | ⟨rfl, hD⟩
    · go_wp2
      go_ret
      exact ⟨rfl, g1.below⟩
    have hlt1 : b < w1.heap.size := Nat.lt_of_lt_of_le hb g1.size
    have hc1 : ∀ k, k < n → w1.cell? ⟨b, off + k, none⟩ = some (.int .u64 (f k)) := fun k hk => g1.cell (hc k hk)
    clear hc hb
    go_wp2_with fail
    refine (clone_abs f b off n cap _ (by omega) hlt1 hc1).mono ?_
    rintro e w2 ⟨s, rfl, hs, g2, hs2⟩
    clear hc1 hlt1
    go_wp2_with fail
    refine (zznewMem_abs _ _).mono ?_
    rintro e w3 ⟨m, bm, bs, rfl, hM, g3, hm3, hbm3⟩
    replace hs := g3.row hs
    go_wp2_with fail
    refine (clone_row f s n n _ (by omega) hs).mono ?_
    rintro e w4 ⟨s4, rfl, hs4, g4, hh4⟩
    replace hs := g4.row hs
    replace hM := g4.mem hM
    go_wp2_with fail
    refine (clone_row f s n n _ (by omega) hs).mono ?_
    rintro e w5 ⟨s5, rfl, hs5, g5, hh5⟩
    replace hs := g5.row hs
    replace hM := g5.mem hM
    go_wp2_with fail
    refine (newReq_abs _ _ _ _ _ _ _ _).mono ?_
    rintro e w6 ⟨r, rfl, hR, g6, hr6⟩
    replace hs := g6.row hs
    replace hs5 := g6.row hs5
    replace hM := g6.mem hM
    have G : Grew w w6 := g1.trans (g2.trans (g3.trans (g4.trans (g5.trans g6))))
    have hm : w.heap.size ≤ m := by have := (g1.trans g2).size; omega
    have hbm : w.heap.size ≤ bm := by have := (g1.trans g2).size; omega
    have hr : w.heap.size ≤ r := by have := (g1.trans (g2.trans (g3.trans (g4.trans g5)))).size; omega
    clear g1 g2 g3 g4 g5 g6 hs4 hm3 hbm3 hh4 hh5 hr6 hs2
    go_wp2_with fail
    refine (admit_fresh_no _ m bm bs r s5 n n a0 _ _ f hM hR hs5 hwf hD (by omega) hn (by omega) h0).mono ?_
    rintro e w7 ⟨rfl, g7⟩
    replace hM := g7.mem hM
    replace hR := g7.heap hR
    replace G := G.trans g7
    clear hs hs5 hm hr hbm g7
    go_wp2_with fail
    refine (used_mem m bm bs 0 a0 _ _ _ hM (by omega)).mono ?_
    rintro e w8 ⟨rfl, g8⟩
    have h5 : w8.cell? ⟨r, 5, none⟩ = some (.slice none 0 0) := g8.cell (cellOf hR 5 rfl)
    have B8 := (G.trans g8).below
    clear hM hR G g8
    go_wp2_with fail
    refine (held_no _ r _ _ _ _ _ _ _ h5).mono ?_
    rintro e w9 ⟨rfl, hw9⟩
    obtain rfl := hw9.symm
    go_wp2
    go_ret
    exact ⟨rfl, B8⟩

theorem law3_edge (a0 : Int) (a : Option Addr) (n cap : Nat) (w : World) (h : n = 0 ∨ 4096 < n) :
    Calls Try.prog 3 #[.int .i64 a0, .slice a n cap] w fun e w' => e = .returned (.bool true) ∧ Below w.heap.size w w' := by
  have key : Calls Try.prog 3 #[.int .i64 a0, .slice a n cap] w fun e w' => e = .returned (.bool true) ∧ w = w' := by
    by_cases h1 : 1048576 < n
    · go_enter Try.func3, Try.ntmps3
      go_wp2_with (go_at_call 6; refine (bytes3_no _ _ _ _ h1 _).mono ?_; rintro e w' ⟨rfl, hw'⟩; obtain rfl := hw'.symm)
      go_ret
      exact ⟨rfl, rfl⟩
    · rcases h with rfl | h
      · go_enter Try.func3, Try.ntmps3
        go_wp2_with (go_at_call 6; refine (bytes3_yes _ _ _ _ (by omega) _).mono ?_; rintro e w' ⟨rfl, hw'⟩; obtain rfl := hw'.symm)
        go_ret
        exact ⟨rfl, rfl⟩
      · go_enter Try.func3, Try.ntmps3
        go_wp2_with (go_at_call 6; refine (bytes3_yes _ _ _ _ (by omega) _).mono ?_; rintro e w' ⟨rfl, hw'⟩; obtain rfl := hw'.symm)
        go_ret
        exact ⟨rfl, rfl⟩
  exact key.mono fun e w' ⟨he, hw⟩ => ⟨he, by rw [← hw]; exact Below.refl _ _⟩

/-- a slice that came in, one element or more: where its cells lie -/
theorem row_open {w : World} {x : Addr} {len cap : Nat} {zs : List Int} (hl : len ≤ cap) (hz : zs.length = cap) (hcell : ∀ i, i < zs.length → w.cell? (x.add i) = some (.int .u64 (zs.getD i 0)))
    (hwf : ∀ n ∈ zs, (Lit.int .u64 n).wf = true) (hp : 1 ≤ len) :
    ∃ (b off : Nat) (f : Nat → Int), x = ⟨b, off, none⟩ ∧ b < w.heap.size ∧ (∀ k, k < len → w.cell? ⟨b, off + k, none⟩ = some (.int .u64 (f k))) ∧ ∀ i, i < len → (Lit.int .u64 (f i)).wf = true := by
  obtain ⟨b, off, rfl, hc⟩ := ints_at hcell (by omega)
  refine ⟨b, off, fun i => zs.getD i 0, rfl, ?_, fun k hk => hc k (by omega), fun i hi => ?_⟩
  · exact World.block_lt_of_cell? w _ (hc 0 (by omega))
  · have hi' : i < zs.length := by omega
    have e : zs.getD i 0 = zs[i] := by simp [List.getD, hi']
    exact hwf _ (by show zs.getD i 0 ∈ zs; rw [e]; exact List.getElem_mem _)

end Go.Proofs.Qxb6614494a
