import Derived.Test.Qxb6614494aLawC
namespace Go.Proofs.Qxb6614494a
open Go.RowKit Go.Maps
set_option linter.unusedVariables false

set_option maxRecDepth 100000 in
set_option maxHeartbeats 8000000 in
theorem law5_F (x2 : Bool) (kv p1 : Int) (b1 off1 n1 cap1 : Nat) (f1 : Nat → Int) (p2 : Int) (b2 off2 n2 cap2 : Nat) (f2 : Nat → Int) (w : World) (h0 : 1 ≤ kv ∧ kv ≤ 9223372036854775807)
    (hn1 : 1 ≤ n1) (hn1' : n1 ≤ 4096) (hn2 : 1 ≤ n2) (hn2' : n2 ≤ 4096) (hp1 : 1 ≤ p1) (hp1' : p1 ≤ 1073741824) (hp2 : 1 ≤ p2) (hp2' : p2 ≤ 1073741824) (hq1 : Hid ((n1 : Int) = (p1 + 511) / 512)) (hq2 : Hid ((n2 : Int) = (p2 + 511) / 512))
    (hb1 : b1 < w.heap.size) (hb2 : b2 < w.heap.size)
    (hc1 : ∀ k, k < n1 → w.cell? ⟨b1, off1 + k, none⟩ = some (.int .u64 (f1 k))) (hc2 : ∀ k, k < n2 → w.cell? ⟨b2, off2 + k, none⟩ = some (.int .u64 (f2 k)))
    (hwf1 : ∀ i, i < n1 → (Lit.int .u64 (f1 i)).wf = true) (hwf2 : ∀ i, i < n2 → (Lit.int .u64 (f2 i)).wf = true)
    (hx1 : decide (512 * (n1 : Int) + 1 ≤ kv) = false) (hx2 : decide (512 * (n2 : Int) + 1 ≤ kv) = x2) :
    Calls Try.prog 5 #[.int .i64 kv, .int .i64 p1, .slice (some ⟨b1, off1, none⟩) n1 cap1, .int .i64 p2, .slice (some ⟨b2, off2, none⟩) n2 cap2] w fun e w' => e = .returned (.bool true) ∧ Below w.heap.size w w' := by
  have hkv := h0.1
  have hfl := freshN_le (inF f1 n1) f2 n2
  cases x2
  all_goals
    go_enter Try.func5, Try.ntmps5
    go_wp2_with fail
    refine (bytes5_yes _ _ _ _ _ _ _ _ _ (by omega) (by omega) (by omega) _).mono ?_
    rintro e w' ⟨rfl, hw'⟩
    obtain rfl := hw'.symm
    go_wp2_with fail
    refine (prompt_yes _ _ _ _ _ hp1 hp1' hq1.out).mono ?_
    rintro e w' ⟨rfl, hw'⟩
    obtain rfl := hw'.symm
    go_wp2_with fail
    refine (prompt_yes _ _ _ _ _ hp2 hp2' hq2.out).mono ?_
    rintro e w' ⟨rfl, hw'⟩
    obtain rfl := hw'.symm
    go_wp2_with fail
    refine (distinct_any f1 b1 off1 n1 cap1 _ (by omega) hc1).mono ?_
    rintro e w1 ⟨hd, d, hw1⟩
    have g1 : Grew w w1 := by rw [hw1]; exact Grew.drewN w d
    clear hw1
    rcases hd with rfl | ⟨rfl, hD1⟩
    · go_wp2
      go_ret
      exact ⟨rfl, g1.below⟩
    replace hc1 : ∀ k, k < n1 → w1.cell? ⟨b1, off1 + k, none⟩ = some (.int .u64 (f1 k)) := fun k hk => g1.cell (hc1 k hk)
    replace hc2 : ∀ k, k < n2 → w1.cell? ⟨b2, off2 + k, none⟩ = some (.int .u64 (f2 k)) := fun k hk => g1.cell (hc2 k hk)
    go_wp2_with fail
    refine (distinct_any f2 b2 off2 n2 cap2 _ (by omega) hc2).mono ?_
    rintro e w2 ⟨hd, d, hw2⟩
    have g2 : Grew w1 w2 := by rw [hw2]; exact Grew.drewN w1 d
    clear hw2
    have G2 := g1.trans g2
    rcases hd with rfl | ⟨rfl, hD2⟩
    · go_wp2
      go_ret
      exact ⟨rfl, G2.below⟩
    replace hc1 : ∀ k, k < n1 → w2.cell? ⟨b1, off1 + k, none⟩ = some (.int .u64 (f1 k)) := fun k hk => g2.cell (hc1 k hk)
    replace hc2 : ∀ k, k < n2 → w2.cell? ⟨b2, off2 + k, none⟩ = some (.int .u64 (f2 k)) := fun k hk => g2.cell (hc2 k hk)
    replace hb1 : b1 < w2.heap.size := Nat.lt_of_lt_of_le hb1 G2.size
    replace hb2 : b2 < w2.heap.size := Nat.lt_of_lt_of_le hb2 G2.size
    clear g1 g2
    go_wp2_with fail
    refine (clone_abs f1 b1 off1 n1 cap1 _ (by omega) hb1 hc1).mono ?_
    rintro e w3 ⟨s1, rfl, hs1, g3, _⟩
    have G3 := G2.trans g3
    replace hc2 : ∀ k, k < n2 → w3.cell? ⟨b2, off2 + k, none⟩ = some (.int .u64 (f2 k)) := fun k hk => g3.cell (hc2 k hk)
    replace hb2 : b2 < w3.heap.size := Nat.lt_of_lt_of_le hb2 g3.size
    clear hc1 hb1 G2 g3
    go_wp2_with fail
    refine (clone_abs f2 b2 off2 n2 cap2 _ (by omega) hb2 hc2).mono ?_
    rintro e w4 ⟨s2, rfl, hs2, g4, _⟩
    have G4 := G3.trans g4
    replace hs1 := g4.row hs1
    clear hc2 hb2 G3 g4
    go_wp2_with fail
    refine (newServer_any kv _).mono ?_
    rintro e w5 ⟨sv, m, bm, bs, rfl, hsv, hM, g5, zsv, zm, zbm⟩
    have G5 := G4.trans g5
    have q1 : w.heap.size ≤ sv := Nat.le_trans G4.size zsv
    have q2 : w.heap.size ≤ m := Nat.le_trans G4.size zm
    have q3 : w.heap.size ≤ bm := Nat.le_trans G4.size zbm
    have hS : Srv w.heap.size w5 sv kv m none 0 0 [] := ⟨hsv, World.ownsRow_nil _ _ _ _⟩
    replace hs1 := g5.row hs1
    replace hs2 := g5.row hs2
    clear zsv zm zbm G4 g5 hsv
    go_wp2_with fail
    refine (clone_row f1 s1 n1 n1 _ (by omega) hs1).mono ?_
    rintro e w6 ⟨s3, rfl, hs3, g6, _⟩
    have G6 := G5.trans g6
    replace hs1 := g6.row hs1
    replace hs2 := g6.row hs2
    replace hM := g6.mem hM
    replace hS := hS.grew g6
    clear G5 g6
    go_wp2_with fail
    refine (clone_row f1 s1 n1 n1 _ (by omega) hs1).mono ?_
    rintro e w7 ⟨s4, rfl, hs4, g7, _⟩
    have G7 := G6.trans g7
    replace hs1 := g7.row hs1
    replace hs2 := g7.row hs2
    replace hs3 := g7.row hs3
    replace hM := g7.mem hM
    replace hS := hS.grew g7
    clear G6 g7
    go_wp2_with fail
    refine (newReq_abs _ _ _ _ _ _ _ _).mono ?_
    rintro e w8 ⟨r1, rfl, hR1, g8, zr1⟩
    have q4 : w.heap.size ≤ r1 := Nat.le_trans G7.size zr1
    have G8 := G7.trans g8
    replace hs1 := g8.row hs1
    replace hs2 := g8.row hs2
    replace hs3 := g8.row hs3
    replace hs4 := g8.row hs4
    replace hM := g8.mem hM
    replace hS := hS.grew g8
    clear G7 g8 zr1
    go_wp2_with fail
    refine (clone_row f2 s2 n2 n2 _ (by omega) hs2).mono ?_
    rintro e w9 ⟨s5, rfl, hs5, g9, _⟩
    have G9 := G8.trans g9
    replace hs1 := g9.row hs1
    replace hs2 := g9.row hs2
    replace hs3 := g9.row hs3
    replace hs4 := g9.row hs4
    replace hM := g9.mem hM
    replace hS := hS.grew g9
    replace hR1 := g9.heap hR1
    clear G8 g9
    go_wp2_with fail
    refine (clone_row f2 s2 n2 n2 _ (by omega) hs2).mono ?_
    rintro e w10 ⟨s6, rfl, hs6, g10, _⟩
    have G10 := G9.trans g10
    replace hs1 := g10.row hs1
    replace hs2 := g10.row hs2
    replace hs3 := g10.row hs3
    replace hs4 := g10.row hs4
    replace hs5 := g10.row hs5
    replace hM := g10.mem hM
    replace hS := hS.grew g10
    replace hR1 := g10.heap hR1
    clear G9 g10
    go_wp2_with fail
    refine (newReq_abs _ _ _ _ _ _ _ _).mono ?_
    rintro e w11 ⟨r2, rfl, hR2, g11, zr2⟩
    have q5 : w.heap.size ≤ r2 := Nat.le_trans G10.size zr2
    have n12 : r2 ≠ r1 := by have := ltOf hR1; omega
    have G11 := G10.trans g11
    replace hs1 := g11.row hs1
    replace hs2 := g11.row hs2
    replace hs3 := g11.row hs3
    replace hs4 := g11.row hs4
    replace hs5 := g11.row hs5
    replace hs6 := g11.row hs6
    replace hM := g11.mem hM
    replace hS := hS.grew g11
    replace hR1 := g11.heap hR1
    clear G10 g11 zr2
    go_wp2_with fail
    refine (srvAdmitF false w.heap.size _ sv m bm bs 0 r1 s3 s4 n1 n1 n1 0 0 kv p1 (fun _ => none) (fun _ => 0) f1 none [] (by rw [freshN_all]; simpa using hx1) hM hS hR1 hs4 hs3 hwf1 hD1 (fun _ _ e => by cases e) (by omega) hn1' (by omega) ⟨by omega, h0.2⟩ hp1 hp1' (by omega) G11.size).mono ?_
    rintro e w12 ⟨rfl, F1, m1, hc1, ao1, cp1, J1⟩
    have T12 : Turned (fun x => w.heap.size ≤ x) w w12 := (Turned.mono (S' := fun x => w.heap.size ≤ x) G11 (fun _ _ e => e.elim)).andThen J1.turned (by
      rintro x _ (rfl | rfl | rfl | ⟨_, e⟩ | rfl | e)
      · assumption
      · assumption
      · assumption
      · cases e
      · assumption
      · cases e)
    have k48 := SA_not hM hS hR1 (t := 48) (by decide) (by decide) (by decide) (by decide) (by decide)
    replace hs1 := row_keep hs1 J1.turned k48
    replace hs2 := row_keep hs2 J1.turned k48
    replace hs5 := row_keep hs5 J1.turned k48
    replace hs6 := row_keep hs6 J1.turned k48
    have hR2' := (J1.turned.block r2 (ltOf hR2) (SA_req hM hS hR2 n12)).trans hR2
    have hS1 := J1.srv
    have hM1 := J1.mem
    have hm1 : 0 = m1 := (first_n J1).symm
    have hbd := first_bound J1
    subst hm1
    clear hM hS hR1 hR2 hs3 hs4 k48
    replace hS1 : Srv w.heap.size w12 sv kv m ao1 0 cp1 [] := hS1
    have Z11 : w.heap.size ≤ w11.heap.size := G11.size
    have HJ1 : Hid (Judged false w.heap.size w11 w12 sv m bm bs 0 r1 kv p1 (fun _ => none) (fun _ => 0) n1 f1 none 0 0 [] F1 0 hc1 ao1 cp1) := J1
    clear J1 G11
    go_wp2_with fail
    refine (srvUsedF w.heap.size _ sv m bm bs _ _ cp1 kv F1 hc1 ao1 _ hM1 hS1 (by omega)).mono ?_
    rintro e w13 ⟨rfl, g13⟩
    replace hs1 := g13.row hs1
    replace hs2 := g13.row hs2
    replace hs5 := g13.row hs5
    replace hs6 := g13.row hs6
    replace hM1 := g13.mem hM1
    replace hS1 := hS1.grew g13
    replace hR2' := g13.heap hR2'
    have hQ1 := HJ1.out.req.grew g13
    have T13 : Turned (fun x => w.heap.size ≤ x) w w13 := T12.andThen g13 (fun _ _ e => e.elim)
    have hxx : decide (512 * ((0 : Nat) : Int) + (512 * (freshN F1 f2 n2 : Int) + 1) ≤ kv) = decide (512 * (n2 : Int) + 1 ≤ kv) := by rw [first_fresh_false HJ1.out]; simp
    replace hxx := hxx.trans hx2
    clear T12 g13
    go_wp2_with fail
    refine (srvAdmitF _ w.heap.size _ sv m bm bs 0 r2 s5 s6 n2 n2 n2 0 cp1 kv p2 F1 hc1 f2 ao1 _ hxx hM1 hS1 hR2' hs6 hs5 hwf2 hD2 hbd (by omega) hn2' (by omega) ⟨by omega, h0.2⟩ hp2 hp2' (by omega) T13.size).mono ?_
    rintro e w14 ⟨rfl, F2, m2, hc2, ao2, cp2, J2⟩
    have T14 : Turned (fun x => w.heap.size ≤ x) w w14 := T13.andThen J2.turned (by
      rintro x hx (rfl | rfl | rfl | ⟨id, e⟩ | rfl | e)
      · assumption
      · assumption
      · assumption
      · rcases HJ1.out.born id _ e with e' | e'
        · cases e'
        · exact Nat.le_trans Z11 e'
      · assumption
      · exact (hS1.own.lt x e.symm).1)
    have k48 := SA_not hM1 hS1 hR2' (t := 48) (by decide) (by decide) (by decide) (by decide) (by decide)
    replace hs1 := row_keep hs1 J2.turned k48
    replace hs2 := row_keep hs2 J2.turned k48
    obtain ⟨rq1, hrq1⟩ := hQ1.blk
    replace hQ1 := hQ1.keep J2.turned (SA_req hM1 hS1 hrq1 n12.symm) (SA_not hM1 hS1 hR2' (t := 49) (by decide) (by decide) (by decide) (by decide) (by decide)) J2.ext
    have hQ2 := J2.req
    have hh1 := second_hold1 HJ1.out J2
    have hh2 := second_hold2 HJ1.out J2
    have hM2 := J2.mem
    have hS2 := J2.srv
    have hm2 := J2.cnt
    rw [first_fresh_false HJ1.out] at hm2
    have HH1 := hidden hh1
    have HH2 := hidden hh2
    clear k48 hrq1 hM1 hS1 hR2' hs5 hs6 T13 hxx hbd J2 hwf1 hwf2 hh1 hh2 HJ1
  · have hm2' : 0 = m2 := hm2.symm
    clear hm2
    subst hm2'
    replace hS2 : Srv w.heap.size w14 sv kv m ao2 0 cp2 [] := hS2
    go_wp2_with fail
    refine (srvUsedF w.heap.size _ sv m bm bs _ _ cp2 kv F2 hc2 ao2 _ hM2 hS2 (by omega)).mono ?_
    rintro e w15 ⟨rfl, g15⟩
    replace hs1 := g15.row hs1
    replace hs2 := g15.row hs2
    replace hM2 := g15.mem hM2
    replace hS2 := hS2.grew g15
    replace hQ1 := hQ1.grew g15
    replace hQ2 := hQ2.grew g15
    have T15 : Turned (fun x => w.heap.size ≤ x) w w15 := T14.andThen g15 (fun _ _ e => e.elim)
    clear T14 g15
    have s4 : w15.cell? ⟨sv, 4, none⟩ = some (.slice ao2 0 cp2) := cellOf hS2.blk 4 rfl
    clear hS2
    go_wp2_with fail
    refine (srvRunning_any _ sv _ _ _ s4).mono ?_
    rintro e w' ⟨rfl, rfl⟩
    have nq28 := neq28
    go_wp2_with fail
    clear nq28
    refine (freshAfterF _ _ F2 r1 n1 p1 f1 hQ1).mono ?_
    rintro e w' ⟨rfl, rfl⟩
    go_wp2_with fail
    refine (freshAfterF _ _ F2 r2 n2 p2 f2 hQ2).mono ?_
    rintro e w' ⟨rfl, rfl⟩
    go_wp2_with fail
    refine (heldG false false _ m bm bs _ r1 n1 s1 n1 s2 n2 n2 kv p1 F2 hc2 f1 f2 hM2 hQ1 hn1' hn2' hs1 hs2 (fun h => HH1.out (by first | exact h | trivial))).mono ?_
    rintro e w16 ⟨rfl, g16⟩
    replace hs1 := g16.row hs1
    replace hs2 := g16.row hs2
    replace hM2 := g16.mem hM2
    replace hQ1 := hQ1.grew g16
    replace hQ2 := hQ2.grew g16
    have T16 : Turned (fun x => w.heap.size ≤ x) w w16 := T15.andThen g16 (fun _ _ e => e.elim)
    clear T15 g16 HH1
    go_wp2_with fail
    refine (heldG false false _ m bm bs _ r2 n2 s2 n2 s1 n1 n1 kv p2 F2 hc2 f2 f1 hM2 hQ2 hn2' hn1' hs2 hs1 (fun h => HH2.out (by first | exact h | trivial))).mono ?_
    rintro e w17 ⟨rfl, g17⟩
    have T17 : Turned (fun x => w.heap.size ≤ x) w w17 := T16.andThen g17 (fun _ _ e => e.elim)
    have B17 := T17.below (B := w.heap.size) (Nat.le_refl _) (fun _ e => e)
    clear T16 T17 g17 hs1 hs2 hM2 hQ1 hQ2 HH2
    go_wp2
    go_ret
    exact ⟨rfl, B17⟩
  · have hm2' : 0 + n2 = m2 := hm2.symm
    clear hm2
    subst hm2'
    replace hS2 : Srv w.heap.size w14 sv kv m ao2 1 cp2 [.pointer (some ⟨r2, 0, none⟩)] := hS2
    go_wp2_with fail
    refine (srvUsedF w.heap.size _ sv m bm bs _ _ cp2 kv F2 hc2 ao2 _ hM2 hS2 (by omega)).mono ?_
    rintro e w15 ⟨rfl, g15⟩
    replace hs1 := g15.row hs1
    replace hs2 := g15.row hs2
    replace hM2 := g15.mem hM2
    replace hS2 := hS2.grew g15
    replace hQ1 := hQ1.grew g15
    replace hQ2 := hQ2.grew g15
    have T15 : Turned (fun x => w.heap.size ≤ x) w w15 := T14.andThen g15 (fun _ _ e => e.elim)
    clear T14 g15
    obtain ⟨gg, rfl, hcell⟩ := hS2.cells (by omega)
    have run0 : w15.cell? ⟨gg, 0, none⟩ = some (.pointer (some ⟨r2, 0, none⟩)) := hcell 0 (by omega)
    clear hcell
    have s4 : w15.cell? ⟨sv, 4, none⟩ = some (.slice (some ⟨gg, 0, none⟩) 1 cp2) := cellOf hS2.blk 4 rfl
    clear hS2
    go_wp2_with fail
    refine (srvRunning_any _ sv _ _ _ s4).mono ?_
    rintro e w' ⟨rfl, rfl⟩
    have nq28 := neq28
    go_wp2_with fail
    clear nq28
    refine (freshAfterF _ _ F2 r1 n1 p1 f1 hQ1).mono ?_
    rintro e w' ⟨rfl, rfl⟩
    go_wp2_with fail
    refine (freshAfterF _ _ F2 r2 n2 p2 f2 hQ2).mono ?_
    rintro e w' ⟨rfl, rfl⟩
    go_wp2_with fail
    refine (heldG false true _ m bm bs _ r1 n1 s1 n1 s2 n2 n2 kv p1 F2 hc2 f1 f2 hM2 hQ1 hn1' hn2' hs1 hs2 (fun h => HH1.out (by first | exact h | trivial))).mono ?_
    rintro e w16 ⟨rfl, g16⟩
    replace hs1 := g16.row hs1
    replace hs2 := g16.row hs2
    replace hM2 := g16.mem hM2
    replace hQ1 := hQ1.grew g16
    replace hQ2 := hQ2.grew g16
    have T16 : Turned (fun x => w.heap.size ≤ x) w w16 := T15.andThen g16 (fun _ _ e => e.elim)
    clear T15 g16 HH1
    go_wp2_with fail
    refine (heldG true false _ m bm bs _ r2 n2 s2 n2 s1 n1 n1 kv p2 F2 hc2 f2 f1 hM2 hQ2 hn2' hn1' hs2 hs1 (fun h => HH2.out (by first | exact h | trivial))).mono ?_
    rintro e w17 ⟨rfl, g17⟩
    have T17 : Turned (fun x => w.heap.size ≤ x) w w17 := T16.andThen g17 (fun _ _ e => e.elim)
    have B17 := T17.below (B := w.heap.size) (Nat.le_refl _) (fun _ e => e)
    clear T16 T17 g17 hs1 hs2 hM2 hQ1 hQ2 HH2
    go_wp2
    go_ret
    exact ⟨rfl, B17⟩

end Go.Proofs.Qxb6614494a
