import Derived.Test.Qxb6614494aSteps4
namespace Go.Proofs.Qxb6614494a
open Go.RowKit Go.Maps
set_option linter.unusedVariables false

theorem hold_abs (m b : Nat) (id h : Int) (w : World) (hb : w.heap[b]? = some (.cells (blkCells id h) 66 (0, 0))) (hp : 1 ≤ h) (hq : h ≤ 1048576) :
    Calls Try.prog 35 #[.pointer (some ⟨m, 0, none⟩), .pointer (some ⟨b, 0, none⟩)] w fun e w' => e = .returned (.tuple #[]) ∧ w'.heap[b]? = some (.cells (blkCells id (h + 1)) 66 (0, 0)) ∧ Turned (fun x => x = b) w w' :=
  (hold_any m b h w (cellOf hb 1 rfl) (freeOf hb 1) hp hq).mono fun e w' ⟨he, hw⟩ => ⟨he, by rw [hw, setOf_same hb]; rfl, by rw [hw]; exact Turned.setCell w (S := fun x => x = b) (a := ⟨b, 1, none⟩) rfl _⟩

theorem St2.req1 {w0 w : World} {m bm bs n r rb k kc j cp : Nat} {c p pf : Int} {F : Int → Option Nat} {hc : Int → Int} {hash : Value} {f : Nat → Int} {adm : Bool} {ao : Option Addr} {j' : Nat}
    (h : St2 w0 w m c bm bs F n hc r p hash rb k kc f adm pf j' j ao cp) {w1 : World} {q : Value} (hg : (w.alloc (.cells #[q] 49)).grownBy w1 (Value.ownBlock (.slice ao j cp))) :
    w1.heap[r]? = some (.cells (reqCells p hash (.slice (some ⟨rb, 0, none⟩) k kc) (.slice ao j cp) adm pf) 51 (0, 0)) := by
  have hlt := ltOf h.req
  rw [hg.block r (by simp; omega) (ownsRow_ne h.own h.req (by simp)), Below.heap_alloc _ _ _ hlt]
  exact h.req

section
variable {w0 w : World} {m bm bs n r rb k kc j g cap : Nat} {c p pf : Int} {F F' : Int → Option Nat} {hc : Int → Int} {hash : Value} {f : Nat → Int} {adm : Bool}
theorem St4.drewN (h : St4 w0 w m c bm bs F n hc r p hash rb k kc f adm pf g cap F' j) (q : Nat) : St4 w0 (w.drewN q) m c bm bs F n hc r p hash rb k kc f adm pf g cap F' j :=
  ⟨⟨h.mem.blk, h.mem.map.of_block rfl, h.mem.each⟩, h.ext, h.new, h.req, h.row.of_block rfl, h.held, h.turned.trans (Turned.drewN w _ q), h.far, h.born⟩
theorem St4.cellNone (h : St4 w0 w m c bm bs F n hc r p hash rb k kc f adm pf g cap F' j) (hj : j < k) (hF : F (f j) = none) : w.cell? ⟨g, j, none⟩ = some (.pointer none) := by
  obtain ⟨cur, hg, hcur⟩ := h.held
  have := hcur j hj
  rw [if_neg (Nat.lt_irrefl _), hF] at this
  exact cellOf hg j this
theorem St4.cellSome (h : St4 w0 w m c bm bs F n hc r p hash rb k kc f adm pf g cap F' j) (hj : j < k) {b : Nat} (hF : F (f j) = some b) : w.cell? ⟨g, j, none⟩ = some (.pointer (some ⟨b, 0, none⟩)) := by
  obtain ⟨cur, hg, hcur⟩ := h.held
  have := hcur j hj
  rw [if_neg (Nat.lt_irrefl _), hF] at this
  exact cellOf hg j this
theorem St4.free (h : St4 w0 w m c bm bs F n hc r p hash rb k kc f adm pf g cap F' j) (i : Nat) : w.frozen? ⟨g, i, none⟩ = false := by
  obtain ⟨cur, hg, hcur⟩ := h.held
  exact freeOf hg i
end

set_option maxRecDepth 100000 in
set_option maxHeartbeats 1000000 in
theorem admit_no (w : World) (m bm bs n r rb k kc : Nat) (c p pf : Int) (F : Int → Option Nat) (hc : Int → Int) (hash : Value) (f : Nat → Int) (adm : Bool)
    (hM : Mem w m c bm bs F n hc) (hR : w.heap[r]? = some (.cells (reqCells p hash (.slice (some ⟨rb, 0, none⟩) k kc) (.slice none 0 0) adm pf) 51 (0, 0)))
    (hB : w.rowIs rb 48 k (fun i => .int .u64 (f i))) (hwf : ∀ i, i < k → (Lit.int .u64 (f i)).wf = true) (hD : Dist f k) (hcb : ∀ id b, F id = some b → 1 ≤ hc id ∧ hc id ≤ 1000)
    (hk0 : 0 < k) (hk : k ≤ 4096) (hn : n ≤ 4096) (hno : c < 512 * (n : Int) + (512 * (freshN F f k : Int) + 1)) (hc63 : -9223372036854775808 ≤ c ∧ c ≤ 9223372036854775807) :
    Calls Try.prog 26 #[.pointer (some ⟨m, 0, none⟩), .pointer (some ⟨r, 0, none⟩)] w fun e w' => e = .returned (.bool false) ∧ ∃ d, w' = w.drewN d := by
  have h4 : w.cell? ⟨r, 4, none⟩ = some (.slice (some ⟨rb, 0, none⟩) k kc) := cellOf hR 4 rfl
  have h10 : w.cell? ⟨r, 10, none⟩ = some (.int .i64 0) := cellOf hR 10 rfl
  have hm0 := hM.c0
  have hm1 := hM.c1
  have hm2 := hM.c2
  go_enter Try.func26, Try.ntmps26
  go_wp2
  go_loop [5, 6, 21] (fun a o i => ∃ j : Nat, j ≤ k ∧ i = .int .i64 j ∧ o = .int .i64 0 ∧ a = .int .i64 (freshN F f j)) (fun _ _ i => k - (intOf i).toNat)
  case atStart => exact ⟨0, Nat.zero_le _, rfl, rfl, rfl⟩
  case round =>
    obtain ⟨j, hj, rfl, rfl, rfl⟩ := hrel
    have hfl := freshN_le F f j
    by_cases hlt : j < k
    · have hcj := hB.cell hlt
      have hw := hwf j hlt
      cases hF : F (f j) with
      | none =>
        have hlk := hM.map.look_none hw hF
        have HF : Hid (F (f j) = none) := hF
        clear hM hR hB hwf hD hcb hno hF hw
        go_wp2
        go_round
        case rel => exact ⟨j + 1, by omega, by go_num, rfl, by rw [freshN_none HF.out]; go_num⟩
        case measure => simp [intOf]; omega
      | some b =>
        have hlk := hM.map.look_some hw hF
        have hb := hM.each _ _ hF
        have hb1 : w.cell? ⟨b, 1, none⟩ = some (.int .i64 (hc (f j))) := cellOf hb 1 rfl
        have hz := (hcb _ _ hF).1
        have hz' : (hc (f j) == 0) = false := by simp; omega
        have HF : Hid (F (f j) = some b) := hF
        clear hM hR hB hwf hD hcb hno hF hw hb hz
        go_wp2
        go_round
        case rel => exact ⟨j + 1, by omega, by go_num, rfl, by rw [freshN_some HF.out]⟩
        case measure => simp [intOf]; omega
    · have : j = k := by omega
      subst this
      have h3 := hM.c3
      have hlen : ∀ ty nq, (Builtin.len_ #[60] ty #[.map (some bm)]).run Try.prog (w.drewN nq) = .ok (.int .i64 n) (w.drewN nq) := fun ty nq => (hM.map.of_block (w' := w.drewN nq) rfl).len ty
      have hmp := hM.map
      clear hM hR hB hwf hD hcb
      go_wp2
      go_quiet ((go_at_call 27; exact Calls.quiet_of (used_any m bm n F _ (by simpa using hm1) (by simpa using h3) (hmp.of_block rfl) (by omega))))
      go_wp2
      go_ret
      exact ⟨rfl, _, rfl⟩

set_option maxRecDepth 100000 in
set_option maxHeartbeats 4000000 in
theorem admit_yes (w : World) (m bm bs n r rb k kc : Nat) (c p pf : Int) (F : Int → Option Nat) (hc : Int → Int) (hash : Value) (f : Nat → Int) (adm : Bool)
    (hM : Mem w m c bm bs F n hc) (hR : w.heap[r]? = some (.cells (reqCells p hash (.slice (some ⟨rb, 0, none⟩) k kc) (.slice none 0 0) adm pf) 51 (0, 0)))
    (hB : w.rowIs rb 48 k (fun i => .int .u64 (f i))) (hwf : ∀ i, i < k → (Lit.int .u64 (f i)).wf = true) (hD : Dist f k) (hcb : ∀ id b, F id = some b → 1 ≤ hc id ∧ hc id ≤ 1000)
    (hk0 : 0 < k) (hk : k ≤ 4096) (hn : n ≤ 4096) (hyes : 512 * (n : Int) + (512 * (freshN F f k : Int) + 1) ≤ c) (hc63 : -9223372036854775808 ≤ c ∧ c ≤ 9223372036854775807) :
    Calls Try.prog 26 #[.pointer (some ⟨m, 0, none⟩), .pointer (some ⟨r, 0, none⟩)] w fun e w' => e = .returned (.bool true) ∧ ∃ g cap F', St4 w w' m c bm bs F n hc r p hash rb k kc f adm pf g cap F' k := by
  have h4 : w.cell? ⟨r, 4, none⟩ = some (.slice (some ⟨rb, 0, none⟩) k kc) := cellOf hR 4 rfl
  have h10 : w.cell? ⟨r, 10, none⟩ = some (.int .i64 0) := cellOf hR 10 rfl
  have hm0 := hM.c0
  have hm1 := hM.c1
  have hm2 := hM.c2
  go_enter Try.func26, Try.ntmps26
  go_wp2
  go_loop [5, 6, 21] (fun a o i => ∃ j : Nat, j ≤ k ∧ i = .int .i64 j ∧ o = .int .i64 0 ∧ a = .int .i64 (freshN F f j)) (fun _ _ i => k - (intOf i).toNat)
  case atStart => exact ⟨0, Nat.zero_le _, rfl, rfl, rfl⟩
  case round =>
    obtain ⟨j, hj, rfl, rfl, rfl⟩ := hrel
    have hfl := freshN_le F f j
    by_cases hlt : j < k
    · have hcj := hB.cell hlt
      have hw := hwf j hlt
      cases hF : F (f j) with
      | none =>
        have hlk := hM.map.look_none hw hF
        have HF : Hid (F (f j) = none) := hF
        clear hM hR hB hwf hD hcb hyes hF hw
        go_wp2
        go_round
        case rel => exact ⟨j + 1, by omega, by go_num, rfl, by rw [freshN_none HF.out]; go_num⟩
        case measure => simp [intOf]; omega
      | some b =>
        have hlk := hM.map.look_some hw hF
        have hb := hM.each _ _ hF
        have hb1 : w.cell? ⟨b, 1, none⟩ = some (.int .i64 (hc (f j))) := cellOf hb 1 rfl
        have hz := (hcb _ _ hF).1
        have hz' : (hc (f j) == 0) = false := by simp; omega
        have HF : Hid (F (f j) = some b) := hF
        clear hM hR hB hwf hD hcb hyes hF hw hb hz
        go_wp2
        go_round
        case rel => exact ⟨j + 1, by omega, by go_num, rfl, by rw [freshN_some HF.out]⟩
        case measure => simp [intOf]; omega
    · have : j = k := by omega
      subst this
      have h3 := hM.c3
      have hlen : ∀ ty nq, (Builtin.len_ #[60] ty #[.map (some bm)]).run Try.prog (w.drewN nq) = .ok (.int .i64 n) (w.drewN nq) := fun ty nq => (hM.map.of_block (w' := w.drewN nq) rfl).len ty
      have hmp := hM.map
      have h5 : w.cell? ⟨r, 5, none⟩ = some (.slice none 0 0) := cellOf hR 5 rfl
      have f5 : w.frozen? ⟨r, 5, none⟩ = false := freeOf hR 5
      have HB : Hid (w.rowIs rb 48 j (fun i => .int .u64 (f i))) := hB
      have HD : Hid (Dist f j) := hD
      have HCB : Hid (∀ id b, F id = some b → 1 ≤ hc id ∧ hc id ≤ 1000) := hcb
      have HWF : Hid (∀ i, i < j → (Lit.int .u64 (f i)).wf = true) := hwf
      have HR : Hid (w.heap[r]? = some (.cells (reqCells p hash (.slice (some ⟨rb, 0, none⟩) j kc) (.slice none 0 0) adm pf) 51 (0, 0))) := hR
      clear hB hwf hD hcb hR
      go_wp2
      go_quiet ((go_at_call 27; exact Calls.quiet_of (used_any m bm n F _ (by simpa using hm1) (by simpa using h3) (hmp.of_block rfl) (by omega))))
      have s0 := St2.start hM HR.out HB.out nq
      clear hM hlen hmp h3
      go_wp2
      clear h4 h5 f5 h10 hm0 hm1 hm2
      go_loopw [84] (fun t wr => ∃ (i : Nat) (ao : Option Addr) (cp : Nat), i ≤ j ∧ t = .int .i64 i ∧ St2 w wr m c bm bs F n hc r p hash rb j kc f adm pf i i ao cp) (fun t _ => j - (intOf t).toNat)
      case atStart => exact ⟨0, none, 0, Nat.zero_le _, rfl, s0⟩
      case round =>
        obtain ⟨i, ao, cp, hi, rfl, hs⟩ := hrel
        clear s0
        by_cases hlt : i < j
        · have hci := hs.row.cell hlt
          have hm1 := hs.mem.c1
          cases hF : F (f i) with
          | none =>
            have hlk := hs.mem.map.look_none (HWF.out i hlt) hF
            have h5 : wr.cell? ⟨r, 5, none⟩ = some (.slice ao i cp) := cellOf hs.req 5 rfl
            have hs' := hs.skip hF
            have hown := hs.own
            have hbase := hs.turned.size
            have HF : Hid (F (f i) = none) := hF
            clear hF hs
            go_wp2_with (first
              | (at_builtin; refine wpList_append_ptr wr rfl _ _ rfl w.heap.size ao i cp (ptrs F f i) rfl hown none rfl (by omega) hbase ?_; intro g cap w1 hown1 hg1; have c5 : w1.cell? ⟨r, 5, none⟩ = some (.slice ao i cp) := cellOf (hs'.req1 hg1) 5 rfl; have f5 : w1.frozen? ⟨r, 5, none⟩ = false := freeOf (hs'.req1 hg1) 5)
              | go_in)
            go_roundw
            case rel => exact ⟨i + 1, some ⟨g, 0, none⟩, cap, by omega, by go_num, hs'.step (by rw [HF.out]; rfl) hown1 hg1⟩
            case measure => simp [intOf]; omega
          | some b =>
            have hlk := hs.mem.map.look_some (HWF.out i hlt) hF
            have hb0 := hs.mem.each _ _ hF
            have hcb := HCB.out _ _ hF
            have hbd : 1 ≤ hcAt hc f i (f i) ∧ hcAt hc f i (f i) ≤ 1048576 := by unfold hcAt; split <;> omega
            have hbd1 := hbd.1
            have hbd2 := hbd.2
            have HS : Hid (St2 w wr m c bm bs F n hc r p hash rb j kc f adm pf i i ao cp) := hs
            have HF : Hid (F (f i) = some b) := hF
            clear hF hs hcb hbd
            go_wp2_with (first
              | (go_at_call 35; refine (hold_abs m b (f i) (hcAt hc f i (f i)) _ hb0 hbd1 hbd2).mono ?_; rintro e w2 ⟨rfl, hb2, ht2⟩; have hs' := HS.out.held HD.out hlt HF.out hb2 ht2; have h5 : w2.cell? ⟨r, 5, none⟩ = some (.slice ao i cp) := cellOf hs'.req 5 rfl; have hown := hs'.own; have hbase := hs'.turned.size; clear hb2 ht2)
              | (at_builtin; refine wpList_append_ptr w2 rfl _ _ rfl w.heap.size ao i cp (ptrs F f i) rfl hown (some ⟨b, 0, none⟩) rfl (by omega) hbase ?_; intro g cap w1 hown1 hg1; have c5 : w1.cell? ⟨r, 5, none⟩ = some (.slice ao i cp) := cellOf (hs'.req1 hg1) 5 rfl; have f5 : w1.frozen? ⟨r, 5, none⟩ = false := freeOf (hs'.req1 hg1) 5)
              | go_in)
            go_roundw
            case rel => exact ⟨i + 1, some ⟨g, 0, none⟩, cap, by omega, by go_num, hs'.step (by rw [HF.out]; rfl) hown1 hg1⟩
            case measure => simp [intOf]; omega
        · have : i = j := by omega
          subst this
          obtain ⟨g, rfl⟩ := hs.shape hk0
          have s4 := St4.start hs
          have hm0 := s4.mem.c0
          have hm1 := s4.mem.c1
          have hm2 := s4.mem.c2
          have hm3 := s4.mem.c3
          have hmp := hs.mem.map
          have h4 : wr.cell? ⟨r, 4, none⟩ = some (.slice (some ⟨rb, 0, none⟩) i kc) := cellOf hs.req 4 rfl
          clear hs
          go_wp2
          refine wp_loop_rounds 1 ?_
          rw [rounds_succ]
          have hfl := freshN_le F f i
          go_wp2
          go_quiet ((go_at_call 27; exact Calls.quiet_of (used_any m bm n F _ (by simpa using hm1) (by simpa using hm3) (hmp.of_block rfl) (by omega))))
          go_wp2
          have s4' := s4.drewN nq
          clear s4 hm0 hm1 hm2 hm3 hmp h4
          go_loopw [126] (fun t wr => ∃ (x : Nat) (F' : Int → Option Nat), x ≤ i ∧ t = .int .i64 x ∧ St4 w wr m c bm bs F n hc r p hash rb i kc f adm pf g cp F' x) (fun t _ => i - (intOf t).toNat)
          case atStart => exact ⟨0, F, Nat.zero_le _, rfl, s4'⟩
          case round =>
            obtain ⟨x, F', hx, rfl, hs⟩ := hrel
            clear s4'
            by_cases hlx : x < i
            · have hci := hs.row.cell hlx
              have h5 : wr.cell? ⟨r, 5, none⟩ = some (.slice (some ⟨g, 0, none⟩) i cp) := cellOf hs.req 5 rfl
              cases hF : F (f x) with
              | none =>
                have hgx := hs.cellNone hlx hF
                have hgf := hs.free x
                have hgl := World.block_lt_of_cell? wr ⟨g, x, none⟩ hgx
                have HF : Hid (F (f x) = none) := hF
                have HS : Hid (St4 w wr m c bm bs F n hc r p hash rb i kc f adm pf g cp F' x) := hs
                have ga : ∀ o, (wr.alloc o).cell? ⟨g, x, none⟩ = some (.pointer none) := fun o => (World.cell?_of_block (Below.heap_alloc _ _ _ hgl)).trans hgx
                have gf : ∀ o, (wr.alloc o).frozen? ⟨g, x, none⟩ = false := fun o => (World.frozen?_of_block (Below.heap_alloc _ _ _ hgl)).trans hgf
                clear hF hs
                go_wp2
                obtain ⟨W, hW⟩ : ∃ W, W = (wr.setCell ⟨g, x, none⟩ (.pointer (some ⟨wr.heap.size, 0, none⟩))).alloc (.cells (blkCells (f x) 1) 66) := ⟨_, rfl⟩
                have hWe : W = (wr.alloc (.cells (blkCells (f x) 1) 66)).setCell ⟨g, x, none⟩ (.pointer (some ⟨wr.heap.size, 0, none⟩)) := hW.trans (World.setCell_alloc_past _ _ _ _ hgl).symm
                unfold blkCells at hW
                rw [← hW]
                obtain ⟨key, M, _, _⟩ := HS.out.mid hlx (.cells (blkCells (f x) 1) 66)
                rw [← hWe] at M
                have m1 : W.cell? ⟨m, 1, none⟩ = some (.map (some bm)) := cellOf M.mem 1 rfl
                have r5 : W.cell? ⟨r, 5, none⟩ = some (.slice (some ⟨g, 0, none⟩) i cp) := cellOf M.req 5 rfl
                have gx := M.cell
                have hfx := freshN_le F f x
                obtain ⟨w2, hrun, hm2, hg2⟩ := (M.map.of_block (w' := W.drew) rfl).store wr.heap.size (HWF.out x hlx) (HS.out.absent HD.out hlx HF.out) (by unfold maxLen; omega)
                have hs' := HS.out.step HD.out hlx HF.out hm2 (by rw [← hWe]; exact ⟨hg2.os, hg2.tape, hg2.output, hg2.size, hg2.block⟩)
                clear hm2 hg2 M key hWe hW ga gf hgx hgf h5 hci
                go_region
                go_wp2
                go_roundw
                case rel => exact ⟨x + 1, _, by omega, by go_num, hs'⟩
                case measure => simp [intOf]; omega
              | some b =>
                have hgx := hs.cellSome hlx hF
                have hs' := hs.skip hF
                clear hF hs
                go_wp2
                go_roundw
                case rel => exact ⟨x + 1, F', by omega, by go_num, hs'⟩
                case measure => simp [intOf]; omega
            · obtain rfl : x = i := by omega
              have m3 := hs.mem.c3
              have mf : wr.frozen? ⟨m, 3, none⟩ = false := freeOf hs.mem.blk 3
              have r10 : wr.cell? ⟨r, 10, none⟩ = some (.int .i64 0) := cellOf hs.req 10 rfl
              have hs' := hs.last
              clear hs
              go_wp2
              go_region
              go_wp2
              go_ret
              exact ⟨rfl, g, cp, F', hs'⟩

end Go.Proofs.Qxb6614494a
