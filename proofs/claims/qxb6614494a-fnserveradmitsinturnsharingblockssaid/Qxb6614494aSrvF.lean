import Derived.Test.Qxb6614494aSrvAdmit
namespace Go.Proofs.Qxb6614494a
open Go.RowKit Go.Maps
set_option linter.unusedVariables false

/-- a server has judged one request more; x: it was admitted -/
structure Judged (x : Bool) (base : Nat) (w0 w : World) (sv m bm bs n r : Nat) (kv p : Int) (F : Int → Option Nat) (hc : Int → Int) (k : Nat) (f : Nat → Int) (ao : Option Addr) (j cp : Nat) (xs : List Value)
    (F' : Int → Option Nat) (n' : Nat) (hc' : Int → Int) (ao' : Option Addr) (cp' : Nat) : Prop where
  mem : Mem w m kv bm bs F' n' hc'
  req : Req x w F' r p k f
  srv : Srv base w sv kv m ao' (if x then j + 1 else j) cp' (if x then xs ++ [.pointer (some ⟨r, 0, none⟩)] else xs)
  turned : Turned (SA w0 m r bm sv F (.slice ao j cp)) w0 w
  ext : ∀ id b, F id = some b → F' id = some b
  cnt : n' = if x then n + freshN F f k else n
  has : ∀ id, (F' id).isSome = ((F id).isSome || (x && hit f k id))
  hold : ∀ id, (F' id).isSome = true → hc' id = (if (F id).isSome then hc id else 0) + if x && hit f k id then 1 else 0
  born : ∀ id b, F' id = some b → F id = some b ∨ w0.heap.size ≤ b

theorem srvAdmitF (x : Bool) (base : Nat) (w : World) (sv m bm bs n r rh rb k hcap kc j cp : Nat) (kv p : Int) (F : Int → Option Nat) (hc : Int → Int) (f : Nat → Int) (ao : Option Addr) (xs : List Value)
    (hx : decide (512 * (n : Int) + (512 * (freshN F f k : Int) + 1) ≤ kv) = x)
    (hM : Mem w m kv bm bs F n hc) (hS : Srv base w sv kv m ao j cp xs) (hR : w.heap[r]? = some (.cells (reqCells p (.slice (some ⟨rh, 0, none⟩) k hcap) (.slice (some ⟨rb, 0, none⟩) k kc) (.slice none 0 0) false 0) 51 (0, 0)))
    (hB : w.rowIs rb 48 k (fun i => .int .u64 (f i))) (hH : w.rowIs rh 48 k (fun i => .int .u64 (f i))) (hwf : ∀ i, i < k → (Lit.int .u64 (f i)).wf = true) (hD : Dist f k) (hcb : ∀ id b, F id = some b → 1 ≤ hc id ∧ hc id ≤ 1000)
    (hk0 : 0 < k) (hk : k ≤ 4096) (hn : n ≤ 4096) (hc63 : -9223372036854775808 ≤ kv ∧ kv ≤ 9223372036854775807)
    (hp1 : 1 ≤ p) (hp2 : p ≤ 1073741824) (hj : j ≤ 1048576) (hbase : base ≤ w.heap.size) :
    Calls Try.prog 19 #[.pointer (some ⟨sv, 0, none⟩), .pointer (some ⟨r, 0, none⟩)] w fun e w' => e = .returned (.bool x) ∧ ∃ F' n' hc' ao' cp', Judged x base w w' sv m bm bs n r kv p F hc k f ao j cp xs F' n' hc' ao' cp' := by
  have key : Calls Try.prog 30 #[.pointer (some ⟨sv, 0, none⟩), .pointer (some ⟨r, 0, none⟩)] w fun e w' => e = .returned (.bool x) ∧ ∃ F' n' hc' ao' cp', Judged x base w w' sv m bm bs n r kv p F hc k f ao j cp xs F' n' hc' ao' cp' := by
    cases x with
    | true =>
      refine (srvAdmit_yes base w sv m bm bs n r rh rb k hcap kc j cp kv p F hc f ao xs hM hS hR hB hH hwf hD hcb hk0 hk hn (by simpa using hx) hc63 hp1 hp2 hj hbase).mono ?_
      rintro e w' ⟨rfl, F', ao', cp', h⟩
      refine ⟨rfl, F', _, _, ao', cp', h.mem, h.req, h.srv, h.turned, h.ext, rfl, fun id => ?_, fun id _ => rfl, h.born⟩
      cases e : F id with
      | some b => rw [h.ext _ _ e]; simp
      | none => rw [h.new _ e]; simp
    | false =>
      have hno : ¬ (512 * (n : Int) + (512 * (freshN F f k : Int) + 1) ≤ kv) := by simpa using hx
      refine (srvAdmit_no base w sv m bm bs n r rh rb k hcap kc j cp kv p F hc f ao xs hM hS hR hB hwf hD hcb hk0 hk hn (by omega) hc63).mono ?_
      rintro e w' ⟨rfl, g⟩
      refine ⟨rfl, F, n, hc, ao, cp, g.mem hM, ⟨_, _, _, g.heap hR, fun _ => rfl, (fun e => by cases e)⟩, hS.keep g (fun e => e) (fun _ e => e.elim), Turned.mono g (fun _ _ e => e.elim), fun _ _ e => e, rfl, fun id => by simp, fun id h => by simp [h], fun _ _ e => .inl e⟩
  go_enter Try.func19, Try.ntmps19
  go_wp2_with (go_at_call 30; refine key.mono ?_; rintro e w' ⟨rfl, hR⟩)
  go_ret
  exact ⟨rfl, hR⟩

theorem srvUsedF (base : Nat) (w : World) (sv m bm bs n j cp : Nat) (kv : Int) (F : Int → Option Nat) (hc : Int → Int) (ao : Option Addr) (xs : List Value) (hM : Mem w m kv bm bs F n hc) (hS : Srv base w sv kv m ao j cp xs) (hn : n ≤ 1048576) :
    Calls Try.prog 20 #[.pointer (some ⟨sv, 0, none⟩)] w fun e w' => e = .returned (.int .i64 (512 * n)) ∧ Grew w w' :=
  srvUsed_any w sv m bm n F (cellOf hS.blk 5 rfl) hM.c1 hM.c3 hM.map hn

theorem freshAfterF (x : Bool) (w : World) (F : Int → Option Nat) (r k : Nat) (p : Int) (f : Nat → Int) (h : Req x w F r p k f) :
    Calls Try.prog 22 #[.pointer (some ⟨r, 0, none⟩), .bool x, .int .i64 p] w fun e w' => e = .returned (.bool true) ∧ w = w' := by
  obtain ⟨hash, blocks, held, hR, _⟩ := h
  exact freshAfter_any w r p _ x (cellOf hR 6 rfl) (cellOf hR 7 rfl) (cellOf hR 8 rfl) (cellOf hR 9 rfl) rfl

theorem heldG (x y : Bool) (w : World) (m bm bs n r k s cap2 s2 n2 cap3 : Nat) (c p : Int) (F : Int → Option Nat) (hc : Int → Int) (f f2 : Nat → Int) (hM : Mem w m c bm bs F n hc) (hR : Req x w F r p k f) (hk : k ≤ 4096) (hn2 : n2 ≤ 4096)
    (hs : w.rowIs s 48 k (fun i => .int .u64 (f i))) (hs2 : w.rowIs s2 48 n2 (fun i => .int .u64 (f2 i))) (hh : x = true → ∀ i, i < k → hc (f i) = if y && hit f2 n2 (f i) then 2 else 1) :
    Calls Try.prog 13 #[.pointer (some ⟨r, 0, none⟩), .slice (some ⟨s, 0, none⟩) k cap2, .bool x, .slice (some ⟨s2, 0, none⟩) n2 cap3, .bool y] w fun e w' => e = .returned (.bool true) ∧ Grew w w' := by
  obtain ⟨hash, blocks, held, hb, h0, h1⟩ := hR
  cases x with
  | false =>
    obtain rfl := h0 rfl
    refine (held_no w r k cap2 _ _ n2 cap3 y (cellOf hb 5 rfl)).mono ?_
    rintro e w' ⟨he, rfl⟩
    exact ⟨he, Grew.refl _⟩
  | true =>
    obtain ⟨g, cap, cur, rfl, hg, hcur⟩ := h1 rfl
    have q : ∀ i, i < k → F (f i) = some (blOf F f i) ∧ cur[i]? = some (.pointer (some ⟨blOf F f i, 0, none⟩)) := fun i hi => by
      obtain ⟨b, hb, hc⟩ := hcur i hi
      have : blOf F f i = b := by unfold blOf; rw [hb]; rfl
      rw [this]; exact ⟨hb, hc⟩
    have c1 : ∀ i, i < k → w.cell? ⟨s, 0 + i, none⟩ = some (.int .u64 (f i)) := fun i hi => by rw [Nat.zero_add]; exact hs.cell hi
    have c2 : ∀ i, i < n2 → w.cell? ⟨s2, 0 + i, none⟩ = some (.int .u64 (f2 i)) := fun i hi => by rw [Nat.zero_add]; exact hs2.cell hi
    cases y with
    | false =>
      refine (held_alone w r g s 0 k cap cap2 _ n2 cap3 f (blOf F f) (by omega) (cellOf hb 5 rfl) c1 (fun i hi => cellOf hg i (q i hi).2) (fun i hi => cellOf (hM.each _ _ (q i hi).1) 0 rfl)
        (fun i hi => (cellOf (hM.each _ _ (q i hi).1) 1 rfl).trans (by rw [hh rfl i hi]; rfl))).mono ?_
      rintro e w' ⟨he, d, rfl⟩
      exact ⟨he, Grew.drewN w d⟩
    | true =>
      refine (held_both w r g s 0 k cap cap2 s2 0 n2 cap3 f f2 (blOf F f) (by omega) (by omega) (cellOf hb 5 rfl) c1 c2 (fun i hi => cellOf hg i (q i hi).2) (fun i hi => cellOf (hM.each _ _ (q i hi).1) 0 rfl)
        (fun i hi => (cellOf (hM.each _ _ (q i hi).1) 1 rfl).trans (by rw [hh rfl i hi]; rfl))).mono ?_
      rintro e w' ⟨he, d, rfl⟩
      exact ⟨he, Grew.drewN w d⟩

theorem Req.grew {x : Bool} {w w' : World} {F : Int → Option Nat} {r k : Nat} {p : Int} {f : Nat → Int} (h : Req x w F r p k f) (t : Grew w w') : Req x w' F r p k f := h.keep t (fun e => e) (fun _ e => e.elim) (fun _ _ e => e)
theorem Srv.grew {base : Nat} {w w' : World} {sv m j cp : Nat} {kv : Int} {ao : Option Addr} {xs : List Value} (h : Srv base w sv kv m ao j cp xs) (t : Grew w w') : Srv base w' sv kv m ao j cp xs := h.keep t (fun e => e) (fun _ e => e.elim)

theorem freshN_congr {F G : Int → Option Nat} {f : Nat → Int} (h : ∀ id, (F id).isNone = (G id).isNone) (k : Nat) : freshN F f k = freshN G f k := by
  induction k with
  | zero => rfl
  | succ k ih => simp only [freshN, ih, h]

/-- of the blocks that a server's admission may turn none is a row of ids, a row of pointers, another request -/
theorem SA_not {base : Nat} {w : World} {sv m bm bs n r j cp : Nat} {kv : Int} {F : Int → Option Nat} {hc : Int → Int} {ao : Option Addr} {xs : List Value} {rq : Array Value} (hM : Mem w m kv bm bs F n hc) (hS : Srv base w sv kv m ao j cp xs) (hR : w.heap[r]? = some (.cells rq 51 (0, 0)))
    {t : TypeId} (h1 : t ≠ 64) (h2 : t ≠ 51) (h3 : t ≠ 66) (h4 : t ≠ 58) (h5 : t ≠ 28) : ∀ b, SA w m r bm sv F (.slice ao j cp) b → ∀ cs z, w.heap[b]? ≠ some (.cells cs t z) := by
  rintro b (rfl | rfl | rfl | ⟨id, e⟩ | rfl | e) cs z hb
  · have := hM.blk.symm.trans hb; simp at this; exact h1 this.2.1.symm
  · have := hR.symm.trans hb; simp at this; exact h2 this.2.1.symm
  · exact hM.map.ne_cells hb rfl
  · have := (hM.each id b e).symm.trans hb; simp at this; exact h3 this.2.1.symm
  · have := hS.blk.symm.trans hb; simp at this; exact h4 this.2.1.symm
  · exact ownsRow_ne28 hS.own hb (fun cs' z' => by simp; exact fun _ e => absurd e h5) e
theorem SA_req {base : Nat} {w : World} {sv m bm bs n r r' j cp : Nat} {kv : Int} {F : Int → Option Nat} {hc : Int → Int} {ao : Option Addr} {xs : List Value} {rq : Array Value} (hM : Mem w m kv bm bs F n hc) (hS : Srv base w sv kv m ao j cp xs) (hR : w.heap[r']? = some (.cells rq 51 (0, 0)))
    (hne : r' ≠ r) : ¬ SA w m r bm sv F (.slice ao j cp) r' := by
  rintro (e | e | e | ⟨id, e⟩ | e | e)
  · exact neOf hR hM.blk (by simp) e
  · exact hne e
  · exact hM.map.ne_cells hR e
  · exact neOf hR (hM.each id _ e) (by simp) rfl
  · exact neOf hR hS.blk (by simp) e
  · exact ownsRow_ne28 hS.own hR (by simp) e

end Go.Proofs.Qxb6614494a
