import Derived.Test.Qxb6614494aSteps
namespace Go.Proofs.Qxb6614494a
open Go.RowKit Go.Maps
set_option linter.unusedVariables false

/-- the fourth loop, and what the admission leaves (at j = k): F' leads the ids that are resident now to their blocks -/
structure St4 (w0 w : World) (m : Nat) (c : Int) (bm bs : Nat) (F : Int → Option Nat) (n : Nat) (hc : Int → Int) (r : Nat) (p : Int) (hash : Value) (rb k kc : Nat) (f : Nat → Int) (adm : Bool) (pf : Int) (g cap : Nat) (F' : Int → Option Nat) (j : Nat) : Prop where
  mem : Mem w m c bm bs F' (n + freshN F f j) (hcNew F hc f k)
  ext : ∀ id b, F id = some b → F' id = some b
  new : ∀ id, F id = none → (F' id).isSome = hit f j id
  req : w.heap[r]? = some (.cells (reqCells p hash (.slice (some ⟨rb, 0, none⟩) k kc) (.slice (some ⟨g, 0, none⟩) k cap) adm pf) 51 (0, 0))
  row : w.rowIs rb 48 k (fun i => .int .u64 (f i))
  held : ∃ cur : Array Value, w.heap[g]? = some (.cells cur 49 (0, 0)) ∧ ∀ i, i < k → cur[i]? = some (optPtr (if i < j then F' (f i) else F (f i)))
  turned : Turned (fun b => b = m ∨ b = r ∨ b = bm ∨ ∃ id, F id = some b) w0 w
  far : w0.heap.size ≤ g
  born : ∀ id b, F' id = some b → F id = some b ∨ w0.heap.size ≤ b

section
variable {w0 w w' : World} {m bm bs n r rb k kc j cp g cap : Nat} {c p pf : Int} {F F' : Int → Option Nat} {hc : Int → Int} {hash : Value} {f : Nat → Int} {adm : Bool} {ao : Option Addr}

theorem St2.shape (h : St2 w0 w m c bm bs F n hc r p hash rb k kc f adm pf k k ao cp) (hk : 0 < k) : ∃ g, ao = some ⟨g, 0, none⟩ := by
  rcases h.own.2 with ⟨_, h0⟩ | ⟨g, cap, cur, e, _⟩
  · omega
  · exact ⟨g, by simpa using (Value.slice.inj e).1⟩

theorem St4.start (h : St2 w0 w m c bm bs F n hc r p hash rb k kc f adm pf k k (some ⟨g, 0, none⟩) cap) : St4 w0 w m c bm bs F n hc r p hash rb k kc f adm pf g cap F 0 := by
  refine ⟨h.mem.congr (fun id b hb => by simp [hcAt, hcNew, hb]), fun _ _ hh => hh, fun id hh => by simp [hh, hit], h.req, h.row, ?_, h.turned.mono (fun b _ hh => hh.elim (fun e => .inr (.inl e)) (fun e => .inr (.inr (.inr e)))), ?_, fun _ _ hh => .inl hh⟩
  · rcases h.own.2 with ⟨e, _⟩ | ⟨g', cap', cur, e, hb, hg, _, _, hs, ht⟩
    · simp at e
    · obtain ⟨rfl, rfl⟩ : g = g' ∧ cap = cap' := by simpa using e
      refine ⟨cur, hg, fun i hi => ?_⟩
      have : (cur.toList.take (k * 1))[i]? = (ptrs F f k)[i]? := by rw [ht]
      rw [List.getElem?_take, if_pos (by omega)] at this
      simp [ptrs, hi] at this
      simpa using this
  · exact (h.own.lt g rfl).1

/-- the id was resident -/
theorem St4.skip (h : St4 w0 w m c bm bs F n hc r p hash rb k kc f adm pf g cap F' j) {b : Nat} (hF : F (f j) = some b) : St4 w0 w m c bm bs F n hc r p hash rb k kc f adm pf g cap F' (j + 1) := by
  refine ⟨by rw [freshN_some hF]; exact h.mem, h.ext, fun id hh => ?_, h.req, h.row, ?_, h.turned, h.far, h.born⟩
  · rw [hit_succ_other (fun e => by rw [e, hh] at hF; cases hF)]; exact h.new id hh
  · obtain ⟨cur, hg, hcur⟩ := h.held
    refine ⟨cur, hg, fun i hi => ?_⟩
    rw [hcur i hi]
    by_cases e : i = j
    · subst e
      simp [hF, h.ext _ _ hF]
    · by_cases h' : i < j
      · simp [h', show i < j + 1 by omega]
      · simp [h', show ¬ i < j + 1 by omega]

/-- the id was not resident -/
theorem St4.absent (h : St4 w0 w m c bm bs F n hc r p hash rb k kc f adm pf g cap F' j) (hD : Dist f k) (hj : j < k) (hF : F (f j) = none) : F' (f j) = none := by
  have := h.new _ hF
  rw [hit_self hD hj] at this
  simpa using this

/-- behind the new block and the store into the row -/
structure Mid4 (w W : World) (m bm r g j nb : Nat) (id : Int) (c : Int) (bs : Nat) (F' : Int → Option Nat) (n' : Nat) (rq : Array Value) : Prop where
  mem : W.heap[m]? = some (.cells (memCells c bm bs) 64 (0, 0))
  map : MapIs W bm F' n'
  req : W.heap[r]? = some (.cells rq 51 (0, 0))
  cell : W.cell? ⟨g, j, none⟩ = some (.pointer (some ⟨nb, 0, none⟩))

theorem St4.mid (h : St4 w0 w m c bm bs F n hc r p hash rb k kc f adm pf g cap F' j) (hj : j < k) (v : Obj) :
    let W := (w.alloc v).setCell ⟨g, j, none⟩ (.pointer (some ⟨w.heap.size, 0, none⟩))
    (∀ (b : Nat) (o : Obj), w.heap[b]? = some o → (∀ cs z, o ≠ .cells cs 49 z) → W.heap[b]? = some o) ∧
    Mid4 w W m bm r g j w.heap.size (f j) c bs F' (n + freshN F f j) (reqCells p hash (.slice (some ⟨rb, 0, none⟩) k kc) (.slice (some ⟨g, 0, none⟩) k cap) adm pf) ∧
    (∃ cur : Array Value, W.heap[g]? = some (.cells cur 49 (0, 0)) ∧ ∀ i, i < k → cur[i]? = some (if i = j then (.pointer (some ⟨w.heap.size, 0, none⟩)) else optPtr (if i < j then F' (f i) else F (f i)))) ∧
    W.heap[w.heap.size]? = some v := by
  intro W
  obtain ⟨cur, hg, hcur⟩ := h.held
  have hlg := ltOf hg
  have hg' : (w.alloc v).heap[g]? = some (.cells cur 49 (0, 0)) := (Below.heap_alloc _ _ _ hlg).trans hg
  have key : ∀ (b : Nat) (o : Obj), w.heap[b]? = some o → (∀ cs z, o ≠ .cells cs 49 z) → W.heap[b]? = some o := by
    intro b o hb ho
    have hne : b ≠ g := neOf hb hg (ho cur (0, 0))
    rw [show W.heap[b]? = (w.alloc v).heap[b]? from setOf_other _ hne, Below.heap_alloc _ _ _ (ltOf hb)]
    exact hb
  obtain ⟨es, clk, hmp⟩ := h.mem.map.isMapBlock
  have hgW : W.heap[g]? = some (.cells (cur.setIfInBounds j (.pointer (some ⟨w.heap.size, 0, none⟩))) 49 (0, 0)) := setOf_same hg' j _
  have hlk : j < cur.size := by
    have := hcur j hj
    rcases Nat.lt_or_ge j cur.size with hh | hh
    · exact hh
    · rw [Array.getElem?_eq_none hh] at this; cases this
  refine ⟨key, ⟨key m _ h.mem.blk (by simp), h.mem.map.of_block (by rw [key bm _ hmp (by simp), hmp]), key r _ h.req (by simp), cellOf hgW j (by simp [hlk])⟩, ⟨_, hgW, fun i hi => ?_⟩, ?_⟩
  · rw [Array.getElem?_setIfInBounds]
    by_cases e : i = j
    · subst e; simp [hlk]
    · rw [if_neg (fun e' => e e'.symm), if_neg e]
      exact hcur i hi
  · rw [show W.heap[w.heap.size]? = (w.alloc v).heap[w.heap.size]? from setOf_other _ (fun e => by simp at e; omega)]
    exact heap_alloc_new w v

theorem St4.step (h : St4 w0 w m c bm bs F n hc r p hash rb k kc f adm pf g cap F' j) (hD : Dist f k) (hj : j < k) (hF : F (f j) = none) {w2 : World}
    (hm2 : MapIs w2 bm (fun id => if id = f j then some w.heap.size else F' id) (n + freshN F f j + 1))
    (hg2 : ((w.alloc (.cells (blkCells (f j) 1) 66)).setCell ⟨g, j, none⟩ (.pointer (some ⟨w.heap.size, 0, none⟩))).grownBy w2 (some bm)) :
    St4 w0 w2 m c bm bs F n hc r p hash rb k kc f adm pf g cap (fun id => if id = f j then some w.heap.size else F' id) (j + 1) := by
  obtain ⟨key, M, ⟨cur, hgW, hcur⟩, hnew⟩ := h.mid hj (.cells (blkCells (f j) 1) 66)
  have habs := h.absent hD hj hF
  have key2 : ∀ (b : Nat) (cs : Array Value) (t : TypeId), ((w.alloc (.cells (blkCells (f j) 1) 66)).setCell ⟨g, j, none⟩ (.pointer (some ⟨w.heap.size, 0, none⟩))).heap[b]? = some (.cells cs t (0, 0)) → w2.heap[b]? = some (.cells cs t (0, 0)) := by
    intro b cs t hb
    rw [hg2.block b (ltOf hb) (fun e => M.map.ne_cells hb (by simpa using e))]
    exact hb
  obtain ⟨cs, hrb⟩ := row_block h.row
  refine ⟨⟨key2 m _ _ M.mem, by rw [freshN_none hF]; exact hm2, ?_⟩, ?_, ?_, key2 r _ _ M.req, ?_, ⟨cur, key2 g _ _ hgW, ?_⟩, ?_, h.far, ?_⟩
  · intro id b hb
    by_cases e : id = f j
    · subst e
      simp at hb
      subst hb
      have : hcNew F hc f k (f j) = 1 := by
        unfold hcNew
        rw [hF, (hit_iff f k (f j)).2 ⟨j, hj, rfl⟩]
        simp
      rw [this]
      exact key2 _ _ _ hnew
    · simp only [if_neg e] at hb
      exact key2 _ _ _ (key b _ (h.mem.each id b hb) (by simp))
  · intro id b hb
    show (if id = f j then some w.heap.size else F' id) = some b
    rw [if_neg (fun e => by rw [e, hF] at hb; cases hb)]
    exact h.ext id b hb
  · intro id hh
    show (if id = f j then some w.heap.size else F' id).isSome = _
    by_cases e : id = f j
    · subst e; rw [hit_succ_self]; simp
    · rw [if_neg e, hit_succ_other (Ne.symm e)]; exact h.new id hh
  · have hrb2 := key2 rb _ _ (key rb _ hrb (by simp))
    exact h.row.of_block (hrb2.trans hrb.symm)
  · intro i hi
    rw [hcur i hi]
    by_cases e : i = j
    · subst e; simp [optPtr]
    · have hne : f i ≠ f j := fun e' => e (hD i j hi hj e')
      rw [if_neg e]
      by_cases h' : i < j
      · simp [h', show i < j + 1 by omega, hne]
      · simp [h', show ¬ i < j + 1 by omega]
  · have t1 : Turned (fun b => b = g) w ((w.alloc (.cells (blkCells (f j) 1) 66)).setCell ⟨g, j, none⟩ (.pointer (some ⟨w.heap.size, 0, none⟩))) := (Turned.alloc w _ _).trans (Turned.setCell _ (S := fun b => b = g) (a := ⟨g, j, none⟩) rfl _)
    refine (h.turned.andThen t1 (fun b hb e => ?_)).andThen (Turned.grown hg2 (S := fun b => b = bm) (fun b e => by simpa using e.symm)) (fun b _ e => .inr (.inr (.inl e)))
    have := h.far
    omega
  · intro id b hb
    by_cases e : id = f j
    · subst e
      simp at hb
      subst hb
      exact .inr h.turned.size
    · simp only [if_neg e] at hb
      exact h.born id b hb

/-- 'm.generated += 0' -/
theorem St4.last (h : St4 w0 w m c bm bs F n hc r p hash rb k kc f adm pf g cap F' j) : St4 w0 (w.drew.setCell ⟨m, 3, none⟩ (.int .i64 0)) m c bm bs F n hc r p hash rb k kc f adm pf g cap F' j := by
  have e : ∀ b : Nat, (w.drew.setCell ⟨m, 3, none⟩ (.int .i64 0)).heap[b]? = w.heap[b]? := by
    intro b
    by_cases e : b = m
    · subst e
      rw [setOf_same (w := w.drew) h.mem.blk, h.mem.blk]; rfl
    · exact setOf_other (w := w.drew) _ e
  obtain ⟨cur, hg, hcur⟩ := h.held
  exact ⟨⟨(e m).trans h.mem.blk, h.mem.map.of_block (e bm), fun id b hb => (e b).trans (h.mem.each id b hb)⟩, h.ext, h.new, (e r).trans h.req, h.row.of_block (e rb), ⟨cur, (e g).trans hg, hcur⟩,
    h.turned.trans ((Turned.drew w _).trans (Turned.setCell w.drew (S := fun b => b = m ∨ b = r ∨ b = bm ∨ ∃ id, F id = some b) (a := ⟨m, 3, none⟩) (.inl rfl) _)), h.far, h.born⟩

end
end Go.Proofs.Qxb6614494a
