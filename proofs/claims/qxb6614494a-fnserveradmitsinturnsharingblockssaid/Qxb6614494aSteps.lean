import Derived.Test.Qxb6614494aSmall
namespace Go.Proofs.Qxb6614494a
open Go.RowKit Go.Maps
set_option linter.unusedVariables false

/-! ### plain counting -/
def hit (f : Nat → Int) : Nat → Int → Bool
  | 0, _ => false
  | j + 1, id => hit f j id || f j == id
def freshN (F : Int → Option Nat) (f : Nat → Int) : Nat → Nat
  | 0 => 0
  | j + 1 => freshN F f j + if (F (f j)).isNone then 1 else 0

theorem hit_iff (f : Nat → Int) (j : Nat) (id : Int) : hit f j id = true ↔ ∃ i, i < j ∧ f i = id := by
  induction j with
  | zero => simp [hit]
  | succ j ih =>
    simp only [hit, Bool.or_eq_true, ih, beq_iff_eq]
    constructor
    · rintro (⟨i, hi, e⟩ | e)
      · exact ⟨i, by omega, e⟩
      · exact ⟨j, by omega, e⟩
    · rintro ⟨i, hi, e⟩
      by_cases h : i = j
      · subst h; exact .inr e
      · exact .inl ⟨i, by omega, e⟩
theorem hit_false {f : Nat → Int} {j : Nat} {id : Int} (h : ∀ i, i < j → f i ≠ id) : hit f j id = false := by
  cases e : hit f j id with
  | false => rfl
  | true => obtain ⟨i, hi, e'⟩ := (hit_iff f j id).1 e; exact absurd e' (h i hi)
theorem hit_self {f : Nat → Int} {k j : Nat} (hD : Dist f k) (hj : j < k) : hit f j (f j) = false :=
  hit_false fun i hi e => by have := hD i j (by omega) hj e; omega
theorem hit_mono {f : Nat → Int} {i j : Nat} (h : i ≤ j) {id : Int} (hh : hit f i id = true) : hit f j id = true := by
  obtain ⟨a, ha, e⟩ := (hit_iff f i id).1 hh
  exact (hit_iff f j id).2 ⟨a, by omega, e⟩
theorem hit_succ (f : Nat → Int) (j : Nat) (id : Int) : hit f (j + 1) id = (hit f j id || f j == id) := rfl
theorem hit_succ_self (f : Nat → Int) (j : Nat) : hit f (j + 1) (f j) = true := by simp [hit]
theorem hit_succ_other {f : Nat → Int} {j : Nat} {id : Int} (h : f j ≠ id) : hit f (j + 1) id = hit f j id := by simp [hit, h]
theorem freshN_le (F : Int → Option Nat) (f : Nat → Int) (j : Nat) : freshN F f j ≤ j := by
  induction j with
  | zero => simp [freshN]
  | succ j ih => simp only [freshN]; split <;> omega
theorem freshN_none {F : Int → Option Nat} {f : Nat → Int} {j : Nat} (h : F (f j) = none) : freshN F f (j + 1) = freshN F f j + 1 := by simp [freshN, h]
theorem freshN_some {F : Int → Option Nat} {f : Nat → Int} {j b : Nat} (h : F (f j) = some b) : freshN F f (j + 1) = freshN F f j := by simp [freshN, h]

/-! ### the holders' counts -/
def hcAt (hc : Int → Int) (f : Nat → Int) (j : Nat) (id : Int) : Int := hc id + if hit f j id then 1 else 0
def hcNew (F : Int → Option Nat) (hc : Int → Int) (f : Nat → Int) (k : Nat) (id : Int) : Int := (if (F id).isSome then hc id else 0) + if hit f k id then 1 else 0

/-! ### what a pointer is -/
def optPtr (q : Option Nat) : Value := .pointer (q.map fun b => ⟨b, 0, none⟩)
def ptrs (F : Int → Option Nat) (f : Nat → Int) (j : Nat) : List Value := (List.range j).map fun i => optPtr (F (f i))
theorem ptrs_succ (F : Int → Option Nat) (f : Nat → Int) (j : Nat) : ptrs F f (j + 1) = ptrs F f j ++ [optPtr (F (f j))] := by simp [ptrs, List.range_succ]
theorem ptrs_length (F : Int → Option Nat) (f : Nat → Int) (j : Nat) : (ptrs F f j).length = j := by simp [ptrs]

theorem info49 : (Try.prog.info? 49).map (fun i => (i.zero, i.size, i.bytes)) = some (some (.pointer none), 1, 8) := by kernel_rfl

/-- 'append(held, b)' at the operation: the new slice's shape written out. -/
theorem wpList_append_ptr {ops : Array Oper} {rest : List Oper} {o : Oper} {a : Act} {Q : Exit → Act → World → Prop} (w : World) (hgd : o.guard = none) (s x : Operand)
    (ho : o.op = .call { callee := .builtin .append, args := #[s, x], argTypes := #[45, 45] }) (base : Nat) (ao : Option Addr) (j cp : Nat) (xs : List Value) (hs : a.eval s = .slice ao j cp)
    (hown : w.ownsRow base 49 1 (.slice ao j cp) j xs) (q : Option Addr) (hx : a.eval x = .slice (some ⟨w.heap.size, 0, none⟩) 1 1) (hj : j ≤ 1048576) (hbase : base ≤ w.heap.size)
    (h : ∀ g cap w', w'.ownsRow base 49 1 (.slice (some ⟨g, 0, none⟩) (j + 1) cap) (j + 1) (xs ++ [.pointer q]) → (w.alloc (.cells #[.pointer q] 49)).grownBy w' (Value.ownBlock (.slice ao j cp)) →
      wpList Try.prog ops Q rest (a.put o.dst (.slice (some ⟨g, 0, none⟩) (j + 1) cap)) w') : wpList Try.prog ops Q (o :: rest) a (w.alloc (.cells #[.pointer q] 49)) := by
  obtain ⟨i0, hi, hz0, hz1, hz2⟩ := info_parts info49
  refine wpList_append_own _ hgd s x 45 ho base 49 i0 (.pointer none) 1 8 Try.underlying45 hi hz0 hz1 hz2 rfl (by decide) _ j xs hs (hown.alloc _) ⟨w.heap.size, 0, none⟩ 1 1 [.pointer q] hx rfl (cell_one_new _ _ _) (by intro u hu; simp at hu; subst hu; rfl) (by unfold maxLen; omega) (by omega) (by simp; omega) ?_
  intro v' w' hown' hgrow hnil
  rcases hown'.2 with ⟨rfl, h0⟩ | ⟨g, cap, cur, rfl, _⟩
  · omega
  · exact h g cap w' hown' hgrow

theorem ownsRow_ne {w : World} {base : Nat} {v : Value} {j : Nat} {xs : List Value} (h : w.ownsRow base 49 1 v j xs) {b : Nat} {o : Obj} (hb : w.heap[b]? = some o) (ho : ∀ cs z, o ≠ .cells cs 49 z) : some b ≠ v.ownBlock := by
  rcases h.2 with ⟨rfl, _⟩ | ⟨g, cap, cur, rfl, _, hg, _⟩
  · simp [Value.ownBlock]
  · simp only [Value.ownBlock]
    intro e
    have e' : b = g := by simpa using e
    subst e'
    rw [hb] at hg
    exact ho cur (0, 0) (by simpa using hg)

theorem Mem.keep {w w' : World} {m bm bs n : Nat} {c : Int} {F : Int → Option Nat} {hc : Int → Int} {S : Nat → Prop} (h : Mem w m c bm bs F n hc) (t : Turned S w w') (h1 : ¬ S m) (h2 : ¬ S bm) (h3 : ∀ id b, F id = some b → ¬ S b) : Mem w' m c bm bs F n hc :=
  ⟨(t.block m (ltOf h.blk) h1).trans h.blk, h.map.of_block (t.block bm h.map.lt h2), fun id b hb => (t.block b (ltOf (h.each id b hb)) (h3 id b hb)).trans (h.each id b hb)⟩
theorem Mem.congr {w : World} {m bm bs n : Nat} {c : Int} {F : Int → Option Nat} {hc hc' : Int → Int} (h : Mem w m c bm bs F n hc) (e : ∀ id b, F id = some b → hc id = hc' id) : Mem w m c bm bs F n hc' :=
  ⟨h.blk, h.map, fun id b hb => by rw [← e id b hb]; exact h.each id b hb⟩
theorem Mem.inj {w : World} {m bm bs n : Nat} {c : Int} {F : Int → Option Nat} {hc : Int → Int} (h : Mem w m c bm bs F n hc) {id id' : Int} {b : Nat} (h1 : F id = some b) (h2 : F id' = some b) : id = id' := by
  have e1 := h.each id b h1
  have e2 := h.each id' b h2
  rw [e1] at e2
  simp [blkCells] at e2
  exact e2.1

/-! ### the second loop -/
structure St2 (w0 w : World) (m : Nat) (c : Int) (bm bs : Nat) (F : Int → Option Nat) (n : Nat) (hc : Int → Int) (r : Nat) (p : Int) (hash : Value) (rb k kc : Nat) (f : Nat → Int) (adm : Bool) (pf : Int) (j' j : Nat) (ao : Option Addr) (cp : Nat) : Prop where
  mem : Mem w m c bm bs F n (hcAt hc f j')
  req : w.heap[r]? = some (.cells (reqCells p hash (.slice (some ⟨rb, 0, none⟩) k kc) (.slice ao j cp) adm pf) 51 (0, 0))
  row : w.rowIs rb 48 k (fun i => .int .u64 (f i))
  own : w.ownsRow w0.heap.size 49 1 (.slice ao j cp) j (ptrs F f j)
  turned : Turned (fun b => b = r ∨ ∃ id, F id = some b) w0 w

section
variable {w0 w w' : World} {m bm bs n r rb k kc j cp : Nat} {c p pf : Int} {F : Int → Option Nat} {hc : Int → Int} {hash : Value} {f : Nat → Int} {adm : Bool} {ao : Option Addr}

theorem row_block {w : World} {b : Nat} {t : TypeId} {n : Nat} {f : Nat → Value} (h : w.rowIs b t n f) : ∃ cs, w.heap[b]? = some (.cells cs t (0, 0)) := by
  obtain ⟨cs, hb, _⟩ := h
  exact ⟨cs, hb⟩

theorem St2.start (hM : Mem w0 m c bm bs F n hc) (hR : w0.heap[r]? = some (.cells (reqCells p hash (.slice (some ⟨rb, 0, none⟩) k kc) (.slice none 0 0) adm pf) 51 (0, 0)))
    (hB : w0.rowIs rb 48 k (fun i => .int .u64 (f i))) (q : Nat) :
    St2 w0 ((w0.drewN q).setCell ⟨r, 5, none⟩ (.slice none 0 0)) m c bm bs F n hc r p hash rb k kc f adm pf 0 0 none 0 := by
  have hl := ltOf hR
  have e : ((w0.drewN q).setCell ⟨r, 5, none⟩ (.slice none 0 0)).heap[r]? = w0.heap[r]? := by
    rw [setOf_same (w := w0.drewN q) hR]
    rw [hR]; rfl
  have t : Turned (fun b => b = r) w0 ((w0.drewN q).setCell ⟨r, 5, none⟩ (.slice none 0 0)) := (Turned.drewN w0 _ q).trans (Turned.setCell (w0.drewN q) (S := fun b => b = r) (a := ⟨r, 5, none⟩) rfl _)
  obtain ⟨cs, hrb⟩ := row_block hB
  exact ⟨(hM.keep t (neOf hM.blk hR (by simp)) (fun e => hM.map.ne_cells hR e.symm) (fun id b hb => neOf (hM.each id b hb) hR (by simp))).congr (fun id b hb => by simp [hcAt, hit]),
    e.trans hR, hB.of_block (t.block rb (ltOf hrb) (neOf hrb hR (by simp))), World.ownsRow_nil _ _ _ _, t.mono (fun b _ h => .inl h)⟩

/-- the id is not resident: nothing is held -/
theorem St2.skip (h : St2 w0 w m c bm bs F n hc r p hash rb k kc f adm pf j j ao cp) (hF : F (f j) = none) : St2 w0 w m c bm bs F n hc r p hash rb k kc f adm pf (j + 1) j ao cp :=
  ⟨h.mem.congr (fun id b hb => by unfold hcAt; rw [hit_succ_other (fun e => by rw [e, hb] at hF; cases hF)]), h.req, h.row, h.own, h.turned⟩

/-- the id is resident: its block has one holder more -/
theorem St2.held (h : St2 w0 w m c bm bs F n hc r p hash rb k kc f adm pf j j ao cp) (hD : Dist f k) (hj : j < k) {b : Nat} (hF : F (f j) = some b)
    (hb : w'.heap[b]? = some (.cells (blkCells (f j) (hcAt hc f j (f j) + 1)) 66 (0, 0))) (ht : Turned (fun x => x = b) w w') : St2 w0 w' m c bm bs F n hc r p hash rb k kc f adm pf (j + 1) j ao cp := by
  have hb0 := h.mem.each _ _ hF
  obtain ⟨cs, hrb⟩ := row_block h.row
  refine ⟨⟨?_, ?_, ?_⟩, ?_, ?_, ?_, ?_⟩
  · exact (ht.block m (ltOf h.mem.blk) (neOf h.mem.blk hb0 (by simp))).trans h.mem.blk
  · exact h.mem.map.of_block (ht.block bm h.mem.map.lt (fun e => h.mem.map.ne_cells hb0 e.symm))
  · intro id b' hb'
    by_cases e : id = f j
    · subst e
      rw [hF] at hb'
      have : b = b' := by simpa using hb'
      subst this
      rw [hb]
      unfold hcAt
      rw [hit_succ_self, hit_self hD hj]
      simp
    · have hne : b' ≠ b := fun e' => by subst e'; exact e (h.mem.inj hb' hF)
      rw [ht.block b' (ltOf (h.mem.each _ _ hb')) hne, h.mem.each _ _ hb']
      unfold hcAt
      rw [hit_succ_other (Ne.symm e)]
  · exact (ht.block r (ltOf h.req) (neOf h.req hb0 (by simp))).trans h.req
  · exact h.row.of_block (ht.block rb (ltOf hrb) (neOf hrb hb0 (by simp)))
  · exact h.own.kept (row := some b) ⟨ht.os, ht.tape, ht.output, ht.size, fun i hi hs => ht.block i hi (fun e => hs (by rw [e]))⟩ (.inr (ownsRow_ne h.own hb0 (by simp)).symm)
  · exact h.turned.trans (ht.mono (fun x _ e => .inr ⟨f j, by rw [e]; exact hF⟩))

/-- what stands behind the append and the store -/
theorem St2.step (h : St2 w0 w m c bm bs F n hc r p hash rb k kc f adm pf (j + 1) j ao cp) {g cap : Nat} {w1 : World} {q : Value} (hq : q = optPtr (F (f j)))
    (hown : w1.ownsRow w0.heap.size 49 1 (.slice (some ⟨g, 0, none⟩) (j + 1) cap) (j + 1) (ptrs F f j ++ [q])) (hg : (w.alloc (.cells #[q] 49)).grownBy w1 (Value.ownBlock (.slice ao j cp))) :
    St2 w0 (w1.setCell ⟨r, 5, none⟩ (.slice (some ⟨g, 0, none⟩) (j + 1) cap)) m c bm bs F n hc r p hash rb k kc f adm pf (j + 1) (j + 1) (some ⟨g, 0, none⟩) cap := by
  have hlr := ltOf h.req
  obtain ⟨cs, hrb⟩ := row_block h.row
  have key : ∀ (b : Nat) (o : Obj), w.heap[b]? = some o → (∀ cs z, o ≠ .cells cs 49 z) → w1.heap[b]? = some o := by
    intro b o hb ho
    have hlt := ltOf hb
    rw [hg.block b (by simp; omega) (ownsRow_ne h.own hb ho), Below.heap_alloc _ _ _ hlt]
    exact hb
  have r1 := key r _ h.req (by simp)
  obtain ⟨es, clk, hmp⟩ := h.mem.map.isMapBlock
  have hgr : ∀ (b : Nat) (o : Obj), w1.heap[b]? = some o → (∀ cs z, o ≠ .cells cs 49 z) → b ≠ r → (w1.setCell ⟨r, 5, none⟩ (.slice (some ⟨g, 0, none⟩) (j + 1) cap)).heap[b]? = some o := fun b o hb _ hne => (setOf_other _ hne).trans hb
  refine ⟨⟨?_, ?_, ?_⟩, ?_, ?_, ?_, ?_⟩
  · exact hgr m _ (key m _ h.mem.blk (by simp)) (by simp) (neOf h.mem.blk h.req (by simp))
  · refine h.mem.map.of_block ?_
    rw [hgr bm _ (key bm _ hmp (by simp)) (by simp) (fun e => h.mem.map.ne_cells h.req e.symm), hmp]
  · intro id b hb
    have := h.mem.each id b hb
    exact hgr b _ (key b _ this (by simp)) (by simp) (neOf this h.req (by simp))
  · rw [setOf_same r1]; rfl
  · refine h.row.of_block ?_
    rw [hgr rb _ (key rb _ hrb (by simp)) (by simp) (neOf hrb h.req (by simp)), hrb]
  · rw [ptrs_succ, ← hq]
    exact ownsRow_setCell_other hown (fun e => (ownsRow_ne hown r1 (by simp)) e.symm) _
  · have t1 : Turned (fun b => some b = Value.ownBlock (.slice ao j cp)) w w1 := (Turned.alloc w _ _).andThen (Turned.grown hg (fun b e => e.symm)) (fun _ _ hh => hh)
    refine (h.turned.andThen t1 (fun b hb e => ?_)).andThen (Turned.setCell w1 (S := fun b => b = r) rfl _) (fun b _ e => .inl e)
    have := h.own.lt b e.symm
    omega

end
end Go.Proofs.Qxb6614494a
