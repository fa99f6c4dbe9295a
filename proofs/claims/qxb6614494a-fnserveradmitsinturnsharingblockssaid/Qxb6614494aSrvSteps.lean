import Derived.Test.Qxb6614494aSrvNew
namespace Go.Proofs.Qxb6614494a
open Go.RowKit Go.Maps
set_option linter.unusedVariables false

theorem info28 : (Try.prog.info? 28).map (fun i => (i.zero, i.size, i.bytes)) = some (some (.pointer none), 1, 8) := by kernel_rfl

/-- 'append(running, r)' at the operation: the new slice's shape written out. -/
theorem wpList_append_req {ops : Array Oper} {rest : List Oper} {o : Oper} {a : Act} {Q : Exit → Act → World → Prop} (w : World) (hgd : o.guard = none) (s x : Operand)
    (ho : o.op = .call { callee := .builtin .append, args := #[s, x], argTypes := #[42, 42] }) (base : Nat) (ao : Option Addr) (j cp : Nat) (xs : List Value) (hs : a.eval s = .slice ao j cp)
    (hown : w.ownsRow base 28 1 (.slice ao j cp) j xs) (q : Option Addr) (hx : a.eval x = .slice (some ⟨w.heap.size, 0, none⟩) 1 1) (hj : j ≤ 1048576) (hbase : base ≤ w.heap.size)
    (h : ∀ g cap w', w'.ownsRow base 28 1 (.slice (some ⟨g, 0, none⟩) (j + 1) cap) (j + 1) (xs ++ [.pointer q]) → (w.alloc (.cells #[.pointer q] 28)).grownBy w' (Value.ownBlock (.slice ao j cp)) →
      wpList Try.prog ops Q rest (a.put o.dst (.slice (some ⟨g, 0, none⟩) (j + 1) cap)) w') : wpList Try.prog ops Q (o :: rest) a (w.alloc (.cells #[.pointer q] 28)) := by
  obtain ⟨i0, hi, hz0, hz1, hz2⟩ := info_parts info28
  refine wpList_append_own _ hgd s x 42 ho base 28 i0 (.pointer none) 1 8 Try.underlying42 hi hz0 hz1 hz2 rfl (by decide) _ j xs hs (hown.alloc _) ⟨w.heap.size, 0, none⟩ 1 1 [.pointer q] hx rfl (cell_one_new _ _ _) (by intro u hu; simp at hu; subst hu; rfl) (by unfold maxLen; omega) (by omega) (by simp; omega) ?_
  intro v' w' hown' hgrow hnil
  rcases hown'.2 with ⟨rfl, h0⟩ | ⟨g, cap, cur, rfl, _⟩
  · omega
  · exact h g cap w' hown' hgrow

theorem ownsRow_ne28 {w : World} {base : Nat} {v : Value} {j : Nat} {xs : List Value} (h : w.ownsRow base 28 1 v j xs) {b : Nat} {o : Obj} (hb : w.heap[b]? = some o) (ho : ∀ cs z, o ≠ .cells cs 28 z) : some b ≠ v.ownBlock := by
  rcases h.2 with ⟨rfl, _⟩ | ⟨g, cap, cur, rfl, _, hg, _⟩
  · simp [Value.ownBlock]
  · simp only [Value.ownBlock]
    intro e
    have e' : b = g := by simpa using e
    subst e'
    rw [hb] at hg
    exact ho cur (0, 0) (by simpa using hg)

/-- one request: x: it was admitted; F: the blocks that are resident -/
def Req (x : Bool) (w : World) (F : Int → Option Nat) (r : Nat) (p : Int) (k : Nat) (f : Nat → Int) : Prop :=
  ∃ hash blocks held, w.heap[r]? = some (.cells (reqCells p hash blocks held x (if x then p else 0)) 51 (0, 0)) ∧ (x = false → held = .slice none 0 0) ∧
    (x = true → ∃ (g cap : Nat) (cur : Array Value), held = .slice (some ⟨g, 0, none⟩) k cap ∧ w.heap[g]? = some (.cells cur 49 (0, 0)) ∧ ∀ i, i < k → ∃ b, F (f i) = some b ∧ cur[i]? = some (.pointer (some ⟨b, 0, none⟩)))

theorem Req.keep {x : Bool} {w w' : World} {F F' : Int → Option Nat} {r k : Nat} {p : Int} {f : Nat → Int} {S : Nat → Prop} (h : Req x w F r p k f) (t : Turned S w w') (hr : ¬ S r) (h49 : ∀ b, S b → ∀ cs z, w.heap[b]? ≠ some (.cells cs 49 z))
    (hF : ∀ id b, F id = some b → F' id = some b) : Req x w' F' r p k f := by
  obtain ⟨hash, blocks, held, hR, h0, h1⟩ := h
  refine ⟨hash, blocks, held, (t.block r (ltOf hR) hr).trans hR, h0, fun hx => ?_⟩
  obtain ⟨g, cap, cur, e, hg, hcur⟩ := h1 hx
  refine ⟨g, cap, cur, e, (t.block g (ltOf hg) (fun e => h49 g e _ _ hg)).trans hg, fun i hi => ?_⟩
  obtain ⟨b, hb, hc⟩ := hcur i hi
  exact ⟨b, hF _ _ hb, hc⟩
theorem Req.blk {x : Bool} {w : World} {F : Int → Option Nat} {r k : Nat} {p : Int} {f : Nat → Int} (h : Req x w F r p k f) : ∃ rq, w.heap[r]? = some (.cells rq 51 (0, 0)) := by
  obtain ⟨hash, blocks, held, hR, _⟩ := h
  exact ⟨_, hR⟩

structure Srv (base : Nat) (w : World) (sv : Nat) (kv : Int) (m : Nat) (ao : Option Addr) (j cp : Nat) (xs : List Value) : Prop where
  blk : w.heap[sv]? = some (.cells (srvCells kv m (.slice ao j cp)) 58 (0, 0))
  own : w.ownsRow base 28 1 (.slice ao j cp) j xs

theorem Srv.keep {base : Nat} {w w' : World} {sv m j cp : Nat} {kv : Int} {ao : Option Addr} {xs : List Value} {S : Nat → Prop} (h : Srv base w sv kv m ao j cp xs) (t : Turned S w w') (hs : ¬ S sv) (h28 : ∀ b, S b → ∀ cs z, w.heap[b]? ≠ some (.cells cs 28 z)) : Srv base w' sv kv m ao j cp xs := by
  refine ⟨(t.block sv (ltOf h.blk) hs).trans h.blk, h.own.1, ?_⟩
  rcases h.own.2 with h' | ⟨g, cap, cur, e, hb, hg, rest⟩
  · exact .inl h'
  · exact .inr ⟨g, cap, cur, e, hb, (t.block g (ltOf hg) (fun e => h28 g e _ _ hg)).trans hg, rest⟩

section
variable {base : Nat} {w w1 : World} {sv m j cp : Nat} {kv : Int} {ao : Option Addr} {xs : List Value}

/-- behind the append, ahead of the store -/
theorem Srv.mid (h : Srv base w sv kv m ao j cp xs) {q : Value} (hg : (w.alloc (.cells #[q] 28)).grownBy w1 (Value.ownBlock (.slice ao j cp))) :
    w1.heap[sv]? = some (.cells (srvCells kv m (.slice ao j cp)) 58 (0, 0)) := by
  have hlt := ltOf h.blk
  rw [hg.block sv (by simp; omega) (ownsRow_ne28 h.own h.blk (by simp)), Below.heap_alloc _ _ _ hlt]
  exact h.blk

theorem Srv.step (h : Srv base w sv kv m ao j cp xs) {g cap : Nat} {q : Value} (hown : w1.ownsRow base 28 1 (.slice (some ⟨g, 0, none⟩) (j + 1) cap) (j + 1) (xs ++ [q]))
    (hg : (w.alloc (.cells #[q] 28)).grownBy w1 (Value.ownBlock (.slice ao j cp))) :
    Srv base (w1.setCell ⟨sv, 4, none⟩ (.slice (some ⟨g, 0, none⟩) (j + 1) cap)) sv kv m (some ⟨g, 0, none⟩) (j + 1) cap (xs ++ [q]) ∧
    Turned (fun b => b = sv ∨ some b = Value.ownBlock (.slice ao j cp)) w (w1.setCell ⟨sv, 4, none⟩ (.slice (some ⟨g, 0, none⟩) (j + 1) cap)) := by
  have r1 := h.mid hg
  refine ⟨⟨?_, ?_⟩, ?_⟩
  · rw [setOf_same r1]; rfl
  · exact ownsRow_setCell_other hown (fun e => (ownsRow_ne28 hown r1 (by simp)) e.symm) _
  · have t1 : Turned (fun b => some b = Value.ownBlock (.slice ao j cp)) w w1 := (Turned.alloc w _ _).andThen (Turned.grown hg (fun b e => e.symm)) (fun _ _ hh => hh)
    exact (t1.mono (fun b _ e => .inr e)).andThen (Turned.setCell w1 (S := fun b => b = sv) (a := ⟨sv, 4, none⟩) rfl _) (fun b _ e => .inl e)
end

/-- the blocks that a server's admission may turn -/
def SA (w : World) (m r bm sv : Nat) (F : Int → Option Nat) (run : Value) (b : Nat) : Prop := b = m ∨ b = r ∨ b = bm ∨ (∃ id, F id = some b) ∨ b = sv ∨ some b = run.ownBlock

/-- what a server's admission leaves -/
structure Took (base : Nat) (w0 w : World) (sv m bm bs n r : Nat) (kv p : Int) (F : Int → Option Nat) (hc : Int → Int) (k : Nat) (f : Nat → Int) (ao : Option Addr) (j cp : Nat) (xs : List Value) (F' : Int → Option Nat) (ao' : Option Addr) (cp' : Nat) : Prop where
  mem : Mem w m kv bm bs F' (n + freshN F f k) (hcNew F hc f k)
  ext : ∀ id b, F id = some b → F' id = some b
  new : ∀ id, F id = none → (F' id).isSome = hit f k id
  req : Req true w F' r p k f
  srv : Srv base w sv kv m ao' (j + 1) cp' (xs ++ [.pointer (some ⟨r, 0, none⟩)])
  turned : Turned (SA w0 m r bm sv F (.slice ao j cp)) w0 w
  born : ∀ id b, F' id = some b → F id = some b ∨ w0.heap.size ≤ b

section
variable {base : Nat} {w0 w1 W w5 : World} {sv m bm bs n r rb k kc j cp g0 cap0 : Nat} {kv p : Int} {F F' : Int → Option Nat} {hc : Int → Int} {hash : Value} {f : Nat → Int} {ao : Option Addr} {xs : List Value}

theorem took (h : St4 w0 w1 m kv bm bs F n hc r p hash rb k kc f false 0 g0 cap0 F' k) (hsv : Srv base W sv kv m ao j cp xs)
    (hW : Turned (fun b => b = r) w1 W) (hR : W.heap[r]? = some (.cells (reqCells p hash (.slice (some ⟨rb, 0, none⟩) k kc) (.slice (some ⟨g0, 0, none⟩) k cap0) true p) 51 (0, 0)))
    {g cap : Nat} (hown : w5.ownsRow base 28 1 (.slice (some ⟨g, 0, none⟩) (j + 1) cap) (j + 1) (xs ++ [.pointer (some ⟨r, 0, none⟩)]))
    (hg : (W.alloc (.cells #[.pointer (some ⟨r, 0, none⟩)] 28)).grownBy w5 (Value.ownBlock (.slice ao j cp))) :
    Took base w0 (w5.setCell ⟨sv, 4, none⟩ (.slice (some ⟨g, 0, none⟩) (j + 1) cap)) sv m bm bs n r kv p F hc k f ao j cp xs F' (some ⟨g, 0, none⟩) cap := by
  obtain ⟨s', t'⟩ := hsv.step hown hg
  have hM : Mem W m kv bm bs F' (n + freshN F f k) (hcNew F hc f k) := h.mem.keep hW (neOf h.mem.blk h.req (by simp)) (fun e => h.mem.map.ne_cells h.req e.symm) (fun id b hb => neOf (h.mem.each id b hb) h.req (by simp))
  have hRq : Req true W F' r p k f := by
    refine ⟨_, _, _, hR, (fun e => by cases e), fun _ => ?_⟩
    obtain ⟨cur, hg0, hcur⟩ := h.held
    refine ⟨g0, cap0, cur, rfl, (hW.block g0 (ltOf hg0) (neOf hg0 h.req (by simp))).trans hg0, fun i hi => ⟨blOf F' f i, h.isIn hi, ?_⟩⟩
    rw [hcur i hi, if_pos hi, h.isIn hi]
    rfl
  have kd : ∀ (b : Nat) (o : Obj), W.heap[b]? = some o → (∀ cs z, o ≠ .cells cs 28 z) → (∀ cs z, o ≠ .cells cs 58 z) → ¬ (b = sv ∨ some b = Value.ownBlock (.slice ao j cp)) := by
    rintro b o hb h28 h58 (rfl | e)
    · exact h58 _ _ (by simpa using hb.symm.trans hsv.blk)
    · exact ownsRow_ne28 hsv.own hb h28 e
  obtain ⟨es, clk, hmp⟩ := hM.map.isMapBlock
  refine ⟨hM.keep t' (kd m _ hM.blk (by simp) (by simp)) (kd bm _ hmp (by simp) (by simp)) (fun id b hb => kd b _ (hM.each id b hb) (by simp) (by simp)), h.ext, h.new, hRq.keep t' (kd r _ hR (by simp) (by simp)) (fun b hb cs z e => kd b _ e (by simp) (by simp) hb) (fun _ _ e => e), s', ?_, h.born⟩
  refine ((h.turned.mono (S' := SA w0 m r bm sv F (.slice ao j cp)) (fun b _ e => ?_)).andThen hW (fun b _ e => .inr (.inl e))).andThen t' (fun b _ e => ?_)
  · rcases e with e | e | e | e
    · exact .inl e
    · exact .inr (.inl e)
    · exact .inr (.inr (.inl e))
    · exact .inr (.inr (.inr (.inl e)))
  · rcases e with e | e
    · exact .inr (.inr (.inr (.inr (.inl e))))
    · exact .inr (.inr (.inr (.inr (.inr e))))
end

end Go.Proofs.Qxb6614494a
