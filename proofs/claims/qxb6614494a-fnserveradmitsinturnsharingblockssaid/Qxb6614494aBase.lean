import Derived.Test.Qxb6614494aLeaf
import Derived.Maps.OwnSet
import Derived.Maps.AppendAt
namespace Go.Proofs.Qxb6614494a
open Go.RowKit Go.Maps
set_option linter.unusedVariables false

/-! ### worlds: all that was there is as it was, but for the blocks of S -/
structure Turned (S : Nat → Prop) (w w' : World) : Prop where
  os : w'.os = w.os
  tape : w'.tape = w.tape
  output : w'.output = w.output
  size : w.heap.size ≤ w'.heap.size
  block : ∀ k, k < w.heap.size → ¬ S k → w'.heap[k]? = w.heap[k]?

namespace Turned
variable {S S' : Nat → Prop} {w w' w'' : World}
theorem refl (S : Nat → Prop) (w : World) : Turned S w w := ⟨rfl, rfl, rfl, Nat.le_refl _, fun _ _ _ => rfl⟩
theorem trans (h : Turned S w w') (k : Turned S w' w'') : Turned S w w'' :=
  ⟨k.os.trans h.os, k.tape.trans h.tape, k.output.trans h.output, Nat.le_trans h.size k.size, fun i hi hs => (k.block i (Nat.lt_of_lt_of_le hi h.size) hs).trans (h.block i hi hs)⟩
theorem mono (h : Turned S w w') (hS : ∀ k, k < w.heap.size → S k → S' k) : Turned S' w w' :=
  ⟨h.os, h.tape, h.output, h.size, fun i hi hs => h.block i hi (fun h' => hs (hS i hi h'))⟩
/-- a second step may turn new blocks too -/
theorem andThen (h : Turned S w w') (k : Turned S' w' w'') (hS : ∀ b, b < w.heap.size → S' b → S b) : Turned S w w'' :=
  ⟨k.os.trans h.os, k.tape.trans h.tape, k.output.trans h.output, Nat.le_trans h.size k.size, fun i hi hs => (k.block i (Nat.lt_of_lt_of_le hi h.size) (fun h' => hs (hS i hi h'))).trans (h.block i hi hs)⟩
theorem drewN (w : World) (S : Nat → Prop) (n : Nat) : Turned S w (w.drewN n) := ⟨rfl, rfl, rfl, Nat.le_refl _, fun _ _ _ => rfl⟩
theorem drew (w : World) (S : Nat → Prop) : Turned S w w.drew := ⟨rfl, rfl, rfl, Nat.le_refl _, fun _ _ _ => rfl⟩
theorem alloc (w : World) (S : Nat → Prop) (o : Obj) : Turned S w (w.alloc o) := ⟨rfl, rfl, rfl, by simp, fun k hk _ => Below.heap_alloc _ _ _ hk⟩
theorem setCell (w : World) {S : Nat → Prop} {a : Addr} (ha : S a.block) (v : Value) : Turned S w (w.setCell a v) :=
  ⟨rfl, rfl, rfl, by simp [World.setCell], fun k hk hs => Below.heap_setCell _ _ _ _ (fun e => hs (e ▸ ha))⟩
theorem grown {row : Option Nat} (hg : w.grownBy w' row) (hr : ∀ k, row = some k → S k) : Turned S w w' :=
  ⟨hg.os, hg.tape, hg.output, hg.size, fun k hk hs => hg.block k hk (fun e => hs (hr k e.symm))⟩
theorem ofBelow {B : Nat} (h : Below B w w') (hS : ∀ k, k < w.heap.size → ¬ S k → k < B) : Turned S w w' :=
  ⟨h.os, h.tape, h.output, h.size, fun k hk hs => h.block k (hS k hk hs)⟩
theorem below (h : Turned S w w') {B : Nat} (hB : B ≤ w.heap.size) (hS : ∀ k, S k → B ≤ k) : Below B w w' :=
  ⟨h.os, h.tape, h.output, h.size, fun k hk => h.block k (Nat.lt_of_lt_of_le hk hB) (fun hs => by have := hS k hs; omega)⟩
end Turned

/-! ### a block's cells -/
theorem cellOf {w : World} {b : Nat} {cs : Array Value} {t : TypeId} {z : Nat × Nat} (h : w.heap[b]? = some (.cells cs t z)) (i : Nat) {v : Value} (hv : cs[i]? = some v) : w.cell? ⟨b, i, none⟩ = some v := by
  simp [World.cell?, h, hv]
theorem freeOf {w : World} {b : Nat} {cs : Array Value} {t : TypeId} (h : w.heap[b]? = some (.cells cs t (0, 0))) (i : Nat) : w.frozen? ⟨b, i, none⟩ = false := by
  simp [World.frozen?, h]
theorem ltOf {w : World} {b : Nat} {o : Obj} (h : w.heap[b]? = some o) : b < w.heap.size := lt_of_block h
theorem neOf {w : World} {b b' : Nat} {o o' : Obj} (h : w.heap[b]? = some o) (h' : w.heap[b']? = some o') (hne : o ≠ o') : b ≠ b' := by
  intro e; subst e; rw [h] at h'; exact hne (by simpa using h')
theorem setOf_same {w : World} {b : Nat} {cs : Array Value} {t : TypeId} (h : w.heap[b]? = some (.cells cs t (0, 0))) (i : Nat) (v : Value) :
    (w.setCell ⟨b, i, none⟩ v).heap[b]? = some (.cells (cs.setIfInBounds i v) t (0, 0)) := heap_setCell_same w b i cs t v h
theorem setOf_other {w : World} {b : Nat} {a : Addr} (v : Value) (h : b ≠ a.block) : (w.setCell a v).heap[b]? = w.heap[b]? := Below.heap_setCell _ _ _ _ h

/-! ### the map from ids to blocks -/
/-- how a pointer to a block of the call's own reads -/
def ptrElem : Value → Option (DataW Unit × List MemPlace)
  | .pointer none => some (.nil, [])
  | .pointer (some ⟨b, 0, none⟩) => some (.lit (.int .u64 b), [])
  | _ => none

theorem ptrElem_nil_inv {v : Value} {ps : List MemPlace} (h : ptrElem v = some (.nil, ps)) : v = .pointer none := by
  unfold ptrElem at h
  split at h <;> simp_all
theorem ptrElem_some_inv {v : Value} {b : Nat} {ps : List MemPlace} (h : ptrElem v = some (.lit (.int .u64 (b : Int)), ps)) : v = .pointer (some ⟨b, 0, none⟩) := by
  unfold ptrElem at h
  split at h <;> simp_all
  omega
theorem ptrElem_mk (b : Nat) : ptrElem (.pointer (some ⟨b, 0, none⟩)) = some (.lit (.int .u64 b), []) := rfl

/-- block bm is a map of n entries that leads each id to its block -/
def MapIs (w : World) (bm : Nat) (F : Int → Option Nat) (n : Nat) : Prop :=
  ∃ D, w.ownsMap Try.prog 48 ptrElem bm n D ∧ Maps.size D = n ∧ (∀ id, F id = none → Maps.has D (.int .u64 id) = false) ∧ (∀ id b, F id = some b → ∀ z, D.atKey (.int .u64 id) z = .lit (.int .u64 (b : Int)))

theorem law48 : Keyed Try.prog 48 := int_keyed Try.underlying48
theorem zero49 (w : World) : (zeroValue 49).run Try.prog w = .ok (.pointer none) w := by kernel_rfl

namespace MapIs
variable {w w' : World} {bm n : Nat} {F : Int → Option Nat}

theorem made (w : World) : MapIs (w.alloc (.map #[] 0)) w.heap.size (fun _ => none) 0 :=
  ⟨.map [], World.ownsMap_made w Try.prog 48 ptrElem, rfl, fun _ _ => rfl, fun _ _ h => by cases h⟩

theorem of_block (h : MapIs w bm F n) (e : w'.heap[bm]? = w.heap[bm]?) : MapIs w' bm F n := by
  obtain ⟨D, ⟨es, clock, hb, r⟩, r'⟩ := h
  exact ⟨D, ⟨es, clock, e.trans hb, r⟩, r'⟩

theorem isMapBlock (h : MapIs w bm F n) : ∃ es clock, w.heap[bm]? = some (.map es clock) := by
  obtain ⟨D, ⟨es, clock, hb, r⟩, r'⟩ := h
  exact ⟨es, clock, hb⟩
theorem lt (h : MapIs w bm F n) : bm < w.heap.size := by
  obtain ⟨es, clock, hb⟩ := h.isMapBlock
  exact ltOf hb
theorem ne_cells (h : MapIs w bm F n) {b : Nat} {cs : Array Value} {t : TypeId} {z : Nat × Nat} (hb : w.heap[b]? = some (.cells cs t z)) : b ≠ bm := by
  obtain ⟨es, clock, hm⟩ := h.isMapBlock
  exact neOf hb hm (by simp)

theorem len (h : MapIs w bm F n) (ty : TypeId) : (Builtin.len_ #[60] ty #[.map (some bm)]).run Try.prog w = .ok (.int .i64 n) w := by
  obtain ⟨D, ho, hs, _⟩ := h
  have := ho.len Try.underlying60 ty
  rwa [hs] at this

theorem look_none (h : MapIs w bm F n) {id : Int} (hw : (Lit.int .u64 id).wf = true) (hF : F id = none) : (Instr.lookup 60 (.map (some bm)) (.int .u64 id) false).run Try.prog w = .ok (.pointer none) w := by
  obtain ⟨D, ho, hs, h1, h2⟩ := h
  obtain ⟨v, ps, hrun, hv⟩ := ho.lookup law48 Try.underlying60 (zero49 w) (zd := .nil) (zp := []) rfl (keyOf_int_mk Try.underlying48 hw)
  rw [Maps.atKey_of_not_has (h1 id hF)] at hv
  rw [ptrElem_nil_inv hv] at hrun
  exact hrun
theorem look_some (h : MapIs w bm F n) {id : Int} {b : Nat} (hw : (Lit.int .u64 id).wf = true) (hF : F id = some b) : (Instr.lookup 60 (.map (some bm)) (.int .u64 id) false).run Try.prog w = .ok (.pointer (some ⟨b, 0, none⟩)) w := by
  obtain ⟨D, ho, hs, h1, h2⟩ := h
  obtain ⟨v, ps, hrun, hv⟩ := ho.lookup law48 Try.underlying60 (zero49 w) (zd := .nil) (zp := []) rfl (keyOf_int_mk Try.underlying48 hw)
  rw [h2 id b hF] at hv
  rw [ptrElem_some_inv hv] at hrun
  exact hrun

theorem store (h : MapIs w bm F n) {id : Int} (b : Nat) (hw : (Lit.int .u64 id).wf = true) (hF : F id = none) (hn : n < maxLen) :
    ∃ w', (Instr.mapUpdate 60 (.map (some bm)) (.int .u64 id) (.pointer (some ⟨b, 0, none⟩))).run Try.prog w = .ok () w' ∧ MapIs w' bm (fun j => if j = id then some b else F j) (n + 1) ∧ w.grownBy w' (some bm) := by
  obtain ⟨D, ho, hs, h1, h2⟩ := h
  obtain ⟨w', hrun, ho', hg⟩ := ho.update law48 Try.underlying60 hn (keyOf_int_mk Try.underlying48 hw) (ptrElem_mk b)
  have ht := ho.tidy law48
  refine ⟨w', hrun, ⟨_, ho', ?_, ?_, ?_⟩, hg⟩
  · rw [Maps.size_put ht, h1 id hF, hs]; simp
  · intro j hj
    by_cases e : j = id
    · subst e; simp at hj
    · simp only [if_neg e] at hj
      rw [Maps.has_put_other (by simpa using e)]
      exact h1 j hj
  · intro j b' hj z
    by_cases e : j = id
    · subst e
      simp at hj
      subst hj
      exact Maps.atKey_put_same ht.isMap (by simp [WideAt.IsKeyLit]) _ _
    · simp only [if_neg e] at hj
      rw [Maps.atKey_put_other (by simpa using e)]
      exact h2 j b' hj z
end MapIs

/-! ### what the call's own structs hold -/
def memCells (c : Int) (bm bs : Nat) : Array Value := #[.int .i64 c, .map (some bm), .slice none 0 0, .int .i64 0, .int .u64 0, .map (some bs)]
def blkCells (id h : Int) : Array Value := #[.int .u64 id, .int .i64 h, .bool false, .int .i64 (-1), .float .f64 0, .int .i64 0, .int .u64 0]
def reqCells (prompt : Int) (hash blocks held : Value) (adm : Bool) (prefill : Int) : Array Value :=
  #[.int .i64 0, .int .i64 prompt, .int .i64 1, hash, blocks, held, .bool adm, .int .i64 0, .int .i64 prefill, .int .i64 0, .int .i64 0, .int .i64 0, .int .i64 0, .bool false]

/-- the memory at block m: capacity c, its map at bm: F leads the ids that are resident to their blocks, n of them; hc: how many hold each -/
structure Mem (w : World) (m : Nat) (c : Int) (bm bs : Nat) (F : Int → Option Nat) (n : Nat) (hc : Int → Int) : Prop where
  blk : w.heap[m]? = some (.cells (memCells c bm bs) 64 (0, 0))
  map : MapIs w bm F n
  each : ∀ id b, F id = some b → w.heap[b]? = some (.cells (blkCells id (hc id)) 66 (0, 0))

end Go.Proofs.Qxb6614494a
