import Derived.Test.Qxb6614565aCaps
import Derived.Orders
namespace Go.Proofs.Qxb6614565a
open Go.RowKit
set_option linter.unusedVariables false

/-! ### a region that draws its order, walked once: an invariant of what has come up, the frame and the world -/
def nF (L : Nat → Bool) : Nat → Nat
  | 0 => 0
  | n + 1 => nF L n + (!(L n)).toNat
theorem nF_set_ge (L : Nat → Bool) (i n : Nat) (h : n ≤ i) : nF (fun j => if j = i then true else L j) n = nF L n := by
  induction n with
  | zero => rfl
  | succ n ih =>
    have e : ¬ n = i := by omega
    simp only [nF, ih (by omega), if_neg e]
theorem nF_set (L : Nat → Bool) (i n : Nat) (h : i < n) (hL : L i = false) : nF (fun j => if j = i then true else L j) n + 1 = nF L n := by
  induction n with
  | zero => omega
  | succ n ih =>
    by_cases e : n = i
    · subst e
      simp only [nF, nF_set_ge L n n (Nat.le_refl _), hL, if_true, Bool.not_true, Bool.not_false, Bool.toNat_true, Bool.toNat_false]
    · have := ih (by omega)
      simp only [nF, if_neg e]
      omega
theorem nF_zero (L : Nat → Bool) (n : Nat) (h : nF L n = 0) : ∀ i, i < n → L i = true := by
  induction n with
  | zero => intro i hi; omega
  | succ n ih =>
    simp only [nF] at h
    intro i hi
    by_cases e : i = n
    · subst e
      cases hL : L i with
      | true => rfl
      | false => rw [hL] at h; simp at h
    · exact ih (by omega) i (by omega)
theorem nF_congr {L L' : Nat → Bool} (n : Nat) (h : ∀ j, j < n → L j = L' j) : nF L n = nF L' n := by
  induction n with
  | zero => rfl
  | succ n ih => simp only [nF]; rw [ih (fun j hj => h j (by omega)), h n (by omega)]

section
variable {P : Program} {md : Region.Mode} {ops : Array Oper} {Q : Exit → Act → World → Prop}

theorem wpAny_inv (I : Array Bool → Act → World → Prop)
    (hstep : ∀ (listed : Array Bool) (a : Act) (w : World) (i : Nat) (o : Oper), listed.size = ops.size → I listed a w → ops[i]? = some o → listed.getD i true = false → (∀ e ∈ o.after, Region.binds md e = true → listed.getD e.on true = true) →
      wpOp P ops Q i (I (listed.setIfInBounds i true)) a w)
    (hback : ∀ (i : Nat) (o : Oper), ops[i]? = some o → ∀ e ∈ o.after, e.on < i)
    (hend : ∀ (listed : Array Bool) (a : Act) (w : World), I listed a w → (∀ i, i < ops.size → listed.getD i true = true) → Q .normal a w) :
    ∀ (fuel : Nat) (listed : Array Bool) (a : Act) (w : World), listed.size = ops.size → nF (fun j => listed.getD j true) ops.size ≤ fuel → I listed a w → wpAny P md ops Q fuel listed a w := by
  have hdone : ∀ (listed : Array Bool), listed.size = ops.size → Region.ready md ops listed = [] → ∀ i, i < ops.size → listed.getD i true = true := by
    intro listed hs hr
    intro i
    induction i using Nat.strongRecOn with
    | _ i ih =>
      intro hi
      cases hL : listed.getD i true with
      | true => rfl
      | false =>
        have ho : ops[i]? = some ops[i] := by simp [hi]
        have : i ∈ Region.ready md ops listed := mem_ready.2 ⟨hL, ops[i], ho, fun e he _ => by
          have hlt := hback i _ ho e he
          have := ih e.on hlt (by omega)
          have hsz : e.on < listed.size := by omega
          simpa [hsz] using this⟩
        rw [hr] at this
        cases this
  have conv : ∀ (listed : Array Bool), listed.size = ops.size → ∀ i, i < ops.size → listed.getD i false = true → listed.getD i true = true := by
    intro listed hs i hi h
    have hsz : i < listed.size := by omega
    simpa [hsz] using h
  intro fuel
  induction fuel with
  | zero =>
    intro listed a w hs hn hI
    have hall := nF_zero _ _ (Nat.le_zero.1 hn)
    refine ⟨?_, hend listed a w hI hall⟩
    rcases hr : Region.ready md ops listed with _ | ⟨i, l⟩
    · rfl
    · have hm : i ∈ Region.ready md ops listed := by rw [hr]; simp
      obtain ⟨h1, o, ho, _⟩ := mem_ready.1 hm
      have hi : i < ops.size := (Array.getElem?_eq_some_iff.1 ho).1
      rw [hall i hi] at h1
      cases h1
  | succ fuel ih =>
    intro listed a w hs hn hI
    refine ⟨fun hr => hend listed a w hI (hdone listed hs hr), fun i hm => ?_⟩
    obtain ⟨h1, o, ho, hall⟩ := mem_ready.1 hm
    have hi : i < ops.size := (Array.getElem?_eq_some_iff.1 ho).1
    refine wpOp_mono (fun a' w' hI' => ih _ a' w' (by simpa using hs) ?_ hI') (hstep listed a w i o hs hI ho h1 (fun e he hb => conv listed hs e.on (by have := hback i o ho e he; omega) (hall e he hb)))
    have e1 : nF (fun j => (listed.setIfInBounds i true).getD j true) ops.size = nF (fun j => if j = i then true else listed.getD j true) ops.size := nF_congr _ (fun j hj => by
      by_cases e : j = i
      · subst e
        have : j < listed.size := by omega
        simp [this]
      · rw [if_neg e]
        exact getD_set_ne true (fun h => e h.symm))
    rw [e1]
    have := nF_set (fun j => listed.getD j true) i ops.size hi h1
    omega

theorem wpOp_of {i : Nat} {o : Oper} {K : Act → World → Prop} {a : Act} {w : World} (ho : ops[i]? = some o) (hg : o.guard = none) (h : o.wp P a w K Q) : wpOp P ops Q i K a w := by
  unfold wpOp
  simp only [ho]
  rw [if_pos (by simp [Region.wanted, hg])]
  exact .inl h

theorem eval_same {a : Act} {d : Nat} (v : Value) (h : d < a.tmps.size) : (a.put (some d) v).eval (.tmp d) = v := by
  simp [Act.put, Act.eval, h]
theorem eval_other {a : Act} {d j : Nat} (v : Value) (h : j ≠ d) : (a.put (some d) v).eval (.tmp j) = a.eval (.tmp j) := by
  simp only [Act.put, Act.eval]
  simp [Array.getElem?_setIfInBounds_ne (Ne.symm h)]
end

end Go.Proofs.Qxb6614565a
