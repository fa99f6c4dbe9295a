import Derived.Test.Qxb6614494aSrvF
namespace Go.Proofs.Qxb6614494a
open Go.RowKit Go.Maps
set_option linter.unusedVariables false

section
variable {x1 x2 : Bool} {base : Nat} {w0 w1 w1' w2 : World} {sv m bm bs r1 r2 k1 k2 j cp j' cp' : Nat} {kv p1 p2 : Int} {f1 f2 : Nat → Int} {ao : Option Addr} {xs : List Value} {F1 F2 : Int → Option Nat} {n1 n2 : Nat} {hc1 hc2 : Int → Int} {ao1 ao2 : Option Addr} {cp1 cp2 : Nat} {ao' : Option Addr} {xs' : List Value}

theorem first_n (J : Judged x1 base w0 w1 sv m bm bs 0 r1 kv p1 (fun _ => none) (fun _ => 0) k1 f1 ao j cp xs F1 n1 hc1 ao1 cp1) : n1 = if x1 then k1 else 0 := by
  rw [J.cnt, freshN_all]; simp
theorem first_has (J : Judged x1 base w0 w1 sv m bm bs 0 r1 kv p1 (fun _ => none) (fun _ => 0) k1 f1 ao j cp xs F1 n1 hc1 ao1 cp1) (id : Int) : (F1 id).isSome = (x1 && hit f1 k1 id) := by
  rw [J.has]; simp
theorem first_hold (J : Judged x1 base w0 w1 sv m bm bs 0 r1 kv p1 (fun _ => none) (fun _ => 0) k1 f1 ao j cp xs F1 n1 hc1 ao1 cp1) (id : Int) (h : (F1 id).isSome = true) : hc1 id = 1 := by
  rw [J.hold id h]
  rw [first_has J] at h
  simp [h]
theorem first_bound (J : Judged x1 base w0 w1 sv m bm bs 0 r1 kv p1 (fun _ => none) (fun _ => 0) k1 f1 ao j cp xs F1 n1 hc1 ao1 cp1) : ∀ id b, F1 id = some b → 1 ≤ hc1 id ∧ hc1 id ≤ 1000 := by
  intro id b h
  rw [first_hold J id (by rw [h]; rfl)]
  omega
theorem first_fresh_true (J : Judged true base w0 w1 sv m bm bs 0 r1 kv p1 (fun _ => none) (fun _ => 0) k1 f1 ao j cp xs F1 n1 hc1 ao1 cp1) (k : Nat) : freshN F1 f2 k = freshN (inF f1 k1) f2 k :=
  freshN_congr (fun id => by
    have := first_has J id
    unfold inF
    cases h : hit f1 k1 id <;> cases e : F1 id <;> simp_all) k
theorem first_fresh_false (J : Judged false base w0 w1 sv m bm bs 0 r1 kv p1 (fun _ => none) (fun _ => 0) k1 f1 ao j cp xs F1 n1 hc1 ao1 cp1) (k : Nat) : freshN F1 f2 k = k := by
  have : freshN F1 f2 k = freshN (fun _ => none) f2 k := freshN_congr (fun id => by
    have := first_has J id
    cases e : F1 id <;> simp_all) k
  rw [this, freshN_all]

theorem second_hold1 (J : Judged x1 base w0 w1 sv m bm bs 0 r1 kv p1 (fun _ => none) (fun _ => 0) k1 f1 ao j cp xs F1 n1 hc1 ao1 cp1) (J2 : Judged x2 base w1' w2 sv m bm bs n1 r2 kv p2 F1 hc1 k2 f2 ao' j' cp' xs' F2 n2 hc2 ao2 cp2) :
    x1 = true → ∀ i, i < k1 → hc2 (f1 i) = if x2 && hit f2 k2 (f1 i) then 2 else 1 := by
  intro hx i hi
  have h1 : (F1 (f1 i)).isSome = true := by rw [first_has J, hx, (hit_iff f1 k1 (f1 i)).2 ⟨i, hi, rfl⟩]; rfl
  rw [J2.hold _ (by rw [J2.has, h1]; rfl), h1, first_hold J _ h1]
  cases (x2 && hit f2 k2 (f1 i)) <;> simp
theorem second_hold2 (J : Judged x1 base w0 w1 sv m bm bs 0 r1 kv p1 (fun _ => none) (fun _ => 0) k1 f1 ao j cp xs F1 n1 hc1 ao1 cp1) (J2 : Judged x2 base w1' w2 sv m bm bs n1 r2 kv p2 F1 hc1 k2 f2 ao' j' cp' xs' F2 n2 hc2 ao2 cp2) :
    x2 = true → ∀ i, i < k2 → hc2 (f2 i) = if x1 && hit f1 k1 (f2 i) then 2 else 1 := by
  intro hx i hi
  have h2 : hit f2 k2 (f2 i) = true := (hit_iff f2 k2 (f2 i)).2 ⟨i, hi, rfl⟩
  rw [J2.hold _ (by rw [J2.has, hx, h2]; simp), hx, h2]
  have h1 := first_has J (f2 i)
  cases e : (F1 (f2 i)).isSome with
  | true => rw [first_hold J _ e, ← h1, e]; simp
  | false => rw [← h1, e]; simp
end

theorem hidden {p : Prop} (h : p) : Hid p := h

theorem Srv.cells {base : Nat} {w : World} {sv m j cp : Nat} {kv : Int} {ao : Option Addr} {xs : List Value} (h : Srv base w sv kv m ao j cp xs) (hj : 0 < j) : ∃ g, ao = some ⟨g, 0, none⟩ ∧ ∀ i, i < j → w.cell? ⟨g, i, none⟩ = xs[i]? := by
  have h' := h.own
  rcases h'.2 with ⟨_, h0⟩ | ⟨g, cap, cur, e, _⟩
  · omega
  · have e' : ao = some ⟨g, 0, none⟩ := by simpa using (Value.slice.inj e).1
    subst e'
    exact ⟨g, rfl, fun i hi => h'.cellAt i (by omega)⟩

theorem neq28 (a : Addr) (w : World) : (binOp .neq 28 (.pointer (some a)) (.pointer (some a))).run Try.prog w = .ok (.bool false) w := by
  obtain ⟨j, hj, _⟩ := Option.map_eq_some_iff.1 (show (Try.prog.info? 51).map (fun i => i.size) = some 14 from by kernel_rfl)
  exact Lib.run_neq_ptr_same w a Try.underlying28 hj
theorem neq49 (a : Addr) (w : World) : (binOp .neq 49 (.pointer (some a)) (.pointer (some a))).run Try.prog w = .ok (.bool false) w := by
  obtain ⟨j, hj, _⟩ := Option.map_eq_some_iff.1 (show (Try.prog.info? 66).map (fun i => i.size) = some 7 from by kernel_rfl)
  exact Lib.run_neq_ptr_same w a Try.underlying49 hj

end Go.Proofs.Qxb6614494a
