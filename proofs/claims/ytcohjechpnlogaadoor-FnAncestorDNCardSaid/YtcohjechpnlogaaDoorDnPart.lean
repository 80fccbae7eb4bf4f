/- spec.SamePart: parts have the same attributes. -/
import Derived.Test.YtcohjechpnlogaaDoorDnText
namespace Go.Proofs.YtcohjechpnlogaaDoor.Dn
open Go.RowKit Go.Proofs.YtcohjechpnlogaaDoorW.PrintWords Go.Proofs.YtcohjechpnlogaaDoor.PDN
set_option linter.unusedVariables false
set_option linter.unusedSimpArgs false

theorem wrap_succ (j : Nat) (h : j < 4611686018427387904) : wrap64 ((j : Int) + 1) = ((j + 1 : Nat) : Int) := by
  unfold wrap64
  omega
theorem rd_up0 (b : List S53) (j : Nat) (h : j < b.length) : (rd_T54 (b.map up) (j : Int)).f0 = b[j].f0 := by
  rw [rd_T54, Int.toNat_natCast, List.getD_eq_getElem?_getD, List.getElem?_map, List.getElem?_eq_getElem h]
  rfl
theorem rd_up1 (b : List S53) (j : Nat) (h : j < b.length) : (rd_T54 (b.map up) (j : Int)).f1 = b[j].f1 := by
  rw [rd_T54, Int.toNat_natCast, List.getD_eq_getElem?_getD, List.getElem?_map, List.getElem?_eq_getElem h]
  rfl
theorem l3_run (fold : Bool) (X Y P : List S54) (n i : Int) (b : List S53) (hb : ∀ y ∈ b, Small y) (hl : b.length < 1000) (x : S53) (hx : Small x) : ∀ (m j : Nat) (fnd : Bool), j + m = b.length → ∀ k,
    spec_SamePart.l3 (k + m + 1) X Y fold fnd P n i (b.map up) ((b.map up).length : Int) (j : Int) x.f0 x.f1 = if (fnd || (b.drop j).any (eqA fold x)) = true then spec_SamePart.l2 k X Y fold P n (wrap64 (i + 1)) else some false := by
  intro m
  induction m with
  | zero =>
    intro j fnd hj k
    rw [Nat.add_zero, spec_SamePart.l3, if_neg (by simp; omega), show j = b.length by omega, List.drop_length]
    simp
  | succ m ih =>
    intro j fnd hj k
    have hjb : j < b.length := by omega
    have hw := wrap_succ j (by omega)
    rw [show k + (m + 1) + 1 = (k + m + 1) + 1 by omega, spec_SamePart.l3, if_pos (by simp; omega), if_pos (by omega), if_pos (by simp; omega), rd_up0 b j hjb, rd_up1 b j hjb]
    rw [List.drop_eq_getElem_cons hjb, List.any_cons]
    cases fnd with
    | true =>
      rw [if_pos rfl, hw, ih (j + 1) true (by omega) k]
      simp
    | false =>
      rw [if_neg (by decide)]
      rw [same_ok fold x b[j] hx (hb _ (List.getElem_mem hjb)), Option.bind_some]
      rw [hw, ih (j + 1) _ (by omega) k]
      simp
theorem l1_run (fold : Bool) (X Y P : List S54) (n i : Int) (b : List S53) (hb : ∀ y ∈ b, Small y) (hl : b.length < 1000) (x : S53) (hx : Small x) : ∀ (m j : Nat) (fnd : Bool), j + m = b.length → ∀ k,
    spec_SamePart.l1 (k + m + 1) X Y fold fnd P n i (b.map up) ((b.map up).length : Int) (j : Int) x.f0 x.f1 = if (fnd || (b.drop j).any (eqA fold x)) = true then spec_SamePart.l0 k X Y fold P n (wrap64 (i + 1)) else some false := by
  intro m
  induction m with
  | zero =>
    intro j fnd hj k
    rw [Nat.add_zero, spec_SamePart.l1, if_neg (by simp; omega), show j = b.length by omega, List.drop_length]
    simp
  | succ m ih =>
    intro j fnd hj k
    have hjb : j < b.length := by omega
    have hw := wrap_succ j (by omega)
    rw [show k + (m + 1) + 1 = (k + m + 1) + 1 by omega, spec_SamePart.l1, if_pos (by simp; omega), if_pos (by omega), if_pos (by simp; omega), rd_up0 b j hjb, rd_up1 b j hjb]
    rw [List.drop_eq_getElem_cons hjb, List.any_cons]
    cases fnd with
    | true =>
      rw [if_pos rfl, hw, ih (j + 1) true (by omega) k]
      simp
    | false =>
      rw [if_neg (by decide)]
      rw [same_ok fold x b[j] hx (hb _ (List.getElem_mem hjb)), Option.bind_some]
      rw [hw, ih (j + 1) _ (by omega) k]
      simp
theorem l2_run (fold : Bool) (a b : List S53) (ha : ∀ y ∈ a, Small y) (hb : ∀ y ∈ b, Small y) (la : a.length < 1000) (lb : b.length < 1000) : ∀ (m i : Nat), i + m = b.length → ∀ k,
    spec_SamePart.l2 (k + m * (a.length + 2) + 1) (a.map up) (b.map up) fold (b.map up) ((b.map up).length : Int) (i : Int) = if (b.drop i).all (fun x => a.any (eqA fold x)) = true then some ((a.length : Int) == (b.length : Int)) else some false := by
  intro m
  induction m with
  | zero =>
    intro i hi k
    rw [Nat.zero_mul, Nat.add_zero, spec_SamePart.l2, if_neg (by simp; omega), show i = b.length by omega, List.drop_length]
    simp
  | succ m ih =>
    intro i hi k
    have hib : i < b.length := by omega
    have hw := wrap_succ i (by omega)
    rw [show k + (m + 1) * (a.length + 2) + 1 = ((k + m * (a.length + 2) + 1) + a.length + 1) + 1 by rw [Nat.succ_mul]; omega]
    rw [spec_SamePart.l2, if_pos (by simp; omega), if_pos (by omega), if_pos (by simp; omega), rd_up0 b i hib, rd_up1 b i hib]
    have e := l3_run fold (a.map up) (b.map up) (b.map up) ((b.map up).length : Int) (i : Int) a ha la b[i] (hb _ (List.getElem_mem hib)) a.length 0 false (by omega) (k + m * (a.length + 2) + 1)
    rw [show ((0 : Nat) : Int) = 0 from rfl] at e
    rw [e, List.drop_zero, Bool.false_or]
    rw [List.drop_eq_getElem_cons hib, List.all_cons, hw, ih (i + 1) (by omega) k]
    by_cases h : a.any (eqA fold b[i]) = true
    · rw [if_pos h, h, Bool.true_and]
    · rw [if_neg h]
      simp [h]
theorem l0_run (fold : Bool) (a b : List S53) (ha : ∀ y ∈ a, Small y) (hb : ∀ y ∈ b, Small y) (la : a.length < 1000) (lb : b.length < 1000) : ∀ (m i : Nat), i + m = a.length → ∀ k,
    spec_SamePart.l0 (k + m * (b.length + 2) + 1) (a.map up) (b.map up) fold (a.map up) ((a.map up).length : Int) (i : Int) = if (a.drop i).all (fun x => b.any (eqA fold x)) = true then spec_SamePart.l2 k (a.map up) (b.map up) fold (b.map up) ((b.map up).length : Int) 0 else some false := by
  intro m
  induction m with
  | zero =>
    intro i hi k
    rw [Nat.zero_mul, Nat.add_zero, spec_SamePart.l0, if_neg (by simp; omega), show i = a.length by omega, List.drop_length]
    simp
  | succ m ih =>
    intro i hi k
    have hib : i < a.length := by omega
    have hw := wrap_succ i (by omega)
    rw [show k + (m + 1) * (b.length + 2) + 1 = ((k + m * (b.length + 2) + 1) + b.length + 1) + 1 by rw [Nat.succ_mul]; omega]
    rw [spec_SamePart.l0, if_pos (by simp; omega), if_pos (by omega), if_pos (by simp; omega), rd_up0 a i hib, rd_up1 a i hib]
    have e := l1_run fold (a.map up) (b.map up) (a.map up) ((a.map up).length : Int) (i : Int) b hb lb a[i] (ha _ (List.getElem_mem hib)) b.length 0 false (by omega) (k + m * (b.length + 2) + 1)
    rw [show ((0 : Nat) : Int) = 0 from rfl] at e
    rw [e, List.drop_zero, Bool.false_or]
    rw [List.drop_eq_getElem_cons hib, List.all_cons, hw, ih (i + 1) (by omega) k]
    by_cases h : b.any (eqA fold a[i]) = true
    · rw [if_pos h, h, Bool.true_and]
    · rw [if_neg h]
      simp [h]

/-- parts have the same attributes -/
def samePart (fold : Bool) (a b : List S53) : Bool := a.all (fun x => b.any (eqA fold x)) && b.all (fun x => a.any (eqA fold x)) && (a.length == b.length)
theorem samePart_ok (fold : Bool) (a b : List S53) (ha : ∀ y ∈ a, Small y) (hb : ∀ y ∈ b, Small y) (la : a.length < 1000) (lb : b.length < 1000) : ∃ k, spec_SamePart.f k (a.map up) (b.map up) fold = some (samePart fold a b) := by
  refine ⟨(0 + b.length * (a.length + 2) + 1) + a.length * (b.length + 2) + 1, ?_⟩
  unfold spec_SamePart.f samePart
  have e := l0_run fold a b ha hb la lb a.length 0 (by omega) (0 + b.length * (a.length + 2) + 1)
  rw [show ((0 : Nat) : Int) = 0 from rfl] at e
  rw [e, List.drop_zero]
  by_cases h : a.all (fun x => b.any (eqA fold x)) = true
  · rw [if_pos h, h, Bool.true_and]
    have e2 := l2_run fold a b ha hb la lb b.length 0 (by omega) 0
    rw [show ((0 : Nat) : Int) = 0 from rfl] at e2
    rw [e2, List.drop_zero]
    by_cases h2 : b.all (fun x => a.any (eqA fold x)) = true
    · rw [if_pos h2, h2, Bool.true_and]
      congr 1
      rw [Bool.eq_iff_iff, beq_iff_eq, beq_iff_eq]
      omega
    · rw [if_neg h2]
      simp [h2]
  · rw [if_neg h]
    simp [h]
end Go.Proofs.YtcohjechpnlogaaDoor.Dn
