/- Where no type stands twice in a part, the package's comparison of parts is the reference's. -/
import Derived.Test.YtcohjechpnlogaaDoorDnPart
import Derived.Test.YtcohjechpnlogaaDoorDnRdn
namespace Go.Proofs.YtcohjechpnlogaaDoor.Dn
open Go.RowKit Go.Proofs.YtcohjechpnlogaaDoorW.PrintWords Go.Proofs.YtcohjechpnlogaaDoor.PDN
set_option linter.unusedVariables false
set_option linter.unusedSimpArgs false

theorem ff_none (fold : Bool) (R : List S53) (m : List Bool) (a : S53) : ∀ (d j : Nat), R.length - j = d → ff fold R m a j = none → ∀ i (h : i < R.length), j ≤ i → ¬ (m.getD i false = false ∧ eqA fold R[i] a = true) := by
  intro d
  induction d with
  | zero => intro j hd _ i h hj; omega
  | succ d ih =>
    intro j hd hn i h hj
    have hjr : j < R.length := by omega
    rw [ff, dif_pos hjr] at hn
    by_cases hc : m.getD j false = false ∧ eqA fold R[j] a = true
    · rw [if_pos hc] at hn; cases hn
    · rw [if_neg hc] at hn
      by_cases e : i = j
      · subst e; exact hc
      · exact ih (j + 1) (by omega) hn i h (by omega)
theorem ff_some (fold : Bool) (R : List S53) (m : List Bool) (a : S53) (i : Nat) : ∀ (d j : Nat), R.length - j = d → ff fold R m a j = some i → ∃ h : i < R.length, m.getD i false = false ∧ eqA fold R[i] a = true := by
  intro d
  induction d with
  | zero =>
    intro j hd hn
    rw [ff, dif_neg (by omega)] at hn
    cases hn
  | succ d ih =>
    intro j hd hn
    have hjr : j < R.length := by omega
    rw [ff, dif_pos hjr] at hn
    by_cases hc : m.getD j false = false ∧ eqA fold R[j] a = true
    · rw [if_pos hc] at hn
      injection hn with hn
      subst hn
      exact ⟨hjr, hc⟩
    · rw [if_neg hc] at hn
      exact ih (j + 1) (by omega) hn

/-- no type stands twice -/
def Apart (l : List S53) : Prop := l.Pairwise (fun a b => eqF a.f0 b.f0 = false)

theorem hasAll_all (fold : Bool) (R : List S53) : ∀ (As : List S53) (m : List Bool), Apart As → m.length = R.length → (∀ i (h : i < R.length), m.getD i false = true → ∀ a ∈ As, eqA fold R[i] a = false) →
    hasAll fold R m As = As.all (fun a => R.any (fun x => eqA fold x a)) := by
  intro As
  induction As with
  | nil => intro m _ _ _; rfl
  | cons a l ih =>
    intro m hap hm hinv
    obtain ⟨h1, h2⟩ := List.pairwise_cons.1 hap
    rw [List.all_cons, hasAll]
    cases hf : ff fold R m a 0 with
    | none =>
      have hn := ff_none fold R m a _ 0 rfl hf
      have : R.any (fun x => eqA fold x a) = false := by
        rw [List.any_eq_false]
        intro x hx hc
        obtain ⟨i, hi, rfl⟩ := List.getElem_of_mem hx
        have h3 := hn i hi (Nat.zero_le _)
        have h4 : m.getD i false = true := by
          cases h : m.getD i false with
          | true => rfl
          | false => exact absurd ⟨h, hc⟩ h3
        have := hinv i hi h4 a List.mem_cons_self
        rw [this] at hc
        cases hc
      rw [this, Bool.false_and]
    | some i =>
      obtain ⟨hi, hfree, heq⟩ := ff_some fold R m a i _ 0 rfl hf
      have : R.any (fun x => eqA fold x a) = true := List.any_eq_true.2 ⟨R[i], List.getElem_mem hi, heq⟩
      rw [this, Bool.true_and]
      refine ih (m.set i true) h2 (by simpa using hm) ?_
      intro i' hi' ht b hb
      by_cases e : i' = i
      · subst e
        cases hc : eqA fold R[i'] b with
        | false => rfl
        | true =>
          have t1 := eqA_type heq
          have t2 := eqA_type hc
          rw [eqF_comm] at t1
          have := h1 b hb
          rw [eqF_trans t1 t2] at this
          cases this
      · refine hinv i' hi' ?_ b (List.mem_cons_of_mem _ hb)
        simp only [List.getD_eq_getElem?_getD] at ht ⊢
        rwa [List.getElem?_set_ne (fun h => e h.symm)] at ht

theorem rdnEq_same (fold : Bool) (R S : List S53) (hR : Apart R) (hS : Apart S) : rdnEq fold R S = samePart fold R S := by
  unfold rdnEq samePart
  have h0 : ∀ (T : List S53) (n : Nat) i (h : i < T.length), (List.replicate n false).getD i false = true → ∀ a ∈ S ++ R, eqA fold T[i] a = false := by
    intro T n i h hc
    rw [List.getD_eq_getElem?_getD, List.getElem?_replicate] at hc
    split at hc <;> cases hc
  rw [hasAll_all fold R S _ hS (by simp) (fun i h hc a ha => h0 R _ i h hc a (List.mem_append_left _ ha)), hasAll_all fold S R _ hR (by simp) (fun i h hc a ha => h0 S _ i h hc a (List.mem_append_right _ ha))]
  have e1 : (S.all fun a => R.any fun x => eqA fold x a) = S.all (fun x => R.any (eqA fold x)) := by
    congr 1; funext a; congr 1; funext x; exact eqA_comm fold x a
  have e2 : (R.all fun a => S.any fun x => eqA fold x a) = R.all (fun x => S.any (eqA fold x)) := by
    congr 1; funext a; congr 1; funext x; exact eqA_comm fold x a
  rw [e1, e2]
  by_cases hl : R.length = S.length
  · rw [if_neg (fun h => h hl), hl]
    simp [Bool.and_comm]
  · rw [if_pos hl]
    simp [hl]
end Go.Proofs.YtcohjechpnlogaaDoor.Dn
