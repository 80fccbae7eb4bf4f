/- Plain maths: the reference's Size, Deep, Proper end at every tree that is not longer than 2^62; Proper answers true at good trees alone; so 'fits' ends, and true means good. -/
import Derived.Test.YtcohjechpnlogaaDoorPacket
namespace Go.Proofs.YtcohjechpnlogaaDoor.Tree
open Go.RowKit Go.Proofs.YtcohjechpnlogaaDoorW.PrintWords Go.Proofs.YtcohjechpnlogaaDoor.PFnEncode Go.Proofs.YtcohjechpnlogaaDoor.Within
set_option linter.unusedVariables false
set_option linter.unusedSimpArgs false

theorem wi_size : ∀ (d : Nat) (p : S25) (r : Int), (tsize (wi d p r).1 : Int) + (wi d p r).2 ≤ r := by
  intro d
  induction d with
  | zero => intro p r; rw [wi]; show (1 : Int) + (r - (1 + (p.f3.length : Int))) ≤ r; omega
  | succ d ih =>
    have hl : ∀ (p : S25) (ks : List S25) (acc : List S29) (r : Int), (tsize (wiL d p ks acc r).1 : Int) + (wiL d p ks acc r).2 ≤ 1 + p.f3.length + tsizeL acc + r := by
      intro p ks
      induction ks with
      | nil =>
        intro acc r
        rw [wiL]
        show ((1 + p.f3.length + tsizeL acc : Nat) : Int) + r ≤ _
        push_cast
        omega
      | cons k ks ihk =>
        intro acc r
        rw [wiL]
        split
        · show (1 : Int) + r ≤ _
          omega
        · have h1 := ihk (acc ++ [(wi d k r).1]) (wi d k r).2
          have h2 := ih k r
          rw [tsizeL_append] at h1
          simp only [tsizeL] at h1
          push_cast at h1
          omega
    intro p r
    rw [wi]
    split
    · show (1 : Int) + (r - (1 + (p.f3.length : Int))) ≤ r
      omega
    · have := hl p p.f4 [] (r - (1 + (p.f3.length : Int)))
      simp only [tsizeL] at this
      omega

theorem wi_low : ∀ (d : Nat) (p : S25) (r : Int), lens p = true → 0 ≤ r → -140737488351233 ≤ (wi d p r).2 := by
  have hrb : reachBytes = 140737488351232 := by decide
  intro d
  induction d with
  | zero =>
    intro p r hl hr
    obtain ⟨a, b, c, dd, l⟩ := p
    rw [lens] at hl
    simp only [Bool.and_eq_true, decide_eq_true_eq] at hl
    rw [wi]
    show _ ≤ r - (1 + (dd.length : Int))
    omega
  | succ d ih =>
    have hk : ∀ (p : S25) (ks : List S25) (acc : List S29) (r : Int), lensL ks = true → -140737488351233 ≤ r → -140737488351233 ≤ (wiL d p ks acc r).2 := by
      intro p ks
      induction ks with
      | nil => intro acc r _ h; rw [wiL]; exact h
      | cons k ks ihk =>
        intro acc r hl h
        rw [lensL, Bool.and_eq_true] at hl
        rw [wiL]
        split
        · exact h
        · exact ihk _ _ hl.2 (ih k r hl.1 (by omega))
    intro p r hl hr
    obtain ⟨a, b, c, dd, l⟩ := p
    rw [lens] at hl
    simp only [Bool.and_eq_true, decide_eq_true_eq] at hl
    rw [wi]
    split
    · show _ ≤ r - (1 + (dd.length : Int))
      omega
    · exact hk _ _ _ _ hl.2 (by show _ ≤ r - (1 + (dd.length : Int)); omega)

theorem wi_small (d : Nat) (p : S25) (r : Int) (hl : lens p = true) (h0 : 0 ≤ r) (h1 : r ≤ 1000000) : tsize (wi d p r).1 < 281474976710656 := by
  have a := wi_size d p r
  have b := wi_low d p r hl h0
  omega

theorem len_le_tsizeL : ∀ l : List S29, l.length ≤ tsizeL l
  | [] => Nat.le_refl _
  | x :: xs => by
    have := len_le_tsizeL xs
    rw [tsizeL, List.length_cons]
    have h : 1 ≤ tsize x := by obtain ⟨a, b, c, d, l⟩ := x; rw [tsize]; omega
    omega

theorem rd_mid (pre : List S29) (x : S29) (xs : List S29) : rd_T29 (pre ++ x :: xs) (pre.length : Int) = x := by
  rw [rd_T29, Int.toNat_natCast, List.getD_eq_getElem?_getD, List.getElem?_append_right (Nat.le_refl _), Nat.sub_self]
  rfl

mutual
theorem size_ex : ∀ x : S29, tsize x < 4611686018427387904 → ∃ k r, spec_Size.f k x.f0 x.f1 x.f2 x.f3 x.f4 = some r
  | ⟨a, b, c, d, l⟩, h => by
    rw [tsize] at h
    obtain ⟨k, r, hk⟩ := sizeL_ex l (wrap64 (1 + (d.length : Int))) [] (by have := len_le_tsizeL l; simp; omega) (by omega)
    exact ⟨k + 1, r, by rw [spec_Size.f]; simpa using hk⟩
theorem sizeL_ex : ∀ (l : List S29) (acc : Int) (pre : List S29), pre.length + l.length < 4611686018427387904 → tsizeL l < 4611686018427387904 → ∃ k r, spec_Size.l0 k acc (pre ++ l) ((pre ++ l).length : Int) (pre.length : Int) = some r
  | [], acc, pre, _, _ => ⟨1, acc, by rw [spec_Size.l0]; simp⟩
  | x :: xs, acc, pre, h1, h2 => by
    rw [tsizeL] at h2
    rw [List.length_cons] at h1
    obtain ⟨k1, r1, e1⟩ := size_ex x (by omega)
    obtain ⟨k2, r2, e2⟩ := sizeL_ex xs (wrap64 (acc + r1)) (pre ++ [x]) (by simp; omega) (by omega)
    have e1' := at_rounds (fun k => spec_Size.mono x.f0 x.f1 x.f2 x.f3 x.f4 k) (Nat.le_max_left k1 k2) e1
    have e2' := at_rounds (fun k => (spec_Size.mono_l k).2 (wrap64 (acc + r1)) _ _ _) (Nat.le_max_right k1 k2) e2
    refine ⟨max k1 k2 + 1, r2, ?_⟩
    rw [spec_Size.l0, if_pos (by simp; omega), if_pos (by omega), if_pos (by simp; omega), rd_mid, e1']
    show spec_Size.l0 _ (wrap64 (acc + r1)) _ _ (wrap64 ((pre.length : Int) + 1)) = some r2
    have ew : wrap64 ((pre.length : Int) + 1) = (((pre ++ [x]).length : Nat) : Int) := by
      unfold wrap64
      simp
      omega
    rw [ew]
    simpa using e2'
end

mutual
theorem deep_ex : ∀ x : S29, tsize x < 4611686018427387904 → ∃ k r, spec_Deep.f k x.f0 x.f1 x.f2 x.f3 x.f4 = some r
  | ⟨a, b, c, d, l⟩, h => by
    rw [tsize] at h
    obtain ⟨k, r, hk⟩ := deepL_ex l 0 [] (by have := len_le_tsizeL l; simp; omega) (by omega)
    exact ⟨k + 1, r, by rw [spec_Deep.f]; simpa using hk⟩
theorem deepL_ex : ∀ (l : List S29) (acc : Int) (pre : List S29), pre.length + l.length < 4611686018427387904 → tsizeL l < 4611686018427387904 → ∃ k r, spec_Deep.l0 k acc (pre ++ l) ((pre ++ l).length : Int) (pre.length : Int) = some r
  | [], acc, pre, _, _ => ⟨1, wrap64 (acc + 1), by rw [spec_Deep.l0]; simp⟩
  | x :: xs, acc, pre, h1, h2 => by
    rw [tsizeL] at h2
    rw [List.length_cons] at h1
    obtain ⟨k1, r1, e1⟩ := deep_ex x (by omega)
    obtain ⟨k2, r2, e2⟩ := deepL_ex xs (mx acc r1) (pre ++ [x]) (by simp; omega) (by omega)
    have e1' := at_rounds (fun k => spec_Deep.mono x.f0 x.f1 x.f2 x.f3 x.f4 k) (Nat.le_max_left k1 k2) e1
    have e2' := at_rounds (fun k => (spec_Deep.mono_l k).2 (mx acc r1) _ _ _) (Nat.le_max_right k1 k2) e2
    refine ⟨max k1 k2 + 1, r2, ?_⟩
    rw [spec_Deep.l0, if_pos (by simp; omega), if_pos (by omega), if_pos (by simp; omega), rd_mid, e1']
    show spec_Deep.l0 _ (mx acc r1) _ _ (wrap64 ((pre.length : Int) + 1)) = some r2
    have ew : wrap64 ((pre.length : Int) + 1) = (((pre ++ [x]).length : Nat) : Int) := by
      unfold wrap64
      simp
      omega
    rw [ew]
    simpa using e2'
end

mutual
theorem proper_ex : ∀ x : S29, tsize x < 4611686018427387904 → ∃ k, spec_Proper.f k x.f0 x.f1 x.f2 x.f3 x.f4 = some (good x)
  | ⟨a, b, c, d, l⟩, h => by
    rw [tsize] at h
    obtain ⟨k, hk⟩ := properL_ex l [] (by have := len_le_tsizeL l; simp; omega) (by omega)
    have hj : ∀ v, spec_Proper.j0 (k + 1) v a b c d l = if v = true then some false else some (goodL l) := fun v => by
      rw [spec_Proper.j0]
      simp only [List.nil_append, List.length_nil] at hk
      rw [show (((0 : Nat) : Int)) = 0 from rfl] at hk
      rw [hk]
    refine ⟨k + 2, ?_⟩
    rw [spec_Proper.f]
    simp only [hj, good]
    by_cases h0 : a < 0
    · simp [h0, show ¬ 0 ≤ a by omega]
    by_cases h1 : a > 3
    · simp [h0, h1, show ¬ a ≤ 3 by omega]
    by_cases h2 : b < 0
    · simp [h0, h1, h2, show ¬ 0 ≤ b by omega]
    by_cases h3 : b ≥ 268435456
    · simp [h0, h1, h2, h3, show ¬ b < 268435456 by omega]
    have g0 : 0 ≤ a := by omega
    have g1 : a ≤ 3 := by omega
    have g2 : 0 ≤ b := by omega
    have g3 : b < 268435456 := by omega
    rw [if_neg h0, if_neg h1, if_neg h2, if_neg h3]
    cases c with
    | true =>
      by_cases h4 : (d.length : Int) > 0
      · have : ¬ d.length = 0 := by omega
        simp [h4, g0, g1, g2, g3, this]
      · have : d.length = 0 := by omega
        simp [h4, g0, g1, g2, g3, this]
    | false =>
      by_cases h4 : (l.length : Int) > 0
      · have : ¬ l.length = 0 := by omega
        simp [h4, g0, g1, g2, g3, this]
      · have : l.length = 0 := by omega
        simp [h4, g0, g1, g2, g3, this]
theorem properL_ex : ∀ (l : List S29) (pre : List S29), pre.length + l.length < 4611686018427387904 → tsizeL l < 4611686018427387904 → ∃ k, spec_Proper.l0 k (pre ++ l) ((pre ++ l).length : Int) (pre.length : Int) = some (goodL l)
  | [], pre, _, _ => ⟨1, by rw [spec_Proper.l0]; simp [goodL]⟩
  | x :: xs, pre, h1, h2 => by
    rw [tsizeL] at h2
    rw [List.length_cons] at h1
    obtain ⟨k1, e1⟩ := proper_ex x (by omega)
    obtain ⟨k2, e2⟩ := properL_ex xs (pre ++ [x]) (by simp; omega) (by omega)
    have e1' := at_rounds (fun k => spec_Proper.mono x.f0 x.f1 x.f2 x.f3 x.f4 k) (Nat.le_max_left k1 k2) e1
    have e2' := at_rounds (fun k => (spec_Proper.mono_l k).2.2 _ _ _) (Nat.le_max_right k1 k2) e2
    refine ⟨max k1 k2 + 1, ?_⟩
    rw [spec_Proper.l0, if_pos (by simp; omega), if_pos (by omega), if_pos (by simp; omega), rd_mid, e1']
    show (if good x = true then spec_Proper.l0 _ _ _ (wrap64 ((pre.length : Int) + 1)) else some false) = some (goodL (x :: xs))
    have ew : wrap64 ((pre.length : Int) + 1) = (((pre ++ [x]).length : Nat) : Int) := by
      unfold wrap64
      simp
      omega
    rw [ew, goodL]
    by_cases hg : good x = true
    · rw [if_pos hg, hg, Bool.true_and]
      simpa using e2'
    · rw [if_neg hg]
      simp [hg]
end

/-- 'fits' ends; true: the tree is good. -/
theorem fits_ex (x : S29) (h : tsize x < 4611686018427387904) : ∃ k b, laws_fits.f k x.f0 x.f1 x.f2 x.f3 x.f4 = some b ∧ (b = true → good x = true) := by
  obtain ⟨k1, r1, e1⟩ := size_ex x h
  obtain ⟨k2, r2, e2⟩ := deep_ex x h
  obtain ⟨k3, e3⟩ := proper_ex x h
  have e1' := at_rounds (fun k => spec_Size.mono x.f0 x.f1 x.f2 x.f3 x.f4 k) (show k1 ≤ k1 + k2 + k3 by omega) e1
  have e2' := at_rounds (fun k => spec_Deep.mono x.f0 x.f1 x.f2 x.f3 x.f4 k) (show k2 ≤ k1 + k2 + k3 by omega) e2
  have e3' := at_rounds (fun k => spec_Proper.mono x.f0 x.f1 x.f2 x.f3 x.f4 k) (show k3 ≤ k1 + k2 + k3 by omega) e3
  refine ⟨k1 + k2 + k3, (decide (r1 ≤ 5000) && decide (r2 ≤ 20) && good x), ?_, fun hb => by simp only [Bool.and_eq_true] at hb; exact hb.2⟩
  rw [laws_fits.f, e1', e2', e3']
  simp only [Option.bind_some]
  by_cases h1 : r1 ≤ 5000
  · by_cases h2 : r2 ≤ 20
    · simp [h1, h2]
    · simp [h1, h2]
  · simp [h1]
end Go.Proofs.YtcohjechpnlogaaDoor.Tree
