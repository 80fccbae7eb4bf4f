/- laws.zzFits5 and laws.names. -/
import Derived.Test.YtcohjechpnlogaaDoorDnProper2
namespace Go.Proofs.YtcohjechpnlogaaDoor.Dn
open Go.RowKit Go.Proofs.YtcohjechpnlogaaDoorW.PrintWords Go.Proofs.YtcohjechpnlogaaDoor.PDN
set_option linter.unusedVariables false
set_option linter.unusedSimpArgs false

theorem rd53_at (r : List S53) (j : Nat) (h : j < r.length) : rd_T53 r (j : Int) = r[j] := by
  rw [rd_T53, Int.toNat_natCast, List.getD_eq_getElem?_getD, List.getElem?_eq_getElem h]
  rfl
theorem rd3_at (a : List (List S53)) (j : Nat) (h : j < a.length) : rd_L3 a (j : Int) = a[j] := by
  rw [rd_L3, Int.toNat_natCast, List.getD_eq_getElem?_getD, List.getElem?_eq_getElem h]
  rfl
theorem zz7 (x : S53) : ∃ r, laws_zzFits7.f x.f0 x.f1 = some r ∧ (r = true → Fit x) := by
  unfold laws_zzFits7.f
  by_cases h1 : (x.f0.size : Int) > 2147483647
  · exact ⟨false, if_pos h1, fun h => by cases h⟩
  · by_cases h2 : (x.f1.size : Int) > 2147483647
    · exact ⟨false, by rw [if_neg h1, if_pos h2], fun h => by cases h⟩
    · exact ⟨true, by rw [if_neg h1, if_neg h2], fun _ => ⟨by omega, by omega⟩⟩
theorem zz6_run (r : List S53) (hl : r.length ≤ 2147483647) : ∀ (m i : Nat), i + m = r.length → ∃ k v, laws_zzFits6.l0 k r (r.length : Int) (i : Int) = some v ∧ (v = true → ∀ x ∈ r.drop i, Fit x) := by
  intro m
  induction m with
  | zero =>
    intro i hi
    refine ⟨1, true, by rw [laws_zzFits6.l0, if_neg (by omega)], fun _ x hx => ?_⟩
    rw [show i = r.length by omega, List.drop_length] at hx
    cases hx
  | succ m ih =>
    intro i hi
    have hir : i < r.length := by omega
    obtain ⟨k, v, e, hv⟩ := ih (i + 1) (by omega)
    obtain ⟨b, eb, hb⟩ := zz7 r[i]
    refine ⟨k + 1, if b = true then v else false, ?_, fun h x hx => ?_⟩
    · rw [laws_zzFits6.l0, if_pos (by omega), if_pos (by omega), if_pos (by omega), rd53_at r i hir, eb, Option.bind_some]
      split
      · rw [wrap_succ i (by omega), e]
      · rfl
    · split at h
      · rename_i c
        rw [List.drop_eq_getElem_cons hir] at hx
        rcases List.mem_cons.1 hx with rfl | hx
        · exact hb c
        · exact hv h x hx
      · cases h
theorem zz6 (r : List S53) : ∃ k v, laws_zzFits6.f k r = some v ∧ (v = true → r.length ≤ 2147483647 ∧ ∀ x ∈ r, Fit x) := by
  unfold laws_zzFits6.f
  by_cases h1 : (r.length : Int) > 2147483647
  · exact ⟨0, false, if_pos h1, fun h => by cases h⟩
  · obtain ⟨k, v, e, hv⟩ := zz6_run r (by omega) r.length 0 (by omega)
    exact ⟨k, v, by rw [if_neg h1]; exact e, fun h => ⟨by omega, hv h⟩⟩
theorem zz5_run (a : List (List S53)) (hl : a.length ≤ 2147483647) : ∀ (m i : Nat), i + m = a.length → ∃ k v, laws_zzFits5.l0 k a (a.length : Int) (i : Int) = some v ∧ (v = true → ∀ r ∈ a.drop i, r.length ≤ 2147483647 ∧ ∀ x ∈ r, Fit x) := by
  intro m
  induction m with
  | zero =>
    intro i hi
    refine ⟨1, true, by rw [laws_zzFits5.l0, if_neg (by omega)], fun _ x hx => ?_⟩
    rw [show i = a.length by omega, List.drop_length] at hx
    cases hx
  | succ m ih =>
    intro i hi
    have hir : i < a.length := by omega
    obtain ⟨k, v, e, hv⟩ := ih (i + 1) (by omega)
    obtain ⟨kb, b, eb, hb⟩ := zz6 a[i]
    have e' := at_rounds (fun k => (laws_zzFits5.mono_l k) a (a.length : Int) ((i + 1 : Nat) : Int)) (Nat.le_max_left k kb) e
    have eb' := at_rounds (fun k => laws_zzFits6.mono a[i] k) (Nat.le_max_right k kb) eb
    refine ⟨max k kb + 1, if b = true then v else false, ?_, fun h x hx => ?_⟩
    · rw [laws_zzFits5.l0, if_pos (by omega), if_pos (by omega), if_pos (by omega), rd3_at a i hir, eb', Option.bind_some]
      split
      · rw [wrap_succ i (by omega), e']
      · rfl
    · split at h
      · rename_i c
        rw [List.drop_eq_getElem_cons hir] at hx
        rcases List.mem_cons.1 hx with rfl | hx
        · exact hb c
        · exact hv h x hx
      · cases h
theorem zz5 (a : List (List S53)) : ∃ k v, laws_zzFits5.f k a = some v ∧ (v = true → a.length ≤ 2147483647 ∧ ∀ r ∈ a, r.length ≤ 2147483647 ∧ ∀ x ∈ r, Fit x) := by
  unfold laws_zzFits5.f
  by_cases h1 : (a.length : Int) > 2147483647
  · exact ⟨0, false, if_pos h1, fun h => by cases h⟩
  · obtain ⟨k, v, e, hv⟩ := zz5_run a (by omega) a.length 0 (by omega)
    exact ⟨k, v, by rw [if_neg h1]; exact e, fun h => ⟨by omega, hv h⟩⟩

theorem nm1_run (a : List (List S53)) (r : List S53) (hr : r.length ≤ 2147483647) (x3 : List (List S54)) (h3 : x3.length < 5864062014805) (n : Int) (p : Nat) (hp : p < 4611686018427387904) (K : Nat) (v : List (List S54)) (hcont : laws_names.l0 K (x3 ++ [r.map up]) a n ((p + 1 : Nat) : Int) = some v) : ∀ (m i : Nat), i + m = r.length →
    laws_names.l1 (K + m + 1) x3 ((r.take i).map up) a n (p : Int) r (r.length : Int) (i : Int) = some v := by
  intro m
  induction m with
  | zero =>
    intro i hi
    rw [Nat.add_zero, laws_names.l1, if_neg (by omega), if_pos h3, wrap_succ p hp, List.take_of_length_le (by omega), hcont]
  | succ m ih =>
    intro i hi
    have hir : i < r.length := by omega
    rw [show K + (m + 1) + 1 = (K + m + 1) + 1 by omega, laws_names.l1, if_pos (by omega), if_pos (by omega), if_pos (by omega), if_pos (by simp; omega), rd53_at r i hir, wrap_succ i (by omega)]
    have := ih (i + 1) (by omega)
    rw [List.take_succ_eq_append_getElem hir, List.map_append] at this
    exact this
theorem nm0_run (a : List (List S53)) (ha : ∀ r ∈ a, r.length ≤ 2147483647) (hl : a.length ≤ 2147483647) : ∀ (m p : Nat), p + m = a.length →
    ∃ k, laws_names.l0 k (upL (a.take p)) a (a.length : Int) (p : Int) = some (upL a) := by
  intro m
  induction m with
  | zero =>
    intro p hp
    exact ⟨1, by rw [laws_names.l0, if_neg (by omega), List.take_of_length_le (by omega)]⟩
  | succ m ih =>
    intro p hp
    have hpa : p < a.length := by omega
    obtain ⟨k, e⟩ := ih (p + 1) (by omega)
    rw [List.take_succ_eq_append_getElem hpa] at e
    have e' : laws_names.l0 k (upL (a.take p) ++ [a[p].map up]) a (a.length : Int) ((p + 1 : Nat) : Int) = some (upL a) := by
      rw [← e, upL, upL, List.map_append]
      rfl
    have h := nm1_run a a[p] (ha _ (List.getElem_mem hpa)) (upL (a.take p)) (by simp; omega) (a.length : Int) p (by omega) k _ e' a[p].length 0 (by omega)
    refine ⟨k + a[p].length + 1 + 1, ?_⟩
    rw [laws_names.l0, if_pos (by omega), if_pos (by omega), if_pos (by omega), rd3_at a p hpa]
    exact h
theorem names_ok (a : List (List S53)) (ha : ∀ r ∈ a, r.length ≤ 2147483647) (hl : a.length ≤ 2147483647) : ∃ k, laws_names.f k a = some (upL a) := by
  obtain ⟨k, e⟩ := nm0_run a ha hl a.length 0 (by omega)
  exact ⟨k, e⟩
end Go.Proofs.YtcohjechpnlogaaDoor.Dn
