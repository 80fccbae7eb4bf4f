/- spec.Apart: no type twice in a part. -/
import Derived.Test.YtcohjechpnlogaaDoorDnNames
namespace Go.Proofs.YtcohjechpnlogaaDoor.Dn
open Go.RowKit Go.Proofs.YtcohjechpnlogaaDoorW.PrintWords Go.Proofs.YtcohjechpnlogaaDoor.PDN
set_option linter.unusedVariables false
set_option linter.unusedSimpArgs false

theorem ap2_run (r : List S53) (hr : ∀ x ∈ r, Small x) (hl : r.length < 1000) (P : List (List S54)) (n p : Int) (i : Nat) (hi : i < r.length) (K : Nat) (v : Bool) (hcont : spec_Apart.l1 K (r.map up) P n p ((r.map up).length : Int) ((i + 1 : Nat) : Int) = some v) : ∀ (m j : Nat), j + m = i →
    ∃ k v', spec_Apart.l2 k (r.map up) (i : Int) P n p ((r.map up).length : Int) (i : Int) ((r.take i).map up) (((r.take i).map up).length : Int) (j : Int) = some v' ∧ (v' = true → (∀ q (h : q < r.length), j ≤ q → q < i → eqF r[q].f0 r[i].f0 = false) ∧ v = true) := by
  have hti : (r.take i).length = i := by rw [List.length_take]; omega
  intro m
  induction m with
  | zero =>
    intro j hj
    refine ⟨K + 1, v, ?_, fun hv => ⟨fun q h h1 h2 => by omega, hv⟩⟩
    rw [spec_Apart.l2, if_neg (by simp; omega), wrap_succ i (by omega), hcont]
  | succ m ih =>
    intro j hj
    have hji : j < (r.take i).length := by omega
    have hjr : j < r.length := by omega
    have hgj : (r.take i)[j] = r[j] := List.getElem_take
    obtain ⟨k2, v2, e2, hv2⟩ := ih (j + 1) (by omega)
    by_cases hc : eqF r[j].f0 r[i].f0 = true
    · refine ⟨k2 + 1, false, ?_, fun h => by cases h⟩
      rw [spec_Apart.l2, if_pos (by simp; omega), if_pos (by omega), if_pos (by simp; omega), rd_up0 (r.take i) j hji, hgj, folded_ok (hr _ (List.getElem_mem hjr)).ty, Option.bind_some, if_pos (by omega), if_pos (by simp; omega), rd_up0 r i hi, folded_ok (hr _ (List.getElem_mem hi)).ty, Option.bind_some, if_pos ((low_eq _ _).2 hc)]
    · refine ⟨k2 + 1, v2, ?_, fun h => ⟨fun q hq h1 h2 => ?_, (hv2 h).2⟩⟩
      · rw [spec_Apart.l2, if_pos (by simp; omega), if_pos (by omega), if_pos (by simp; omega), rd_up0 (r.take i) j hji, hgj, folded_ok (hr _ (List.getElem_mem hjr)).ty, Option.bind_some, if_pos (by omega), if_pos (by simp; omega), rd_up0 r i hi, folded_ok (hr _ (List.getElem_mem hi)).ty, Option.bind_some, if_neg (fun e => hc ((low_eq _ _).1 e)), wrap_succ j (by omega), e2]
      · by_cases e : q = j
        · subst e
          simpa using hc
        · exact (hv2 h).1 q hq (by omega) h2

theorem ap1_run (r : List S53) (hr : ∀ x ∈ r, Small x) (hl : r.length < 1000) (P : List (List S54)) (n : Int) (p K : Nat) (hp : p < 1000) (v : Bool) (hcont : spec_Apart.l0 K P n ((p + 1 : Nat) : Int) = some v) : ∀ (m i : Nat), i + m = r.length →
    ∃ k v', spec_Apart.l1 k (r.map up) P n (p : Int) ((r.map up).length : Int) (i : Int) = some v' ∧ (v' = true → (∀ i' (h' : i' < r.length), i ≤ i' → ∀ q (h : q < r.length), q < i' → eqF r[q].f0 r[i'].f0 = false) ∧ v = true) := by
  intro m
  induction m with
  | zero =>
    intro i hi
    refine ⟨K + 1, v, ?_, fun hv => ⟨fun i' h' h1 => by omega, hv⟩⟩
    rw [spec_Apart.l1, if_neg (by simp; omega), wrap_succ p (by omega), hcont]
  | succ m ih =>
    intro i hi
    have hir : i < r.length := by omega
    obtain ⟨k1, v1, e1, hv1⟩ := ih (i + 1) (by omega)
    obtain ⟨k2, v2, e2, hv2⟩ := ap2_run r hr hl P n (p : Int) i hir k1 v1 e1 i 0 (by omega)
    refine ⟨k2 + 1, v2, ?_, fun h => ⟨fun i' h' h1 q hq h2 => ?_, (hv1 (hv2 h).2).2⟩⟩
    · rw [spec_Apart.l1, if_pos (by simp; omega), if_pos (by omega), if_pos (by simp; omega), Option.bind_some, Int.toNat_natCast]
      rw [show (r.map up).take i = (r.take i).map up from (List.map_take ..).symm]
      rw [show ((0 : Nat) : Int) = 0 from rfl] at e2
      rw [e2]
    · by_cases e : i' = i
      · subst e
        exact (hv2 h).1 q hq (Nat.zero_le _) h2
      · exact (hv1 (hv2 h).2).1 i' h' (by omega) q hq h2

theorem ap0_run (a : List (List S53)) (ha : ∀ r ∈ a, r.length < 1000 ∧ ∀ x ∈ r, Small x) (hl : a.length < 1000) : ∀ (m p : Nat), p + m = a.length →
    ∃ k v, spec_Apart.l0 k (upL a) ((upL a).length : Int) (p : Int) = some v ∧ (v = true → ∀ r ∈ a.drop p, Apart r) := by
  intro m
  induction m with
  | zero =>
    intro p hp
    refine ⟨1, true, ?_, fun _ r hr => ?_⟩
    · rw [spec_Apart.l0, if_neg (by simp; omega)]
    · rw [show p = a.length by omega, List.drop_length] at hr
      cases hr
  | succ m ih =>
    intro p hp
    have hpa : p < a.length := by omega
    obtain ⟨k0, v0, e0, hv0⟩ := ih (p + 1) (by omega)
    have hm := ha _ (List.getElem_mem hpa)
    obtain ⟨k1, v1, e1, hv1⟩ := ap1_run a[p] hm.2 hm.1 (upL a) ((upL a).length : Int) p k0 (by omega) v0 e0 a[p].length 0 (by omega)
    refine ⟨k1 + 1, v1, ?_, fun h r hr => ?_⟩
    · rw [spec_Apart.l0, if_pos (by simp; omega), if_pos (by omega), if_pos (by simp; omega), rd_upL a p hpa]
      rw [show ((0 : Nat) : Int) = 0 from rfl] at e1
      exact e1
    · rw [List.drop_eq_getElem_cons hpa] at hr
      rcases List.mem_cons.1 hr with rfl | hr
      · refine List.pairwise_iff_getElem.2 (fun i j hi hj hij => (hv1 h).1 j hj (Nat.zero_le _) i hi hij)
      · exact hv0 (hv1 h).2 r hr

theorem apart_ok (a : List (List S53)) (ha : ∀ r ∈ a, r.length < 1000 ∧ ∀ x ∈ r, Small x) (hl : a.length < 1000) : ∃ k v, spec_Apart.f k (upL a) = some v ∧ (v = true → ∀ r ∈ a, Apart r) := by
  obtain ⟨k, v, e, h⟩ := ap0_run a ha hl a.length 0 (by omega)
  exact ⟨k, v, e, h⟩
end Go.Proofs.YtcohjechpnlogaaDoor.Dn
