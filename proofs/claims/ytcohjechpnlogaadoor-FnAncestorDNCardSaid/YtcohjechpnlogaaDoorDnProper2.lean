/- spec.ProperName: a proper name has few parts of ASCII. -/
import Derived.Test.YtcohjechpnlogaaDoorDnProper
namespace Go.Proofs.YtcohjechpnlogaaDoor.Dn
open Go.RowKit Go.Proofs.YtcohjechpnlogaaDoorW.PrintWords Go.Proofs.YtcohjechpnlogaaDoor.PDN
set_option linter.unusedVariables false
set_option linter.unusedSimpArgs false

/-- sizes that 'zzFits5' lets in -/
structure Fit (x : S53) : Prop where
  ty : x.f0.size ≤ 2147483647
  val : x.f1.size ≤ 2147483647

theorem pn2_run (P : List (List S54)) (R : List S54) (n p : Int) (N : Int) (i : Nat) (hi : i < 4611686018427387904) (s t : ByteArray) (ht : t.size ≤ 2147483647) (K : Nat) (v : Bool) (hcont : spec_ProperName.l1 K P R P n p R N ((i + 1 : Nat) : Int) = some v) : ∀ (m j : Nat), j + m = t.size →
    ∃ k v', spec_ProperName.l2 k P R P n p R N (i : Int) (t.size : Int) (j : Int) s t = some v' ∧ (v' = true → (∀ q : Nat, j ≤ q → q < t.size → bt t (q : Int) < 128) ∧ v = true) := by
  intro m
  induction m with
  | zero =>
    intro j hj
    exact ⟨K + 1, v, by rw [spec_ProperName.l2, if_neg (by omega), wrap_succ i hi, hcont], fun h => ⟨fun q h1 h2 => by omega, h⟩⟩
  | succ m ih =>
    intro j hj
    obtain ⟨k, v', e, hv⟩ := ih (j + 1) (by omega)
    by_cases h1 : bt t (j : Int) < 32
    · exact ⟨k + 1, false, by rw [spec_ProperName.l2, if_pos (by omega), if_pos (by omega), if_pos (by omega), if_pos h1], fun h => by cases h⟩
    · by_cases h2 : bt t (j : Int) > 126
      · exact ⟨k + 1, false, by rw [spec_ProperName.l2, if_pos (by omega), if_pos (by omega), if_pos (by omega), if_neg h1, if_pos h2], fun h => by cases h⟩
      · refine ⟨k + 1, v', by rw [spec_ProperName.l2, if_pos (by omega), if_pos (by omega), if_pos (by omega), if_neg h1, if_neg h2, wrap_succ j (by omega), e], fun h => ⟨fun q h3 h4 => ?_, (hv h).2⟩⟩
        by_cases e : q = j
        · subst e; omega
        · exact (hv h).1 q (by omega) h4

theorem pn1_run (P : List (List S54)) (r : List S53) (hr : ∀ x ∈ r, Fit x) (hl : r.length ≤ 2147483647) (n : Int) (p : Nat) (hp : p < 4611686018427387904) (K : Nat) (v : Bool) (hcont : spec_ProperName.l0 K P P n ((p + 1 : Nat) : Int) = some v) : ∀ (m i : Nat), i + m = r.length →
    ∃ k v', spec_ProperName.l1 k P (r.map up) P n (p : Int) (r.map up) ((r.map up).length : Int) (i : Int) = some v' ∧ (v' = true → (∀ x ∈ r.drop i, PlainA x) ∧ r.length ≤ 5 ∧ v = true) := by
  intro m
  induction m with
  | zero =>
    intro i hi
    refine ⟨K + 1, if (r.length : Int) = 0 then false else if (r.length : Int) > 5 then false else v, ?_, fun h => ?_⟩
    · rw [spec_ProperName.l1, if_neg (by simp; omega), List.length_map, wrap_succ p hp, hcont]
      split
      · rfl
      · split <;> rfl
    · split at h
      · cases h
      · split at h
        · cases h
        · refine ⟨fun x hx => ?_, by omega, h⟩
          rw [show i = r.length by omega, List.drop_length] at hx
          cases hx
  | succ m ih =>
    intro i hi
    have hir : i < r.length := by omega
    have hf := hr _ (List.getElem_mem hir)
    obtain ⟨k1, v1, e1, h1⟩ := ih (i + 1) (by omega)
    obtain ⟨kd, d, ed, hd⟩ := desc_ok r[i].f0 (by have := hf.ty; omega)
    obtain ⟨k2, v2, e2, h2⟩ := pn2_run P (r.map up) n (p : Int) ((r.map up).length : Int) i (by omega) r[i].f0 r[i].f1 hf.val k1 v1 e1 r[i].f1.size 0 (by omega)
    rw [show ((0 : Nat) : Int) = 0 from rfl] at e2
    have ed' := at_rounds (fun k => spec_descriptor.mono r[i].f0 k) (show kd ≤ kd + k2 + 1 by omega) ed
    have e2' := at_rounds (fun k => (spec_ProperName.mono_l k).2.2.2 _ _ _ _ _ _ _ _ _ _ _ _) (show k2 ≤ kd + k2 by omega) e2
    have hj : ∀ b : Bool, spec_ProperName.j2 (kd + k2 + 1) P (r.map up) P n (p : Int) (r.map up) ((r.map up).length : Int) (i : Int) b r[i].f0 r[i].f1 = some (if b = true then false else v2) := by
      intro b
      rw [spec_ProperName.j2]
      split
      · rfl
      · rw [e2']
    refine ⟨kd + k2 + 1 + 1, if d = true then (if (r[i].f0.size : Int) > 30 then false else if decide ((r[i].f1.size : Int) > 50) = true then false else v2) else false, ?_, fun h => ?_⟩
    · rw [spec_ProperName.l1, if_pos (by simp; omega), if_pos (by omega), if_pos (by simp; omega), rd_up0 r i hir, rd_up1 r i hir, ed', Option.bind_some]
      by_cases c1 : d = true
      · rw [if_pos c1, if_pos c1]
        by_cases c2 : (r[i].f0.size : Int) > 30
        · rw [if_pos c2, if_pos c2, hj]
          rfl
        · rw [if_neg c2, if_neg c2, hj]
      · rw [if_neg c1, if_neg c1, hj]
        rfl
    · split at h
      · rename_i c1
        split at h
        · cases h
        · split at h
          · cases h
          · obtain ⟨g1, g2⟩ := h2 h
            obtain ⟨g3, g4, g5⟩ := h1 g2
            refine ⟨fun x hx => ?_, g4, g5⟩
            rw [List.drop_eq_getElem_cons hir] at hx
            rcases List.mem_cons.1 hx with rfl | hx
            · exact ⟨ascii_plain (hd c1) (by have := hf.ty; omega), ascii_plain (fun q hq => g1 q (Nat.zero_le _) hq) (by have := hf.val; omega)⟩
            · exact g3 x hx
      · cases h

theorem pn0_run (a : List (List S53)) (ha : ∀ r ∈ a, r.length ≤ 2147483647 ∧ ∀ x ∈ r, Fit x) (hl : a.length ≤ 2147483647) : ∀ (m p : Nat), p + m = a.length →
    ∃ k v, spec_ProperName.l0 k (upL a) (upL a) ((upL a).length : Int) (p : Int) = some v ∧ (v = true → (∀ r ∈ a.drop p, r.length ≤ 5 ∧ ∀ x ∈ r, PlainA x) ∧ a.length ≤ 10) := by
  intro m
  induction m with
  | zero =>
    intro p hp
    refine ⟨1, _, by rw [spec_ProperName.l0, if_neg (by simp; omega)], fun h => ⟨fun r hr => ?_, ?_⟩⟩
    · rw [show p = a.length by omega, List.drop_length] at hr
      cases hr
    · have := of_decide_eq_true h
      simp at this
      omega
  | succ m ih =>
    intro p hp
    have hpa : p < a.length := by omega
    obtain ⟨k0, v0, e0, h0⟩ := ih (p + 1) (by omega)
    have hm := ha _ (List.getElem_mem hpa)
    obtain ⟨k1, v1, e1, h1⟩ := pn1_run (upL a) a[p] hm.2 hm.1 ((upL a).length : Int) p (by omega) k0 v0 e0 a[p].length 0 (by omega)
    rw [show ((0 : Nat) : Int) = 0 from rfl] at e1
    refine ⟨k1 + 1, v1, by rw [spec_ProperName.l0, if_pos (by simp; omega), if_pos (by omega), if_pos (by simp; omega), rd_upL a p hpa, e1], fun h => ⟨fun r hr => ?_, (h0 (h1 h).2.2).2⟩⟩
    rw [List.drop_eq_getElem_cons hpa] at hr
    rcases List.mem_cons.1 hr with rfl | hr
    · exact ⟨(h1 h).2.1, fun x hx => (h1 h).1 x (by rw [List.drop_zero]; exact hx)⟩
    · exact (h0 (h1 h).2.2).1 r hr

theorem proper_ok (a : List (List S53)) (ha : ∀ r ∈ a, r.length ≤ 2147483647 ∧ ∀ x ∈ r, Fit x) (hl : a.length ≤ 2147483647) : ∃ k v, spec_ProperName.f k (upL a) = some v ∧ (v = true → (∀ r ∈ a, r.length ≤ 5 ∧ ∀ x ∈ r, PlainA x) ∧ a.length ≤ 10) := by
  obtain ⟨k, v, e, h⟩ := pn0_run a ha hl a.length 0 (by omega)
  exact ⟨k, v, e, h⟩
end Go.Proofs.YtcohjechpnlogaaDoor.Dn
