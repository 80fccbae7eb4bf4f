/- spec.SameNames and spec.Above, as the package compares names. -/
import Derived.Test.YtcohjechpnlogaaDoorDnMatch
import Derived.Test.YtcohjechpnlogaaDoorDnAnc
namespace Go.Proofs.YtcohjechpnlogaaDoor.Dn
open Go.RowKit Go.Proofs.YtcohjechpnlogaaDoorW.PrintWords Go.Proofs.YtcohjechpnlogaaDoor.PDN
set_option linter.unusedVariables false
set_option linter.unusedSimpArgs false

/-- a part that is proper -/
structure GoodP (r : List S53) : Prop where
  len : r.length < 1000
  small : ∀ x ∈ r, Small x
  apart : Apart r
abbrev upL (a : List (List S53)) : List (List S54) := a.map (fun r => r.map up)
theorem rd_upL (a : List (List S53)) (i : Nat) (h : i < a.length) : rd_L5 (upL a) (i : Int) = a[i].map up := by
  rw [rd_L5, Int.toNat_natCast, List.getD_eq_getElem?_getD, List.getElem?_map, List.getElem?_eq_getElem h]
  rfl

theorem names_run (fold : Bool) (a b : List (List S53)) (ga : ∀ r ∈ a, GoodP r) (gb : ∀ r ∈ b, GoodP r) (la : a.length < 1000) (lb : b.length < 1000) : ∀ (m i : Nat), i + m = a.length →
    ∃ k, spec_SameNames.l0 k (upL a) (upL b) fold ((upL a).length : Int) (i : Int) = some (if a.length ≠ b.length then false else allEq fold (a.drop i) (b.drop i)) := by
  intro m
  induction m with
  | zero =>
    intro i hi
    refine ⟨1, ?_⟩
    rw [spec_SameNames.l0, if_neg (by simp; omega)]
    congr 1
    by_cases h : a.length = b.length
    · rw [if_neg (fun e => e h), show i = a.length by omega, List.drop_length, allEq]
      · simp [h]
      · intro r rs s ss e; cases e
    · rw [if_pos h]
      simp
      omega
  | succ m ih =>
    intro i hi
    have hia : i < a.length := by omega
    have hw := wrap_succ i (by omega)
    obtain ⟨k2, e2⟩ := ih (i + 1) (by omega)
    by_cases hib : i < b.length
    · obtain ⟨k1, e1⟩ := samePart_ok fold a[i] b[i] (ga _ (List.getElem_mem hia)).small (gb _ (List.getElem_mem hib)).small (ga _ (List.getElem_mem hia)).len (gb _ (List.getElem_mem hib)).len
      have e1' := at_rounds (fun k => spec_SamePart.mono (a[i].map up) (b[i].map up) fold k) (Nat.le_max_left k1 k2) e1
      have e2' := at_rounds (fun k => (spec_SameNames.mono_l k) (upL a) (upL b) fold ((upL a).length : Int) ((i + 1 : Nat) : Int)) (Nat.le_max_right k1 k2) e2
      refine ⟨max k1 k2 + 1, ?_⟩
      rw [spec_SameNames.l0, if_pos (by simp; omega), if_neg (by simp; omega), if_pos (by omega), if_pos (by simp; omega), if_pos (by simp; omega), rd_upL a i hia, rd_upL b i hib, e1', Option.bind_some]
      rw [List.drop_eq_getElem_cons hia, List.drop_eq_getElem_cons hib, allEq, rdnEq_same fold _ _ (ga _ (List.getElem_mem hia)).apart (gb _ (List.getElem_mem hib)).apart]
      by_cases h : samePart fold a[i] b[i] = true
      · rw [if_pos h, hw, e2', h, Bool.true_and]
      · rw [if_neg h]
        have h' : samePart fold a[i] b[i] = false := by simpa using h
        rw [h', Bool.false_and]
        split <;> rfl
    · refine ⟨1, ?_⟩
      rw [spec_SameNames.l0, if_pos (by simp; omega), if_pos (by simp; omega), if_pos (by omega)]

theorem sameNames_ok (fold : Bool) (a b : List (List S53)) (ga : ∀ r ∈ a, GoodP r) (gb : ∀ r ∈ b, GoodP r) (la : a.length < 1000) (lb : b.length < 1000) : ∃ k, spec_SameNames.f k (upL a) (upL b) fold = some (dnEq fold a b) := by
  obtain ⟨k, e⟩ := names_run fold a b ga gb la lb a.length 0 (by omega)
  refine ⟨k, ?_⟩
  unfold spec_SameNames.f dnEq
  rw [show ((0 : Nat) : Int) = 0 from rfl] at e
  rw [e, List.drop_zero, List.drop_zero]

theorem above_ok (fold : Bool) (a b : List (List S53)) (ga : ∀ r ∈ a, GoodP r) (gb : ∀ r ∈ b, GoodP r) (la : a.length < 1000) (lb : b.length < 1000) : ∃ k, spec_Above.f k (upL a) (upL b) fold = some (ancEq fold a b) := by
  by_cases h : a.length < b.length
  · obtain ⟨k, e⟩ := sameNames_ok fold a (b.drop (b.length - a.length)) ga (fun r hr => gb r (List.mem_of_mem_drop hr)) la (by rw [List.length_drop]; omega)
    refine ⟨k, ?_⟩
    unfold spec_Above.f ancEq
    have hw : wrap64 (((upL b).length : Int) - ((upL a).length : Int)) = ((b.length - a.length : Nat) : Int) := by
      rw [List.length_map, List.length_map]
      unfold wrap64
      omega
    rw [if_pos (by simp; omega), hw, if_pos (by omega), if_pos (by simp), Int.toNat_natCast]
    rw [show (upL b).drop (b.length - a.length) = upL (b.drop (b.length - a.length)) from (List.map_drop ..).symm, e, Option.bind_some, if_neg (by omega)]
    rw [dnEq, if_neg (by rw [List.length_drop]; omega)]
  · refine ⟨0, ?_⟩
    unfold spec_Above.f ancEq
    rw [if_neg (by simp; omega), if_pos (by omega)]
end Go.Proofs.YtcohjechpnlogaaDoor.Dn
