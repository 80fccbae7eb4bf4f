/- spec.ProperName: a proper name has few parts of ASCII; laws.zzFits5 ends. -/
import Derived.Test.YtcohjechpnlogaaDoorDnApart
namespace Go.Proofs.YtcohjechpnlogaaDoor.Dn
open Go.RowKit Go.Proofs.YtcohjechpnlogaaDoorW.PrintWords Go.Proofs.YtcohjechpnlogaaDoor.PDN
set_option linter.unusedVariables false
set_option linter.unusedSimpArgs false

def Ascii (s : ByteArray) : Prop := ∀ i : Nat, i < s.size → bt s (i : Int) < 128

theorem word_step (k : Nat) (s : ByteArray) (i : Nat) (hi : i < s.size) :
    spec_Word.l0 (k + 1) s (s.size : Int) (i : Int) = some false ∨ (spec_Word.l0 (k + 1) s (s.size : Int) (i : Int) = spec_Word.l0 k s (s.size : Int) (wrap64 ((i : Int) + 1)) ∧ bt s (i : Int) < 128) := by
  rw [spec_Word.l0, if_pos (by omega), if_pos (by omega), if_pos (by omega)]
  generalize spec_Word.l0 k s (s.size : Int) (wrap64 ((i : Int) + 1)) = R
  generalize bt s (i : Int) = x
  repeat' split
  all_goals first
    | exact Or.inl rfl
    | exact Or.inr ⟨rfl, by omega⟩
theorem word_run (s : ByteArray) (hs : s.size < 4611686018427387904) : ∀ (m i : Nat), i + m = s.size → ∃ k r, spec_Word.l0 k s (s.size : Int) (i : Int) = some r ∧ (r = true → ∀ q, i ≤ q → q < s.size → bt s (q : Int) < 128) := by
  intro m
  induction m with
  | zero =>
    intro i hi
    refine ⟨1, _, by rw [spec_Word.l0, if_neg (by omega)], fun _ q h1 h2 => by omega⟩
  | succ m ih =>
    intro i hi
    obtain ⟨k, r, e, hr⟩ := ih (i + 1) (by omega)
    rcases word_step k s i (by omega) with h | ⟨h, hb⟩
    · exact ⟨k + 1, false, h, fun h => by cases h⟩
    · refine ⟨k + 1, r, by rw [h, wrap_succ i (by omega), e], fun hr' q h1 h2 => ?_⟩
      by_cases e : q = i
      · subst e; exact hb
      · exact hr hr' q (by omega) h2
theorem desc_run (s : ByteArray) (hs : s.size < 4611686018427387904) : ∀ (m i : Nat), i + m = s.size → ∃ k r, spec_descriptor.l0 k s (s.size : Int) (i : Int) = some r ∧ (r = true → Ascii s) := by
  intro m
  induction m with
  | zero =>
    intro i hi
    obtain ⟨k, r, e, hr⟩ := word_run s hs s.size 0 (by omega)
    rw [show ((0 : Nat) : Int) = 0 from rfl] at e
    have e' : spec_Word.f k s = some r := e
    exact ⟨k + 1, r, by rw [spec_descriptor.l0, if_neg (by omega), e', Option.bind_some], fun h q hq => hr h q (Nat.zero_le _) hq⟩
  | succ m ih =>
    intro i hi
    obtain ⟨k, r, e, hr⟩ := ih (i + 1) (by omega)
    by_cases h1 : bt s (i : Int) = 59
    · exact ⟨k + 1, false, by rw [spec_descriptor.l0, if_pos (by omega), if_pos (by omega), if_pos (by omega), if_pos h1], fun h => by cases h⟩
    · by_cases h2 : bt s (i : Int) = 46
      · exact ⟨k + 1, false, by rw [spec_descriptor.l0, if_pos (by omega), if_pos (by omega), if_pos (by omega), if_neg h1, if_pos h2], fun h => by cases h⟩
      · exact ⟨k + 1, r, by rw [spec_descriptor.l0, if_pos (by omega), if_pos (by omega), if_pos (by omega), if_neg h1, if_neg h2, wrap_succ i (by omega), e], hr⟩
theorem desc_ok (s : ByteArray) (hs : s.size < 4611686018427387904) : ∃ k r, spec_descriptor.f k s = some r ∧ (r = true → Ascii s) := by
  obtain ⟨k, r, e, h⟩ := desc_run s hs s.size 0 (by omega)
  exact ⟨k, r, e, h⟩
theorem ascii_plain {s : ByteArray} (h : Ascii s) (hs : s.size < 4294967281) : Plain s := by
  refine ⟨hs, fun j b hb => ?_⟩
  have hj : j < s.data.toList.length := by
    rcases Nat.lt_or_ge j s.data.toList.length with h1 | h1
    · exact h1
    · rw [List.getElem?_eq_none h1] at hb; cases hb
  have := h j (by rw [← data_length]; exact hj)
  rw [← rd_bytesOf, rd, Int.toNat_natCast, bytesOf, List.getD_eq_getElem?_getD, List.getElem?_map, hb] at this
  simp at this
  omega
end Go.Proofs.YtcohjechpnlogaaDoor.Dn
