/- FnEscapeFilter: for every string the law answers true: the package's escaped filter value is the reference's. No condition. -/
import Derived.Test.YthlameofbhopkaaEscWalk
import Derived.Test.YthlameofbhopkaaPFnEscapeFilterx2
import Derived.Test.YthlameofbhopkaaPFnLengthx1
import Derived.Test.YthlameofbhopkaaRows
import Derived.ProofKit
import Derived.OpenShut
import Derived.ShutString
import Derived.ChangeOld
import Derived.SizedLaws
namespace Go.Proofs.Ythlameofbhopkaa.EscLaw
open Go.RowKit Go.Proofs.YthlameofbhopkaaW.PrintWords Go.Proofs.Ythlameofbhopkaa.Esc Go.Proofs.Ythlameofbhopkaa.EscWalk
open Go.Proofs.Ythlameofbhopkaa.PFnEscapeFilter (spec_Escaped.l0 spec_Escaped.f spec_Escaped.mono_l spec_Escaped.calls)
set_option linter.unusedVariables false
set_option linter.unusedSimpArgs false

theorem spec_out (s : ByteArray) (hs : s.size ≤ 2000) (d : Nat) : ∀ (i : Nat) (acc : List Int), i + d = s.size → acc.length ≤ 3 * i →
    spec_Escaped.l0 (d + 1) s acc (s.size : Int) (i : Int) = some (strOfNums (acc ++ outp s i d)) := by
  induction d with
  | zero =>
    intro i acc hi ha
    unfold spec_Escaped.l0
    rw [if_neg (by omega)]
    simp [outp]
  | succ d ih =>
    intro i acc hi ha
    unfold spec_Escaped.l0
    have e1 := wadd i 1 (by omega) (by omega) (by omega)
    have e3 : (i : Int) + 1 = ((i + 1 : Nat) : Int) := by omega
    obtain ⟨b0, b1⟩ := bt_range s (i : Int)
    obtain ⟨l0, l1⟩ := low4 _ b0 b1
    rw [if_pos (by omega), if_pos (by omega), if_pos (by omega), e1, e3]
    have hyes : mustE (bt s (i : Int)) = true → (if 0 ≤ bt s (i : Int) / 16 then (if bt s (i : Int) / 16 < 16 then (if 0 ≤ Go.bits .and .u8 (bt s (i : Int)) 15 then (if Go.bits .and .u8 (bt s (i : Int)) 15 < 16 then ((some (([92, bt (⟨#[48, 49, 50, 51, 52, 53, 54, 55, 56, 57, 97, 98, 99, 100, 101, 102]⟩ : ByteArray) (bt s (i : Int) / 16), bt (⟨#[48, 49, 50, 51, 52, 53, 54, 55, 56, 57, 97, 98, 99, 100, 101, 102]⟩ : ByteArray) (Go.bits .and .u8 (bt s (i : Int)) 15)] : List Int) : List Int)).bind fun y => (if acc.length + y.length < 140737488355328 then (spec_Escaped.l0 (d + 1) s (acc ++ y) (s.size : Int) ((i + 1 : Nat) : Int)) else none)) else none) else none) else none) else none) = some (strOfNums (acc ++ outp s i (d + 1))) := by
      intro hm
      rw [if_pos (by omega), if_pos (by omega), if_pos l0, if_pos l1]
      simp only [Option.bind_some]
      rw [if_pos (by simp; omega), ih (i + 1) _ (by omega) (by simp; omega)]
      simp [outp, piece, hm, hexs]
    by_cases h2 : bt s (i : Int) = 40
    · rw [if_pos h2]; exact hyes (by unfold mustE; simp [h2])
    rw [if_neg h2]
    by_cases h3 : bt s (i : Int) = 41
    · rw [if_pos h3]; exact hyes (by unfold mustE; simp [h3])
    rw [if_neg h3]
    by_cases h4 : bt s (i : Int) = 42
    · rw [if_pos h4]; exact hyes (by unfold mustE; simp [h4])
    rw [if_neg h4]
    by_cases h5 : bt s (i : Int) = 92
    · rw [if_pos h5]; exact hyes (by unfold mustE; simp [h5])
    rw [if_neg h5]
    by_cases h6 : bt s (i : Int) = 0
    · rw [if_pos h6]; exact hyes (by unfold mustE; simp [h6])
    rw [if_neg h6]
    by_cases h7 : bt s (i : Int) ≥ 128
    · rw [if_pos h7]; exact hyes (by unfold mustE; simp [show bt s (i : Int) > 127 by omega])
    rw [if_neg h7, if_pos (by omega), ih (i + 1) _ (by omega) (by simp; omega)]
    have hm : mustE (bt s (i : Int)) = false := by unfold mustE; simp [h2, h3, h4, h5, h6]; omega
    simp [outp, piece, hm]


theorem works_true : PFnLength.laws_works.f 12 = some true := by decide +kernel
theorem works_any (w : World) : Calls Try.prog 5 #[] w fun e w' => e = .returned (.bool true) ∧ Below w.heap.size w w' :=
  PFnLength.laws_works.calls 12 true w works_true

theorem escaped_any (s : ByteArray) (hs : s.size ≤ 2000) (w : World) :
    Calls Try.prog 9 #[.string s] w fun e w' => e = .returned (.string (strOfNums (outp s 0 s.size))) ∧ Below w.heap.size w w' := by
  have h := spec_out s hs s.size 0 [] (by omega) (by simp)
  exact spec_Escaped.calls (s.size + 1) s _ w (by unfold spec_Escaped.f; exact h)

theorem implEscape_any (s : ByteArray) (hs : s.size ≤ 2000) (w : World) :
    Calls Try.prog 8 #[.string s] w fun e w' => e = .returned (.string (strOfNums (outp s 0 s.size))) ∧ Below w.heap.size w w' := by
  go_enter Try.func8, Try.ntmps8
  go_wp2_with (go_at_call 11; refine (escape_any s hs _).mono ?_; rintro e w' ⟨rfl, hb⟩)
  go_ret
  exact ⟨rfl, hb⟩

theorem law_any (s : ByteArray) (w : World) :
    Calls Try.prog 4 #[.string s] w fun e w' => e = .returned (.bool true) ∧ Below w.heap.size w w' := by
  by_cases h1 : 2147483647 < s.size
  · go_enter Try.func4, Try.ntmps4
    go_wp2
    go_ret
    exact ⟨rfl, Below.refl _ _⟩
  by_cases h2 : 2000 < s.size
  · go_enter Try.func4, Try.ntmps4
    go_wp2
    go_ret
    exact ⟨rfl, Below.refl _ _⟩
  have hs : s.size ≤ 2000 := by omega
  obtain ⟨r, hr⟩ : ∃ r, r = strOfNums (outp s 0 s.size) := ⟨_, rfl⟩
  have c8 : ∀ w, Calls Try.prog 8 #[.string s] w fun e w' => e = .returned (.string r) ∧ Below w.heap.size w w' := by rw [hr]; exact implEscape_any s hs
  have c9 : ∀ w, Calls Try.prog 9 #[.string s] w fun e w' => e = .returned (.string r) ∧ Below w.heap.size w w' := by rw [hr]; exact escaped_any s hs
  clear hr
  go_enter Try.func4, Try.ntmps4
  go_wp2_with (first | (go_at_call 8; refine (c8 _).mono ?_; rintro e w1 ⟨rfl, hb1⟩) | (go_at_call 9; refine (c9 _).mono ?_; rintro e w2 ⟨rfl, hb2⟩) | (go_at_call 5; refine (works_any _).mono ?_; rintro e w3 ⟨rfl, hb3⟩))
  go_ret
  exact ⟨rfl, (hb1.trans (hb2.mono hb1.size)).trans (hb3.mono (by have := hb1.size; have := hb2.size; omega))⟩

end Go.Proofs.Ythlameofbhopkaa.EscLaw

namespace Go.Proofs.Ythlameofbhopkaa.EscRow
open Go.ChangeShapes Go.WideShapes Go.ChangeAt Go.RowKit
open Go.ChangeMaps (open_string shut_string)
set_option linter.unusedVariables false
theorem own : ownKnob Try.prog.godebug = none := by kernel_rfl
set_option maxRecDepth 100000 in
theorem lifted (os : Os) (started : os.Started) (H : Type) (enc : TypeId × Value → H) :
    ReturnsInHanded {} Try.checked os 4 .any (Rows.fnEscapeFilterSpec.pre6 enc Try.prog Try.f4 Rows.fnEscapeFilterRow.domain false) (Rows.fnEscapeFilterSpec.post enc Try.prog Try.f4 false true false false) := by
  refine returnsInHanded_of_change_sized (C := Try.checked) own started (by kernel_rfl) Try.func4
    (ChangeSpec.witness6 (enc := enc) (C := Try.checked) false ⟨#[], #[.string ByteArray.empty], []⟩ 8 (by kernel_rfl) (by kernel_rfl) (by kernel_rfl) (by kernel_rfl)) ?_
  intro W base args ds gs before hval0 hW hcnd hsz0 _
  have hval : ∀ (j : Nat) t v, Try.f4.params[j]? = some t → args[j]? = some v → Value.okWide Try.prog W .any base t v := hval0
  have hW' := hW
  obtain ⟨p, q, hA0, hV, rfl, hfz, hnd⟩ := hW
  have hA : DataW.TrodAll enc Try.prog W 0 (fun _ => true) true Try.f4.params.toList args.toList ds p := hA0
  rw [Try.params4] at hA hval
  obtain ⟨v0, vs0, d0, ds0, p0, q0, hargs, rfl, rfl, h0, r0⟩ := trodAll_cons hA
  obtain ⟨rfl, rfl, rfl⟩ := trodAll_nil r0
  obtain rfl : args = #[v0] := by cases args; simp_all
  obtain ⟨rfl, rfl⟩ := trodVars_none hV
  obtain ⟨a0, rfl, rfl, rfl, y0⟩ := open_string Try.underlying9 (hval 0 9 v0 rfl rfl) h0
  clear hA0 hval0 hsz0
  refine (EscLaw.law_any a0 W).mono fun e W' ⟨he, bel⟩ => ?_
  subst he
  exact ⟨_, rfl, _, _, _, [], _, [], hW', trodAll_mk1 (shut_bool Try.underlying4 _), (trodAll_cons_mk (shut_string Try.underlying9 y0) trodAll_mk0), rfl, bel.frame _, fun h => by cases h⟩
theorem over : Rows.fnEscapeFilterRow.holds Try.pinned (OpenSpec.ofChange Rows.fnEscapeFilterSpec) :=
  OpenClaim.holds_of_wide 4 Try.f4 rfl rfl rfl rfl rfl rfl rfl ⟨rfl, rfl, rfl, rfl, rfl⟩ rfl rfl rfl rfl rfl (by kernel_rfl) Try.func4 (by kernel_rfl)
    (of_decide_eq_true (by kernel_rfl)) (by unfold Func.isWrapper; first | (rw [if_pos (by decide +kernel)]; kernel_rfl) | (rw [if_neg (by decide +kernel)]; exact ⟨rfl, rfl⟩))
    (fun os started H enc _ => lifted os started H enc)
end Go.Proofs.Ythlameofbhopkaa.EscRow
namespace Go.Proofs.Ythlameofbhopkaa
theorem escapeFilter_holds : Rows.FnEscapeFilterSaid := EscRow.over
#print axioms escapeFilter_holds
end Go.Proofs.Ythlameofbhopkaa
