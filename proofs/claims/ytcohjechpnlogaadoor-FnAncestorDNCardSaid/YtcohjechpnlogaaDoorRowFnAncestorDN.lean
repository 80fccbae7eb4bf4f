/- The contract of the row of laws.FnAncestorDN: whatever names of the caller's, the law answers true and its arguments read as before. No condition but the row's own: the tables that it names read as the program's text lays them. -/
import Derived.Test.YtcohjechpnlogaaDoorDnLaw2
import Derived.Test.YtcohjechpnlogaaDoorOpensN
import Derived.Test.YtcohjechpnlogaaDoorRows
import Derived.WalkKit
import Derived.ProofKit
import Derived.OpenShut
import Derived.ShutString
import Derived.ChangeOld
import Derived.Below
import Derived.SizedLaws
import Derived.Lay
import Derived.LaidMore
namespace Go.Proofs.YtcohjechpnlogaaDoor.RowFnAncestorDN
open Go.ChangeShapes Go.WideShapes Go.ChangeAt Go.RowKit Go.Proofs.YtcohjechpnlogaaDoor.PDN
set_option linter.unusedVariables false
set_option linter.unusedSimpArgs false
theorem own : ownKnob Tryd.prog.godebug = none := by kernel_rfl
theorem laidOut : laidOutB Tryd.prog = true := by kernel_rfl
set_option maxRecDepth 100000 in
theorem lifted (os : Os) (started : os.Started) (H : Type) (enc : TypeId × Value → H) :
    ReturnsInHanded {} Tryd.checked os 5 .any (fun w args => (Rows.fnAncestorDNSpec.pre enc Tryd.prog Tryd.f5 [] false w args ∧ laidMetH Tryd.prog Rows.fnAncestorDNRow.laid w) ∧ sizedMet enc Tryd.prog Tryd.f5 (OpenSpec.ofChange Rows.fnAncestorDNSpec) false w args)
      (Rows.fnAncestorDNSpec.post enc Tryd.prog Tryd.f5 false true false false) := by
  refine returnsInHanded_of_change_and (C := Tryd.checked) (X := fun w _ => laidMetH Tryd.prog Rows.fnAncestorDNRow.laid w) (fun _ _ _ hh h => h.of_heap hh) own started (by kernel_rfl) Tryd.func5
    (ChangeSpec.witness_shaped (enc := enc) (C := Tryd.checked) (os := os) (X := fun w _ => laidMetH Tryd.prog Rows.fnAncestorDNRow.laid w) false (World.laidAll Tryd.prog os Rows.fnAncestorDNRow.laid) #[.slice none 0 0, .slice none 0 0] 8 (World.laidAll_os _ _ _)
      (World.shaped_of_ZipB (by kernel_rfl) (by kernel_rfl)) (by kernel_rfl) (by kernel_rfl) (by kernel_rfl)
      (by rw [MakeChecks.laidMetH_plain _ _ _ (by kernel_rfl)]; exact laidMet_laidAll _ (by kernel_rfl) (by kernel_rfl))) ?_
  intro W base args ds gs before hval0 hW _ hsz0 _ _
  have hval : ∀ (j : Nat) t v, Tryd.f5.params[j]? = some t → args[j]? = some v → Value.okWide Tryd.prog W .any base t v := hval0
  have hsz : (DataW.weightsEach Tryd.prog (Tryd.f5.params.toList ++ Rows.fnAncestorDNSpec.plain.varTypes Tryd.prog) (ds ++ gs)).all (· ≤ reachBytes) = true := hsz0
  have hW' := hW
  obtain ⟨p, q, hA0, hV, rfl, _, _⟩ := hW
  have hA : DataW.TrodAll enc Tryd.prog W 0 (fun _ => true) true Tryd.f5.params.toList args.toList ds p := hA0
  rw [Tryd.params5] at hA hval hsz
  obtain ⟨v0, v1, d0, d1, p0, p1, rfl, rfl, rfl, h0, h1⟩ := trodAll_two hA
  obtain ⟨rfl, rfl⟩ := trodVars_none hV
  have lt0 : ∀ x ∈ p0, x.block < W.heap.size := by obtain ⟨m, hm⟩ := h0; exact DataW.trod_lt m _ _ _ hm
  have lt1 : ∀ x ∈ p1, x.block < W.heap.size := by obtain ⟨m, hm⟩ := h1; exact DataW.trod_lt m _ _ _ hm
  obtain ⟨A0, l0, c0, rfl⟩ := okWide_slice Tryd.underlying35 (hval 0 35 v0 rfl rfl)
  obtain ⟨A1, l1, c1, rfl⟩ := okWide_slice Tryd.underlying35 (hval 1 35 v1 rfl rfl)
  obtain ⟨f0, hf0⟩ := h0
  obtain ⟨f1, hf1⟩ := h1
  have hw : ∀ y ∈ DataW.weightsEach Tryd.prog [35, 35] [d0, d1], y ≤ reachBytes := fun y hy => of_decide_eq_true (List.all_eq_true.1 hsz y hy)
  obtain ⟨x, ⟨B0, e0, hk0, g0, m0⟩, _⟩ := (Open.opensN (enc := enc) (W := W) f0).down (Nat.le_add_right _ 3) f0 (Nat.le_refl _) _ d0 p0 hf0 (fun y hy => hw y (List.mem_append.2 (.inl hy)))
  obtain ⟨z, ⟨B1, e1, hk1, g1, m1⟩, _⟩ := (Open.opensN (enc := enc) (W := W) f1).down (Nat.le_add_right _ 3) f1 (Nat.le_refl _) _ d1 p1 hf1 (fun y hy => hw y (List.mem_append.2 (.inr (List.mem_append.2 (.inl hy)))))
  have hv0 : Value.slice A0 l0 c0 = .slice B0 x.length e0 := by simpa [Value.cells] using hk0
  have hv1 : Value.slice A1 l1 c1 = .slice B1 z.length e1 := by simpa [Value.cells] using hk1
  injection hv0 with q1 q2 q3
  injection hv1 with q4 q5 q6
  subst q1 q2 q3 q4 q5 q6
  simp only [List.append_nil] at hW'
  refine (Dn.fnAncestorDN_any x z A0 A1 c0 c1 W m0 g0 m1 g1).mono fun e W' ⟨he, hb⟩ => ?_
  subst he
  exact ⟨_, rfl, _, _, _, [], _, [], hW', trodAll_mk1 (shut_bool Tryd.underlying4 _), trodAll_mk2 (Below.trod laidOut (by kernel_rfl) (of_decide_eq_true (by kernel_rfl)) ⟨f0, hf0⟩ hb lt0) (Below.trod laidOut (by kernel_rfl) (of_decide_eq_true (by kernel_rfl)) ⟨f1, hf1⟩ hb lt1), rfl, hb.frame _, fun h => by cases h⟩

end Go.Proofs.YtcohjechpnlogaaDoor.RowFnAncestorDN
