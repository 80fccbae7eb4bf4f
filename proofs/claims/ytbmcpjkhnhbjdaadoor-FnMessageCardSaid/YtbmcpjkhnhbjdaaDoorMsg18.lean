/- Parts of the proof of one law, in the order in which they build. The contract of the row of laws.FnMessage: whatever arguments, the law answers true, they read as before. No condition but the row's own: what it lists reads as the program's text lays it. · Closed facts on the program, each for itself, that every row of this seat wants. -/
import Derived.WalkKit
import Derived.ProofKit
import Derived.OpenShut
import Derived.ShutString
import Derived.ChangeOld
import Derived.Below
import Derived.SizedLaws
import Derived.Lay
import Derived.LaidMore
import Derived.JoinedOf
import Derived.Test.YtbmcpjkhnhbjdaaDoorMsg1
import Derived.Test.YtbmcpjkhnhbjdaaDoorMsg2
import Derived.Test.YtbmcpjkhnhbjdaaDoorMsg3
import Derived.Test.YtbmcpjkhnhbjdaaDoorMsg4
import Derived.Test.YtbmcpjkhnhbjdaaDoorMsg5
import Derived.Test.YtbmcpjkhnhbjdaaDoorMsg6
import Derived.Test.YtbmcpjkhnhbjdaaDoorMsg7
import Derived.Test.YtbmcpjkhnhbjdaaDoorMsg8
import Derived.Test.YtbmcpjkhnhbjdaaDoorMsg9
import Derived.Test.YtbmcpjkhnhbjdaaDoorMsg10
import Derived.Test.YtbmcpjkhnhbjdaaDoorMsg11
import Derived.Test.YtbmcpjkhnhbjdaaDoorMsg12
import Derived.Test.YtbmcpjkhnhbjdaaDoorMsg13
import Derived.Test.YtbmcpjkhnhbjdaaDoorMsg14
import Derived.Test.YtbmcpjkhnhbjdaaDoorMsg15
import Derived.Test.YtbmcpjkhnhbjdaaDoorMsg16
import Derived.Test.YtbmcpjkhnhbjdaaDoorMsg17
import Derived.Test.YtbmcpjkhnhbjdaaDoorRows
namespace Go.Proofs.YtbmcpjkhnhbjdaaDoor.RowFnMessage
open Go.ChangeShapes Go.WideShapes Go.ChangeAt Go.RowKit
open Go.ChangeMaps (open_string shut_string)
open Go.Proofs.YtbmcpjkhnhbjdaaDoorW.PrintWords Go.Proofs.YtbmcpjkhnhbjdaaDoor.PFnEncode Go.Proofs.YtbmcpjkhnhbjdaaDoor.Within
set_option linter.unusedVariables false
set_option linter.unusedSimpArgs false
theorem own : ownKnob Tryd.prog.godebug = none := by kernel_rfl
theorem laidOut : laidOutB Tryd.prog = true := by kernel_rfl
set_option maxRecDepth 100000 in
theorem lifted (os : Os) (started : os.Started) (H : Type) (enc : TypeId × Value → H) :
    ReturnsInHanded {} Tryd.checked os 9 .any (fun w args => (Rows.fnMessageSpec.pre enc Tryd.prog Tryd.f9 [] false w args ∧ laidMetH Tryd.prog Rows.fnMessageRow.laid w) ∧ sizedMet enc Tryd.prog Tryd.f9 (OpenSpec.ofChange Rows.fnMessageSpec) false w args)
      (Rows.fnMessageSpec.post enc Tryd.prog Tryd.f9 false true false false) := by
  refine returnsInHanded_of_change_and (C := Tryd.checked) (X := fun w _ => laidMetH Tryd.prog Rows.fnMessageRow.laid w) (fun _ _ _ hh h => h.of_heap hh) own started (by kernel_rfl) Tryd.func9
    (ChangeSpec.witness_shaped (enc := enc) (C := Tryd.checked) (os := os) (X := fun w _ => laidMetH Tryd.prog Rows.fnMessageRow.laid w) false (World.laidAll Tryd.prog os Rows.fnMessageRow.laid) #[.int .i64 0, .agg #[.int .i64 0, .int .i64 0, .bool false, .slice none 0 0, .slice none 0 0], .slice none 0 0] 8 (World.laidAll_os _ _ _)
      (World.shaped_of_ZipB (by kernel_rfl) (by kernel_rfl)) (by kernel_rfl) (by kernel_rfl) (by kernel_rfl)
      (by rw [MakeChecks.laidMetH_plain _ _ _ (by kernel_rfl)]; exact laidMet_laidAll _ (by kernel_rfl) (by kernel_rfl))) ?_
  intro W base args ds gs before hval0 hW _ hsz0 _ _
  have hval : ∀ (j : Nat) t v, Tryd.f9.params[j]? = some t → args[j]? = some v → Value.okWide Tryd.prog W .any base t v := hval0
  have hsz : (DataW.weightsEach Tryd.prog (Tryd.f9.params.toList ++ Rows.fnMessageSpec.plain.varTypes Tryd.prog) (ds ++ gs)).all (· ≤ reachBytes) = true := hsz0
  have hW' := hW
  obtain ⟨p, q, hA0, hV, rfl, _, _⟩ := hW
  have hA : DataW.TrodAll enc Tryd.prog W 0 (fun _ => true) true Tryd.f9.params.toList args.toList ds p := hA0
  rw [Tryd.params9] at hA hval hsz
  obtain ⟨v0, vs0, d0, ds0, p0, q0, hargs, rfl, rfl, h0, r0⟩ := trodAll_cons hA
  obtain ⟨v1, vs1, d1, ds1, p1, q1, rfl, rfl, rfl, h1, r1⟩ := trodAll_cons r0
  obtain ⟨v2, vs2, d2, ds2, p2, q2, rfl, rfl, rfl, h2, r2⟩ := trodAll_cons r1
  obtain ⟨rfl, rfl, rfl⟩ := trodAll_nil r2
  obtain rfl : args = #[v0, v1, v2] := by cases args; simp_all
  obtain ⟨rfl, rfl⟩ := trodVars_none hV
  have hw : ∀ y ∈ DataW.weightsEach Tryd.prog [2, 27, 73] [d0, d1, d2], y ≤ reachBytes := fun y hy => of_decide_eq_true (List.all_eq_true.1 hsz y hy)
  obtain ⟨a0, rfl, rfl, rfl, y0⟩ := open_int Tryd.underlying2 (hval 0 2 v0 rfl rfl) h0
  obtain ⟨cs1, rfl, hcs1⟩ := okWide_struct Tryd.underlying27 (hval 1 27 v1 rfl rfl)
  have lt1 : ∀ x ∈ p1, x.block < W.heap.size := by obtain ⟨m, hm⟩ := h1; exact DataW.trod_lt m _ _ _ hm
  obtain ⟨f1, hf1⟩ := h1
  obtain ⟨x1, hk1, ln1⟩ := Open.opens25 (enc := enc) (W := W) f1 f1 (Nat.le_refl _) _ d1 p1 hf1 (fun y hy => hw y (List.mem_append.2 (.inr (List.mem_append.2 (.inl hy)))))
  obtain ⟨Ap1, cp1, Aq1, cq1, hcells1, lp1, gp1, lq1, gq1⟩ := k27_open hk1
  have hv1 : cs1 = #[.int .i64 x1.f0, .int .i64 x1.f1, .bool x1.f2, .slice Ap1 x1.f3.length cp1, .slice Aq1 x1.f4.length cq1] := by
    obtain ⟨l⟩ := cs1
    have e : l = [.int .i64 x1.f0, .int .i64 x1.f1, .bool x1.f2, .slice Ap1 x1.f3.length cp1, .slice Aq1 x1.f4.length cq1] := hcells1
    rw [e]
  subst hv1
  have lt2 : ∀ x ∈ p2, x.block < W.heap.size := by obtain ⟨m, hm⟩ := h2; exact DataW.trod_lt m _ _ _ hm
  obtain ⟨A2, l2, c2, rfl⟩ := okWide_slice Tryd.underlying73 (hval 2 73 v2 rfl rfl)
  obtain ⟨f2, hf2⟩ := h2
  obtain ⟨x2, ⟨B2, e2, hk2, g2, m2⟩, z2⟩ := (Open.opensM (enc := enc) (W := W) f2).down (Nat.le_add_right _ 3) f2 (Nat.le_refl _) _ d2 p2 hf2 (fun y hy => hw y (List.mem_append.2 (.inr (List.mem_append.2 (.inr (List.mem_append.2 (.inl hy)))))))
  have hv2 : Value.slice A2 l2 c2 = .slice B2 x2.length e2 := by simpa [Value.cells] using hk2
  injection hv2 with qa2 qb2 qc2
  subst qa2 qb2 qc2
  clear hA0 hval0 hsz0
  refine (Ber.fnMessage_any a0 (by simpa [Lit.wf, IntKind.min, IntKind.max, IntKind.signed, IntKind.bits] using y0) x1 Ap1 cp1 Aq1 cq1 x2 A2 c2 W gp1 lp1 gq1 lq1 ln1 m2 g2 (by have := z2.1; unfold reachBytes at this; omega) z2.2).mono fun e W' ⟨he, bel⟩ => ?_
  subst he
  exact ⟨_, rfl, _, _, _, [], _, [], hW', trodAll_mk1 (shut_bool Tryd.underlying4 _), (trodAll_cons_mk (shut_int Tryd.underlying2 y0) (trodAll_cons_mk (Below.trod laidOut (by kernel_rfl) (of_decide_eq_true (by kernel_rfl)) ⟨f1, hf1⟩ bel lt1) (trodAll_cons_mk (Below.trod laidOut (by kernel_rfl) (of_decide_eq_true (by kernel_rfl)) ⟨f2, hf2⟩ bel lt2) trodAll_mk0))), rfl, bel.frame _, fun h => by cases h⟩
end Go.Proofs.YtbmcpjkhnhbjdaaDoor.RowFnMessage
namespace Go.Proofs.YtbmcpjkhnhbjdaaDoor.Facts
theorem joined_of {P : Program} {f : FuncId} {fn : Func} {s : ChangeSpec} {c : OpenClaim} 
    (h0 : (c.wf (OpenSpec.ofChange s)) = true)
    (h1 : (laidOutB P) = true)
    (h2 : (mapsRowed P) = true)
    (h3 : (fn.params.all (P.readableRec ·)) = true)
    (h4 : (namedTie P c.named s.vars) = true)
    (h5 : ((c.stops == [])) = true)
    (h6 : ((P.stops == [])) = true)
    (h7 : ((c.knobs == [])) = true)
    (h8 : ((P.stopKnobs == [])) = true)
    (h9 : ((c.inPlace == P.inPlace f)) = true)
    (h10 : ((c.unfollowed == P.unfollowed f)) = true)
    (h11 : ((c.recurses == P.recurses f)) = true)
    (h12 : ((c.named == P.varsNamed f)) = true)
    (h13 : ((c.maps == (fn.params.toList ++ s.plain.varTypes P).any (P.mapsRec ·))) = true)
    (h14 : ((c.ifaces == (fn.params.toList ++ s.plain.varTypes P).any (P.ifacesRec ·))) = true)
    (h15 : ((c.mapsOut == P.mapsAmong fn.resultTypes.toList)) = true)
    (h16 : ((c.loops == (fn.params.toList ++ s.plain.varTypes P).any (P.loopsFrom ·))) = true)
    (h17 : ((c.wideKeys == (fn.params.toList ++ s.plain.varTypes P ++ fn.resultTypes.toList).any (P.wideKeysFrom ·))) = true)
    (h18 : (s.vars.all (P.varReadable ·)) = true)
    (h19 : (fn.resultTypes.all (fun t => P.readableRec t && decide (t < P.types.size))) = true)
    (h20 : ((c.ifacesOut == fn.resultTypes.toList.any (P.ifacesRec ·))) = true)
    (h21 : ((c.loopsOut == fn.resultTypes.toList.any (P.loopsFrom ·))) = true)
    (h22 : ((c.plainKeys == P.plainKeys)) = true)
    (h23 : (c.shortTexts.isNone) = true)
    (h24 : (P.stopsHeard) = true)
    (h25 : (P.mayEnter) = true)
    (h26 : ((c.lifted == P.liftsFinal)) = true)
    (h27 : ((P.make == some c.make)) = true)
    (h28 : ((c.kinds == (if c.domain.isEmpty then [] else fn.params.toList.map fun t => match P.underlying t with | some (.int k) => some k | _ => none))) = true)
    (h29 : ((c.pinned == c.pinnedBy)) = true)
    (h30 : ((c.veiled == (fn.params.toList ++ s.plain.varTypes P ++ fn.resultTypes.toList).any (P.veiledRec ·))) = true)
    (h31 : (c.veiledFits P fn.params.toList (fn.params.toList ++ s.plain.varTypes P ++ fn.resultTypes.toList)) = true) : joinedFacts P f fn s c = true := by
  simp only [joinedFacts, Bool.and_eq_true]
  exact ⟨⟨⟨⟨⟨⟨⟨⟨⟨⟨⟨⟨⟨⟨⟨⟨⟨⟨⟨⟨⟨⟨⟨⟨⟨⟨⟨⟨⟨⟨⟨h0, h1⟩, h2⟩, h3⟩, h4⟩, h5⟩, h6⟩, h7⟩, h8⟩, h9⟩, h10⟩, h11⟩, h12⟩, h13⟩, h14⟩, h15⟩, h16⟩, h17⟩, h18⟩, h19⟩, h20⟩, h21⟩, h22⟩, h23⟩, h24⟩, h25⟩, h26⟩, h27⟩, h28⟩, h29⟩, h30⟩, h31⟩
theorem k1 : (laidOutB Tryd.prog) = true := by kernel_rfl
theorem k2 : (mapsRowed Tryd.prog) = true := by kernel_rfl
theorem k6 : ((Tryd.prog.stops == [])) = true := by kernel_rfl
theorem k8 : ((Tryd.prog.stopKnobs == [])) = true := by kernel_rfl
theorem k22 : ((Rows.fnMessageRow.plainKeys == Tryd.prog.plainKeys)) = true := by kernel_rfl
theorem k24 : (Tryd.prog.stopsHeard) = true := by kernel_rfl
theorem k25 : (Tryd.prog.mayEnter) = true := by kernel_rfl
theorem k26 : ((Rows.fnMessageRow.lifted == Tryd.prog.liftsFinal)) = true := by kernel_rfl
theorem k27 : ((Tryd.prog.make == some Rows.fnMessageRow.make)) = true := by kernel_rfl
end Go.Proofs.YtbmcpjkhnhbjdaaDoor.Facts
