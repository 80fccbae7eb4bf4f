/- The row of laws.FnEncode out of its lifted contract, and the tied card out of the row. No condition but the row's own: what it lists reads as the program's text lays it. -/
import Derived.Test.YtcohjechpnlogaaDoorRowFnEncode
import Derived.Test.YtcohjechpnlogaaDoorFacts
import Derived.Test.YtcohjechpnlogaaDoorCards
import Derived.Test.YtcohjechpnlogaaDoorTie
import Derived.SevenTiedAt
namespace Go.Proofs.YtcohjechpnlogaaDoor.OverFnEncode
open Go.ChangeShapes Go.WideShapes Go.ChangeAt Go.RowKit
theorem k0 : (Rows.fnEncodeRow.wf (OpenSpec.ofChange Rows.fnEncodeSpec)) = true := by kernel_rfl
theorem k1 : (laidOutB Tryd.prog) = true := Facts.k1
theorem k2 : (mapsRowed Tryd.prog) = true := Facts.k2
theorem k3 : (Tryd.f3.params.all (Tryd.prog.readableRec ·)) = true := by kernel_rfl
theorem k4 : (namedTie Tryd.prog Rows.fnEncodeRow.named Rows.fnEncodeSpec.vars) = true := by kernel_rfl
theorem k5 : ((Rows.fnEncodeRow.stops == [])) = true := by kernel_rfl
theorem k6 : ((Tryd.prog.stops == [])) = true := Facts.k6
theorem k7 : ((Rows.fnEncodeRow.knobs == [])) = true := by kernel_rfl
theorem k8 : ((Tryd.prog.stopKnobs == [])) = true := Facts.k8
theorem k9 : ((Rows.fnEncodeRow.inPlace == Tryd.prog.inPlace 3)) = true := by kernel_rfl
theorem k10 : ((Rows.fnEncodeRow.unfollowed == Tryd.prog.unfollowed 3)) = true := by kernel_rfl
theorem k11 : ((Rows.fnEncodeRow.recurses == Tryd.prog.recurses 3)) = true := by kernel_rfl
theorem k12 : ((Rows.fnEncodeRow.named == Tryd.prog.varsNamed 3)) = true := by kernel_rfl
theorem k13 : ((Rows.fnEncodeRow.maps == (Tryd.f3.params.toList ++ Rows.fnEncodeSpec.plain.varTypes Tryd.prog).any (Tryd.prog.mapsRec ·))) = true := by kernel_rfl
theorem k14 : ((Rows.fnEncodeRow.ifaces == (Tryd.f3.params.toList ++ Rows.fnEncodeSpec.plain.varTypes Tryd.prog).any (Tryd.prog.ifacesRec ·))) = true := by kernel_rfl
theorem k15 : ((Rows.fnEncodeRow.mapsOut == Tryd.prog.mapsAmong Tryd.f3.resultTypes.toList)) = true := by kernel_rfl
theorem k16 : ((Rows.fnEncodeRow.loops == (Tryd.f3.params.toList ++ Rows.fnEncodeSpec.plain.varTypes Tryd.prog).any (Tryd.prog.loopsFrom ·))) = true := by kernel_rfl
theorem k17 : ((Rows.fnEncodeRow.wideKeys == (Tryd.f3.params.toList ++ Rows.fnEncodeSpec.plain.varTypes Tryd.prog ++ Tryd.f3.resultTypes.toList).any (Tryd.prog.wideKeysFrom ·))) = true := by kernel_rfl
theorem k18 : (Rows.fnEncodeSpec.vars.all (Tryd.prog.varReadable ·)) = true := by kernel_rfl
theorem k19 : (Tryd.f3.resultTypes.all (fun t => Tryd.prog.readableRec t && decide (t < Tryd.prog.types.size))) = true := by kernel_rfl
theorem k20 : ((Rows.fnEncodeRow.ifacesOut == Tryd.f3.resultTypes.toList.any (Tryd.prog.ifacesRec ·))) = true := by kernel_rfl
theorem k21 : ((Rows.fnEncodeRow.loopsOut == Tryd.f3.resultTypes.toList.any (Tryd.prog.loopsFrom ·))) = true := by kernel_rfl
theorem k22 : ((Rows.fnEncodeRow.plainKeys == Tryd.prog.plainKeys)) = true := Facts.k22
theorem k23 : (Rows.fnEncodeRow.shortTexts.isNone) = true := by kernel_rfl
theorem k24 : (Tryd.prog.stopsHeard) = true := Facts.k24
theorem k25 : (Tryd.prog.mayEnter) = true := Facts.k25
theorem k26 : ((Rows.fnEncodeRow.lifted == Tryd.prog.liftsFinal)) = true := Facts.k26
theorem k27 : ((Tryd.prog.make == some Rows.fnEncodeRow.make)) = true := Facts.k27
theorem k28 : ((Rows.fnEncodeRow.kinds == (if Rows.fnEncodeRow.domain.isEmpty then [] else Tryd.f3.params.toList.map fun t => match Tryd.prog.underlying t with | some (.int k) => some k | _ => none))) = true := by kernel_rfl
theorem k29 : ((Rows.fnEncodeRow.pinned == Rows.fnEncodeRow.pinnedBy)) = true := by kernel_rfl
theorem k30 : ((Rows.fnEncodeRow.veiled == (Tryd.f3.params.toList ++ Rows.fnEncodeSpec.plain.varTypes Tryd.prog ++ Tryd.f3.resultTypes.toList).any (Tryd.prog.veiledRec ·))) = true := by kernel_rfl
theorem k31 : (Rows.fnEncodeRow.veiledFits Tryd.prog Tryd.f3.params.toList (Tryd.f3.params.toList ++ Rows.fnEncodeSpec.plain.varTypes Tryd.prog ++ Tryd.f3.resultTypes.toList)) = true := by kernel_rfl
set_option maxRecDepth 100000 in
theorem joined : joinedFacts Tryd.prog 3 Tryd.f3 Rows.fnEncodeSpec Rows.fnEncodeRow = true := Facts.joined_of k0 k1 k2 k3 k4 k5 k6 k7 k8 k9 k10 k11 k12 k13 k14 k15 k16 k17 k18 k19 k20 k21 k22 k23 k24 k25 k26 k27 k28 k29 k30 k31
theorem named : Tryd.prog.funcNamed "goldap/laws.FnEncode" = some 3 := by kernel_rfl
theorem inst : Tryd.f3.isInstance Tryd.prog Rows.fnEncodeRow.origin Rows.fnEncodeRow.targs := of_decide_eq_true (by kernel_rfl)
theorem wrap : Tryd.f3.isWrapper Tryd.prog Rows.fnEncodeRow.wrapper Rows.fnEncodeRow.mainSum := by unfold Func.isWrapper; first | (rw [if_pos (by decide +kernel)]; kernel_rfl) | (rw [if_neg (by decide +kernel)]; exact ⟨rfl, rfl⟩)
theorem over : Rows.FnEncodeSaid :=
  OpenClaim.holds_of_wide 3 Tryd.f3 rfl rfl rfl rfl rfl rfl rfl ⟨rfl, rfl, rfl, rfl, rfl⟩ rfl rfl rfl rfl rfl named Tryd.func3 joined inst wrap
    (fun os started H enc _ => RowFnEncode.lifted os started H enc)
theorem plainArgs : (Tryd.f3.params.toList.all fun t => !(Tryd.prog.wantsStandIn t)) = true := by kernel_rfl
end Go.Proofs.YtcohjechpnlogaaDoor.OverFnEncode
namespace Go.Proofs.YtcohjechpnlogaaDoor
theorem fnEncode_card : Rows.FnEncodeCardSaid :=
  Claim7.holds_tied_plain_at .later [] [.sentinel] true (true, "42dcf155809458b9b515edd389fb787d98e5d4db690a37c35e0a39b92e18ddd1") true
    OverFnEncode.over (fun _ h => by cases h) (by kernel_rfl) (fun _ h => by cases h) fnEncode_row_tie rfl ⟨rfl, rfl⟩ (by kernel_rfl) rfl
    (fun f fn hf hfn => by
      obtain rfl : f = 3 := Option.some.inj (OverFnEncode.named.symm.trans hf) |>.symm
      obtain rfl : fn = Tryd.f3 := (Option.some.inj (Tryd.func3.symm.trans hfn)).symm
      exact ⟨by kernel_rfl, fun j t ht => by
        have hm : t ∈ Tryd.f3.params.toList := by
          rw [← Array.getElem?_toList] at ht
          exact List.mem_of_getElem? ht
        have := List.all_eq_true.1 OverFnEncode.plainArgs t hm
        show Tryd.prog.wantsStandIn t = false
        simpa using this⟩)
    (by kernel_rfl)
#print axioms fnEncode_card
end Go.Proofs.YtcohjechpnlogaaDoor
