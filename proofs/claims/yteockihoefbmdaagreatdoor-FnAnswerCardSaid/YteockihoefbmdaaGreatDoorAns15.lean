/- Parts of the proof of one law, in the order in which they build. The row of laws.FnAnswer out of its lifted contract, and the tied card out of the row. No condition but the row's own: what it lists reads as the program's text lays it. -/
import Derived.SevenTiedAt
import Derived.Test.YteockihoefbmdaaGreatDoorAns1
import Derived.Test.YteockihoefbmdaaGreatDoorAns2
import Derived.Test.YteockihoefbmdaaGreatDoorAns3
import Derived.Test.YteockihoefbmdaaGreatDoorAns4
import Derived.Test.YteockihoefbmdaaGreatDoorAns5
import Derived.Test.YteockihoefbmdaaGreatDoorAns6
import Derived.Test.YteockihoefbmdaaGreatDoorAns7
import Derived.Test.YteockihoefbmdaaGreatDoorAns8
import Derived.Test.YteockihoefbmdaaGreatDoorAns9
import Derived.Test.YteockihoefbmdaaGreatDoorAns10
import Derived.Test.YteockihoefbmdaaGreatDoorAns11
import Derived.Test.YteockihoefbmdaaGreatDoorAns12
import Derived.Test.YteockihoefbmdaaGreatDoorAns13
import Derived.Test.YteockihoefbmdaaGreatDoorRows
import Derived.Test.YteockihoefbmdaaGreatDoorAns14
import Derived.Test.YteockihoefbmdaaGreatDoorCards
import Derived.Test.YteockihoefbmdaaGreatDoorTie
namespace Go.Proofs.YteockihoefbmdaaGreatDoor.OverFnAnswer
open Go.ChangeShapes Go.WideShapes Go.ChangeAt Go.RowKit
theorem k0 : (Rows.fnAnswerRow.wf (OpenSpec.ofChange Rows.fnAnswerSpec)) = true := by kernel_rfl
theorem k1 : (laidOutB Tryz.prog) = true := Facts.k1
theorem k2 : (mapsRowed Tryz.prog) = true := Facts.k2
theorem k3 : (Tryz.f3.params.all (Tryz.prog.readableRec ·)) = true := by kernel_rfl
theorem k4 : (namedTie Tryz.prog Rows.fnAnswerRow.named Rows.fnAnswerSpec.vars) = true := by kernel_rfl
theorem k5 : ((Rows.fnAnswerRow.stops == [])) = true := by kernel_rfl
theorem k6 : ((Tryz.prog.stops == [])) = true := Facts.k6
theorem k7 : ((Rows.fnAnswerRow.knobs == [])) = true := by kernel_rfl
theorem k8 : ((Tryz.prog.stopKnobs == [])) = true := Facts.k8
theorem k9 : ((Rows.fnAnswerRow.inPlace == Tryz.prog.inPlace 3)) = true := by kernel_rfl
theorem k10 : ((Rows.fnAnswerRow.unfollowed == Tryz.prog.unfollowed 3)) = true := by kernel_rfl
theorem k11 : ((Rows.fnAnswerRow.recurses == Tryz.prog.recurses 3)) = true := by kernel_rfl
theorem k12 : ((Rows.fnAnswerRow.named == Tryz.prog.varsNamed 3)) = true := by kernel_rfl
theorem k13 : ((Rows.fnAnswerRow.maps == (Tryz.f3.params.toList ++ Rows.fnAnswerSpec.plain.varTypes Tryz.prog).any (Tryz.prog.mapsRec ·))) = true := by kernel_rfl
theorem k14 : ((Rows.fnAnswerRow.ifaces == (Tryz.f3.params.toList ++ Rows.fnAnswerSpec.plain.varTypes Tryz.prog).any (Tryz.prog.ifacesRec ·))) = true := by kernel_rfl
theorem k15 : ((Rows.fnAnswerRow.mapsOut == Tryz.prog.mapsAmong Tryz.f3.resultTypes.toList)) = true := by kernel_rfl
theorem k16 : ((Rows.fnAnswerRow.loops == (Tryz.f3.params.toList ++ Rows.fnAnswerSpec.plain.varTypes Tryz.prog).any (Tryz.prog.loopsFrom ·))) = true := by kernel_rfl
theorem k17 : ((Rows.fnAnswerRow.wideKeys == (Tryz.f3.params.toList ++ Rows.fnAnswerSpec.plain.varTypes Tryz.prog ++ Tryz.f3.resultTypes.toList).any (Tryz.prog.wideKeysFrom ·))) = true := by kernel_rfl
theorem k18 : (Rows.fnAnswerSpec.vars.all (Tryz.prog.varReadable ·)) = true := by kernel_rfl
theorem k19 : (Tryz.f3.resultTypes.all (fun t => Tryz.prog.readableRec t && decide (t < Tryz.prog.types.size))) = true := by kernel_rfl
theorem k20 : ((Rows.fnAnswerRow.ifacesOut == Tryz.f3.resultTypes.toList.any (Tryz.prog.ifacesRec ·))) = true := by kernel_rfl
theorem k21 : ((Rows.fnAnswerRow.loopsOut == Tryz.f3.resultTypes.toList.any (Tryz.prog.loopsFrom ·))) = true := by kernel_rfl
theorem k22 : ((Rows.fnAnswerRow.plainKeys == Tryz.prog.plainKeys)) = true := Facts.k22
theorem k23 : (Rows.fnAnswerRow.shortTexts.isNone) = true := by kernel_rfl
theorem k24 : (Tryz.prog.stopsHeard) = true := Facts.k24
theorem k25 : (Tryz.prog.mayEnter) = true := Facts.k25
theorem k26 : ((Rows.fnAnswerRow.lifted == Tryz.prog.liftsFinal)) = true := Facts.k26
theorem k27 : ((Tryz.prog.make == some Rows.fnAnswerRow.make)) = true := Facts.k27
theorem k28 : ((Rows.fnAnswerRow.kinds == (if Rows.fnAnswerRow.domain.isEmpty then [] else Tryz.f3.params.toList.map fun t => match Tryz.prog.underlying t with | some (.int k) => some k | _ => none))) = true := by kernel_rfl
theorem k29 : ((Rows.fnAnswerRow.pinned == Rows.fnAnswerRow.pinnedBy)) = true := by kernel_rfl
theorem k30 : ((Rows.fnAnswerRow.veiled == (Tryz.f3.params.toList ++ Rows.fnAnswerSpec.plain.varTypes Tryz.prog ++ Tryz.f3.resultTypes.toList).any (Tryz.prog.veiledRec ·))) = true := by kernel_rfl
theorem k31 : (Rows.fnAnswerRow.veiledFits Tryz.prog Tryz.f3.params.toList (Tryz.f3.params.toList ++ Rows.fnAnswerSpec.plain.varTypes Tryz.prog ++ Tryz.f3.resultTypes.toList)) = true := by kernel_rfl
set_option maxRecDepth 100000 in
theorem joined : joinedFacts Tryz.prog 3 Tryz.f3 Rows.fnAnswerSpec Rows.fnAnswerRow = true := Facts.joined_of k0 k1 k2 k3 k4 k5 k6 k7 k8 k9 k10 k11 k12 k13 k14 k15 k16 k17 k18 k19 k20 k21 k22 k23 k24 k25 k26 k27 k28 k29 k30 k31
theorem named : Tryz.prog.funcNamed "goldap/laws.FnAnswer" = some 3 := by kernel_rfl
theorem inst : Tryz.f3.isInstance Tryz.prog Rows.fnAnswerRow.origin Rows.fnAnswerRow.targs := of_decide_eq_true (by kernel_rfl)
theorem wrap : Tryz.f3.isWrapper Tryz.prog Rows.fnAnswerRow.wrapper Rows.fnAnswerRow.mainSum := by unfold Func.isWrapper; first | (rw [if_pos (by decide +kernel)]; kernel_rfl) | (rw [if_neg (by decide +kernel)]; exact ⟨rfl, rfl⟩)
theorem over : Rows.FnAnswerSaid :=
  OpenClaim.holds_of_wide 3 Tryz.f3 rfl rfl rfl rfl rfl rfl rfl ⟨rfl, rfl, rfl, rfl, rfl⟩ rfl rfl rfl rfl rfl named Tryz.func3 joined inst wrap
    (fun os started H enc _ => RowFnAnswer.lifted os started H enc)
theorem plainArgs : (Tryz.f3.params.toList.all fun t => !(Tryz.prog.wantsStandIn t)) = true := by kernel_rfl
end Go.Proofs.YteockihoefbmdaaGreatDoor.OverFnAnswer
namespace Go.Proofs.YteockihoefbmdaaGreatDoor
theorem fnAnswer_card : Rows.FnAnswerCardSaid :=
  Claim7.holds_tied_plain_at .later [] [.data, .data, .data, .data, .sentinel, .sentinel, .sentinel, .sentinel, .sentinel, .sentinel, .pinned] true (true, "9e6c44ffed3591a6264cd7809d16a67d7f2db978333cc552d58d0756ec986c79") true
    OverFnAnswer.over (fun _ h => by cases h) (by kernel_rfl) (fun _ h => by cases h) fnAnswer_row_tie rfl ⟨rfl, rfl⟩ (by kernel_rfl) rfl
    (fun f fn hf hfn => by
      obtain rfl : f = 3 := Option.some.inj (OverFnAnswer.named.symm.trans hf) |>.symm
      obtain rfl : fn = Tryz.f3 := (Option.some.inj (Tryz.func3.symm.trans hfn)).symm
      exact ⟨by kernel_rfl, fun j t ht => by
        have hm : t ∈ Tryz.f3.params.toList := by
          rw [← Array.getElem?_toList] at ht
          exact List.mem_of_getElem? ht
        have := List.all_eq_true.1 OverFnAnswer.plainArgs t hm
        show Tryz.prog.wantsStandIn t = false
        simpa using this⟩)
    (by kernel_rfl)
#print axioms fnAnswer_card
end Go.Proofs.YteockihoefbmdaaGreatDoor
