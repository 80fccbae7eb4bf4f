/- Parts of the proof of one law, in the order in which they build. The row of laws.FnMessage out of its lifted contract, and the tied card out of the row. No condition but the row's own: what it lists reads as the program's text lays it. -/
import Derived.SevenTiedAt
import Derived.Test.YtbmcpjkhnhbjdaaDoorMsg1
import Derived.Test.YtbmcpjkhnhbjdaaDoorMsg2
import Derived.Test.YtbmcpjkhnhbjdaaDoorMsg3
import Derived.Test.YtbmcpjkhnhbjdaaDoorMsg4
import Derived.Test.YtbmcpjkhnhbjdaaDoorMsg5
import Derived.Test.YtbmcpjkhnhbjdaaDoorMsg6
import Derived.Test.YtbmcpjkhnhbjdaaDoorMsg7
import Derived.Test.YtbmcpjkhnhbjdaaDoorMsg8
import Derived.Test.YtbmcpjkhnhbjdaaDoorMsg9
import Derived.Test.YtbmcpjkhnhbjdaaDoorMsg10
import Derived.Test.YtbmcpjkhnhbjdaaDoorMsg11
import Derived.Test.YtbmcpjkhnhbjdaaDoorMsg12
import Derived.Test.YtbmcpjkhnhbjdaaDoorMsg13
import Derived.Test.YtbmcpjkhnhbjdaaDoorMsg14
import Derived.Test.YtbmcpjkhnhbjdaaDoorMsg15
import Derived.Test.YtbmcpjkhnhbjdaaDoorMsg16
import Derived.Test.YtbmcpjkhnhbjdaaDoorMsg17
import Derived.Test.YtbmcpjkhnhbjdaaDoorRows
import Derived.Test.YtbmcpjkhnhbjdaaDoorMsg18
import Derived.Test.YtbmcpjkhnhbjdaaDoorCards
import Derived.Test.YtbmcpjkhnhbjdaaDoorTie
namespace Go.Proofs.YtbmcpjkhnhbjdaaDoor.OverFnMessage
open Go.ChangeShapes Go.WideShapes Go.ChangeAt Go.RowKit
theorem k0 : (Rows.fnMessageRow.wf (OpenSpec.ofChange Rows.fnMessageSpec)) = true := by kernel_rfl
theorem k1 : (laidOutB Tryd.prog) = true := Facts.k1
theorem k2 : (mapsRowed Tryd.prog) = true := Facts.k2
theorem k3 : (Tryd.f9.params.all (Tryd.prog.readableRec ·)) = true := by kernel_rfl
theorem k4 : (namedTie Tryd.prog Rows.fnMessageRow.named Rows.fnMessageSpec.vars) = true := by kernel_rfl
theorem k5 : ((Rows.fnMessageRow.stops == [])) = true := by kernel_rfl
theorem k6 : ((Tryd.prog.stops == [])) = true := Facts.k6
theorem k7 : ((Rows.fnMessageRow.knobs == [])) = true := by kernel_rfl
theorem k8 : ((Tryd.prog.stopKnobs == [])) = true := Facts.k8
theorem k9 : ((Rows.fnMessageRow.inPlace == Tryd.prog.inPlace 9)) = true := by kernel_rfl
theorem k10 : ((Rows.fnMessageRow.unfollowed == Tryd.prog.unfollowed 9)) = true := by kernel_rfl
theorem k11 : ((Rows.fnMessageRow.recurses == Tryd.prog.recurses 9)) = true := by kernel_rfl
theorem k12 : ((Rows.fnMessageRow.named == Tryd.prog.varsNamed 9)) = true := by kernel_rfl
theorem k13 : ((Rows.fnMessageRow.maps == (Tryd.f9.params.toList ++ Rows.fnMessageSpec.plain.varTypes Tryd.prog).any (Tryd.prog.mapsRec ·))) = true := by kernel_rfl
theorem k14 : ((Rows.fnMessageRow.ifaces == (Tryd.f9.params.toList ++ Rows.fnMessageSpec.plain.varTypes Tryd.prog).any (Tryd.prog.ifacesRec ·))) = true := by kernel_rfl
theorem k15 : ((Rows.fnMessageRow.mapsOut == Tryd.prog.mapsAmong Tryd.f9.resultTypes.toList)) = true := by kernel_rfl
theorem k16 : ((Rows.fnMessageRow.loops == (Tryd.f9.params.toList ++ Rows.fnMessageSpec.plain.varTypes Tryd.prog).any (Tryd.prog.loopsFrom ·))) = true := by kernel_rfl
theorem k17 : ((Rows.fnMessageRow.wideKeys == (Tryd.f9.params.toList ++ Rows.fnMessageSpec.plain.varTypes Tryd.prog ++ Tryd.f9.resultTypes.toList).any (Tryd.prog.wideKeysFrom ·))) = true := by kernel_rfl
theorem k18 : (Rows.fnMessageSpec.vars.all (Tryd.prog.varReadable ·)) = true := by kernel_rfl
theorem k19 : (Tryd.f9.resultTypes.all (fun t => Tryd.prog.readableRec t && decide (t < Tryd.prog.types.size))) = true := by kernel_rfl
theorem k20 : ((Rows.fnMessageRow.ifacesOut == Tryd.f9.resultTypes.toList.any (Tryd.prog.ifacesRec ·))) = true := by kernel_rfl
theorem k21 : ((Rows.fnMessageRow.loopsOut == Tryd.f9.resultTypes.toList.any (Tryd.prog.loopsFrom ·))) = true := by kernel_rfl
theorem k22 : ((Rows.fnMessageRow.plainKeys == Tryd.prog.plainKeys)) = true := Facts.k22
theorem k23 : (Rows.fnMessageRow.shortTexts.isNone) = true := by kernel_rfl
theorem k24 : (Tryd.prog.stopsHeard) = true := Facts.k24
theorem k25 : (Tryd.prog.mayEnter) = true := Facts.k25
theorem k26 : ((Rows.fnMessageRow.lifted == Tryd.prog.liftsFinal)) = true := Facts.k26
theorem k27 : ((Tryd.prog.make == some Rows.fnMessageRow.make)) = true := Facts.k27
theorem k28 : ((Rows.fnMessageRow.kinds == (if Rows.fnMessageRow.domain.isEmpty then [] else Tryd.f9.params.toList.map fun t => match Tryd.prog.underlying t with | some (.int k) => some k | _ => none))) = true := by kernel_rfl
theorem k29 : ((Rows.fnMessageRow.pinned == Rows.fnMessageRow.pinnedBy)) = true := by kernel_rfl
theorem k30 : ((Rows.fnMessageRow.veiled == (Tryd.f9.params.toList ++ Rows.fnMessageSpec.plain.varTypes Tryd.prog ++ Tryd.f9.resultTypes.toList).any (Tryd.prog.veiledRec ·))) = true := by kernel_rfl
theorem k31 : (Rows.fnMessageRow.veiledFits Tryd.prog Tryd.f9.params.toList (Tryd.f9.params.toList ++ Rows.fnMessageSpec.plain.varTypes Tryd.prog ++ Tryd.f9.resultTypes.toList)) = true := by kernel_rfl
set_option maxRecDepth 100000 in
theorem joined : joinedFacts Tryd.prog 9 Tryd.f9 Rows.fnMessageSpec Rows.fnMessageRow = true := Facts.joined_of k0 k1 k2 k3 k4 k5 k6 k7 k8 k9 k10 k11 k12 k13 k14 k15 k16 k17 k18 k19 k20 k21 k22 k23 k24 k25 k26 k27 k28 k29 k30 k31
theorem named : Tryd.prog.funcNamed "goldap/laws.FnMessage" = some 9 := by kernel_rfl
theorem inst : Tryd.f9.isInstance Tryd.prog Rows.fnMessageRow.origin Rows.fnMessageRow.targs := of_decide_eq_true (by kernel_rfl)
theorem wrap : Tryd.f9.isWrapper Tryd.prog Rows.fnMessageRow.wrapper Rows.fnMessageRow.mainSum := by unfold Func.isWrapper; first | (rw [if_pos (by decide +kernel)]; kernel_rfl) | (rw [if_neg (by decide +kernel)]; exact ⟨rfl, rfl⟩)
theorem over : Rows.FnMessageSaid :=
  OpenClaim.holds_of_wide 9 Tryd.f9 rfl rfl rfl rfl rfl rfl rfl ⟨rfl, rfl, rfl, rfl, rfl⟩ rfl rfl rfl rfl rfl named Tryd.func9 joined inst wrap
    (fun os started H enc _ => RowFnMessage.lifted os started H enc)
theorem plainArgs : (Tryd.f9.params.toList.all fun t => !(Tryd.prog.wantsStandIn t)) = true := by kernel_rfl
end Go.Proofs.YtbmcpjkhnhbjdaaDoor.OverFnMessage
namespace Go.Proofs.YtbmcpjkhnhbjdaaDoor
theorem fnMessage_card : Rows.FnMessageCardSaid :=
  Claim7.holds_tied_plain_at .later [] [.sentinel] true (true, "02e7ab89ffa108ae3204427b224f76f33429535afac2a54c8e9935a69e6f7323") true
    OverFnMessage.over (fun _ h => by cases h) (by kernel_rfl) (fun _ h => by cases h) fnMessage_row_tie rfl ⟨rfl, rfl⟩ (by kernel_rfl) rfl
    (fun f fn hf hfn => by
      obtain rfl : f = 9 := Option.some.inj (OverFnMessage.named.symm.trans hf) |>.symm
      obtain rfl : fn = Tryd.f9 := (Option.some.inj (Tryd.func9.symm.trans hfn)).symm
      exact ⟨by kernel_rfl, fun j t ht => by
        have hm : t ∈ Tryd.f9.params.toList := by
          rw [← Array.getElem?_toList] at ht
          exact List.mem_of_getElem? ht
        have := List.all_eq_true.1 OverFnMessage.plainArgs t hm
        show Tryd.prog.wantsStandIn t = false
        simpa using this⟩)
    (by kernel_rfl)
#print axioms fnMessage_card
end Go.Proofs.YtbmcpjkhnhbjdaaDoor
