/- The row of laws.FnRename out of its lifted contract, and the tied card out of the row. No condition but the row's own: what it lists reads as the program's text lays it. -/
import Derived.Test.YtbmcpjkhnhbjdaaDoorRowFnRename
import Derived.Test.YtbmcpjkhnhbjdaaDoorFacts
import Derived.Test.YtbmcpjkhnhbjdaaDoorCards
import Derived.Test.YtbmcpjkhnhbjdaaDoorTie
import Derived.SevenTiedAt
namespace Go.Proofs.YtbmcpjkhnhbjdaaDoor.OverFnRename
open Go.ChangeShapes Go.WideShapes Go.ChangeAt Go.RowKit
theorem k0 : (Rows.fnRenameRow.wf (OpenSpec.ofChange Rows.fnRenameSpec)) = true := by kernel_rfl
theorem k1 : (laidOutB Tryd.prog) = true := Facts.k1
theorem k2 : (mapsRowed Tryd.prog) = true := Facts.k2
theorem k3 : (Tryd.f4.params.all (Tryd.prog.readableRec ·)) = true := by kernel_rfl
theorem k4 : (namedTie Tryd.prog Rows.fnRenameRow.named Rows.fnRenameSpec.vars) = true := by kernel_rfl
theorem k5 : ((Rows.fnRenameRow.stops == [])) = true := by kernel_rfl
theorem k6 : ((Tryd.prog.stops == [])) = true := Facts.k6
theorem k7 : ((Rows.fnRenameRow.knobs == [])) = true := by kernel_rfl
theorem k8 : ((Tryd.prog.stopKnobs == [])) = true := Facts.k8
theorem k9 : ((Rows.fnRenameRow.inPlace == Tryd.prog.inPlace 4)) = true := by kernel_rfl
theorem k10 : ((Rows.fnRenameRow.unfollowed == Tryd.prog.unfollowed 4)) = true := by kernel_rfl
theorem k11 : ((Rows.fnRenameRow.recurses == Tryd.prog.recurses 4)) = true := by kernel_rfl
theorem k12 : ((Rows.fnRenameRow.named == Tryd.prog.varsNamed 4)) = true := by kernel_rfl
theorem k13 : ((Rows.fnRenameRow.maps == (Tryd.f4.params.toList ++ Rows.fnRenameSpec.plain.varTypes Tryd.prog).any (Tryd.prog.mapsRec ·))) = true := by kernel_rfl
theorem k14 : ((Rows.fnRenameRow.ifaces == (Tryd.f4.params.toList ++ Rows.fnRenameSpec.plain.varTypes Tryd.prog).any (Tryd.prog.ifacesRec ·))) = true := by kernel_rfl
theorem k15 : ((Rows.fnRenameRow.mapsOut == Tryd.prog.mapsAmong Tryd.f4.resultTypes.toList)) = true := by kernel_rfl
theorem k16 : ((Rows.fnRenameRow.loops == (Tryd.f4.params.toList ++ Rows.fnRenameSpec.plain.varTypes Tryd.prog).any (Tryd.prog.loopsFrom ·))) = true := by kernel_rfl
theorem k17 : ((Rows.fnRenameRow.wideKeys == (Tryd.f4.params.toList ++ Rows.fnRenameSpec.plain.varTypes Tryd.prog ++ Tryd.f4.resultTypes.toList).any (Tryd.prog.wideKeysFrom ·))) = true := by kernel_rfl
theorem k18 : (Rows.fnRenameSpec.vars.all (Tryd.prog.varReadable ·)) = true := by kernel_rfl
theorem k19 : (Tryd.f4.resultTypes.all (fun t => Tryd.prog.readableRec t && decide (t < Tryd.prog.types.size))) = true := by kernel_rfl
theorem k20 : ((Rows.fnRenameRow.ifacesOut == Tryd.f4.resultTypes.toList.any (Tryd.prog.ifacesRec ·))) = true := by kernel_rfl
theorem k21 : ((Rows.fnRenameRow.loopsOut == Tryd.f4.resultTypes.toList.any (Tryd.prog.loopsFrom ·))) = true := by kernel_rfl
theorem k22 : ((Rows.fnRenameRow.plainKeys == Tryd.prog.plainKeys)) = true := Facts.k22
theorem k23 : (Rows.fnRenameRow.shortTexts.isNone) = true := by kernel_rfl
theorem k24 : (Tryd.prog.stopsHeard) = true := Facts.k24
theorem k25 : (Tryd.prog.mayEnter) = true := Facts.k25
theorem k26 : ((Rows.fnRenameRow.lifted == Tryd.prog.liftsFinal)) = true := Facts.k26
theorem k27 : ((Tryd.prog.make == some Rows.fnRenameRow.make)) = true := Facts.k27
theorem k28 : ((Rows.fnRenameRow.kinds == (if Rows.fnRenameRow.domain.isEmpty then [] else Tryd.f4.params.toList.map fun t => match Tryd.prog.underlying t with | some (.int k) => some k | _ => none))) = true := by kernel_rfl
theorem k29 : ((Rows.fnRenameRow.pinned == Rows.fnRenameRow.pinnedBy)) = true := by kernel_rfl
theorem k30 : ((Rows.fnRenameRow.veiled == (Tryd.f4.params.toList ++ Rows.fnRenameSpec.plain.varTypes Tryd.prog ++ Tryd.f4.resultTypes.toList).any (Tryd.prog.veiledRec ·))) = true := by kernel_rfl
theorem k31 : (Rows.fnRenameRow.veiledFits Tryd.prog Tryd.f4.params.toList (Tryd.f4.params.toList ++ Rows.fnRenameSpec.plain.varTypes Tryd.prog ++ Tryd.f4.resultTypes.toList)) = true := by kernel_rfl
set_option maxRecDepth 100000 in
theorem joined : joinedFacts Tryd.prog 4 Tryd.f4 Rows.fnRenameSpec Rows.fnRenameRow = true := Facts.joined_of k0 k1 k2 k3 k4 k5 k6 k7 k8 k9 k10 k11 k12 k13 k14 k15 k16 k17 k18 k19 k20 k21 k22 k23 k24 k25 k26 k27 k28 k29 k30 k31
theorem named : Tryd.prog.funcNamed "goldap/laws.FnRename" = some 4 := by kernel_rfl
theorem inst : Tryd.f4.isInstance Tryd.prog Rows.fnRenameRow.origin Rows.fnRenameRow.targs := of_decide_eq_true (by kernel_rfl)
theorem wrap : Tryd.f4.isWrapper Tryd.prog Rows.fnRenameRow.wrapper Rows.fnRenameRow.mainSum := by unfold Func.isWrapper; first | (rw [if_pos (by decide +kernel)]; kernel_rfl) | (rw [if_neg (by decide +kernel)]; exact ⟨rfl, rfl⟩)
theorem over : Rows.FnRenameSaid :=
  OpenClaim.holds_of_wide 4 Tryd.f4 rfl rfl rfl rfl rfl rfl rfl ⟨rfl, rfl, rfl, rfl, rfl⟩ rfl rfl rfl rfl rfl named Tryd.func4 joined inst wrap
    (fun os started H enc _ => RowFnRename.lifted os started H enc)
theorem plainArgs : (Tryd.f4.params.toList.all fun t => !(Tryd.prog.wantsStandIn t)) = true := by kernel_rfl
end Go.Proofs.YtbmcpjkhnhbjdaaDoor.OverFnRename
namespace Go.Proofs.YtbmcpjkhnhbjdaaDoor
theorem fnRename_card : Rows.FnRenameCardSaid :=
  Claim7.holds_tied_plain_at .later [] [.sentinel] true (true, "02e7ab89ffa108ae3204427b224f76f33429535afac2a54c8e9935a69e6f7323") true
    OverFnRename.over (fun _ h => by cases h) (by kernel_rfl) (fun _ h => by cases h) fnRename_row_tie rfl ⟨rfl, rfl⟩ (by kernel_rfl) rfl
    (fun f fn hf hfn => by
      obtain rfl : f = 4 := Option.some.inj (OverFnRename.named.symm.trans hf) |>.symm
      obtain rfl : fn = Tryd.f4 := (Option.some.inj (Tryd.func4.symm.trans hfn)).symm
      exact ⟨by kernel_rfl, fun j t ht => by
        have hm : t ∈ Tryd.f4.params.toList := by
          rw [← Array.getElem?_toList] at ht
          exact List.mem_of_getElem? ht
        have := List.all_eq_true.1 OverFnRename.plainArgs t hm
        show Tryd.prog.wantsStandIn t = false
        simpa using this⟩)
    (by kernel_rfl)
#print axioms fnRename_card
end Go.Proofs.YtbmcpjkhnhbjdaaDoor
