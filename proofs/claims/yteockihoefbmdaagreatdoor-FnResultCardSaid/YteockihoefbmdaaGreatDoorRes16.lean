/- Parts of the proof of one law, in the order in which they build. The row of laws.FnResult out of its lifted contract, and the tied card out of the row. No condition but the row's own: what it lists reads as the program's text lays it. -/
import Derived.SevenTiedAt
import Derived.Test.YteockihoefbmdaaGreatDoorRes1
import Derived.Test.YteockihoefbmdaaGreatDoorRes2
import Derived.Test.YteockihoefbmdaaGreatDoorRes3
import Derived.Test.YteockihoefbmdaaGreatDoorRes4
import Derived.Test.YteockihoefbmdaaGreatDoorRes5
import Derived.Test.YteockihoefbmdaaGreatDoorRes6
import Derived.Test.YteockihoefbmdaaGreatDoorRes7
import Derived.Test.YteockihoefbmdaaGreatDoorRes8
import Derived.Test.YteockihoefbmdaaGreatDoorRes9
import Derived.Test.YteockihoefbmdaaGreatDoorRes10
import Derived.Test.YteockihoefbmdaaGreatDoorRes11
import Derived.Test.YteockihoefbmdaaGreatDoorRes12
import Derived.Test.YteockihoefbmdaaGreatDoorRes13
import Derived.Test.YteockihoefbmdaaGreatDoorRes14
import Derived.Test.YteockihoefbmdaaGreatDoorRows
import Derived.Test.YteockihoefbmdaaGreatDoorRes15
import Derived.Test.YteockihoefbmdaaGreatDoorCards
import Derived.Test.YteockihoefbmdaaGreatDoorTie
namespace Go.Proofs.YteockihoefbmdaaGreatDoor.OverFnResult
open Go.ChangeShapes Go.WideShapes Go.ChangeAt Go.RowKit
theorem k0 : (Rows.fnResultRow.wf (OpenSpec.ofChange Rows.fnResultSpec)) = true := by kernel_rfl
theorem k1 : (laidOutB Tryz.prog) = true := Facts.k1
theorem k2 : (mapsRowed Tryz.prog) = true := Facts.k2
theorem k3 : (Tryz.f6.params.all (Tryz.prog.readableRec ·)) = true := by kernel_rfl
theorem k4 : (namedTie Tryz.prog Rows.fnResultRow.named Rows.fnResultSpec.vars) = true := by kernel_rfl
theorem k5 : ((Rows.fnResultRow.stops == [])) = true := by kernel_rfl
theorem k6 : ((Tryz.prog.stops == [])) = true := Facts.k6
theorem k7 : ((Rows.fnResultRow.knobs == [])) = true := by kernel_rfl
theorem k8 : ((Tryz.prog.stopKnobs == [])) = true := Facts.k8
theorem k9 : ((Rows.fnResultRow.inPlace == Tryz.prog.inPlace 6)) = true := by kernel_rfl
theorem k10 : ((Rows.fnResultRow.unfollowed == Tryz.prog.unfollowed 6)) = true := by kernel_rfl
theorem k11 : ((Rows.fnResultRow.recurses == Tryz.prog.recurses 6)) = true := by kernel_rfl
theorem k12 : ((Rows.fnResultRow.named == Tryz.prog.varsNamed 6)) = true := by kernel_rfl
theorem k13 : ((Rows.fnResultRow.maps == (Tryz.f6.params.toList ++ Rows.fnResultSpec.plain.varTypes Tryz.prog).any (Tryz.prog.mapsRec ·))) = true := by kernel_rfl
theorem k14 : ((Rows.fnResultRow.ifaces == (Tryz.f6.params.toList ++ Rows.fnResultSpec.plain.varTypes Tryz.prog).any (Tryz.prog.ifacesRec ·))) = true := by kernel_rfl
theorem k15 : ((Rows.fnResultRow.mapsOut == Tryz.prog.mapsAmong Tryz.f6.resultTypes.toList)) = true := by kernel_rfl
theorem k16 : ((Rows.fnResultRow.loops == (Tryz.f6.params.toList ++ Rows.fnResultSpec.plain.varTypes Tryz.prog).any (Tryz.prog.loopsFrom ·))) = true := by kernel_rfl
theorem k17 : ((Rows.fnResultRow.wideKeys == (Tryz.f6.params.toList ++ Rows.fnResultSpec.plain.varTypes Tryz.prog ++ Tryz.f6.resultTypes.toList).any (Tryz.prog.wideKeysFrom ·))) = true := by kernel_rfl
theorem k18 : (Rows.fnResultSpec.vars.all (Tryz.prog.varReadable ·)) = true := by kernel_rfl
theorem k19 : (Tryz.f6.resultTypes.all (fun t => Tryz.prog.readableRec t && decide (t < Tryz.prog.types.size))) = true := by kernel_rfl
theorem k20 : ((Rows.fnResultRow.ifacesOut == Tryz.f6.resultTypes.toList.any (Tryz.prog.ifacesRec ·))) = true := by kernel_rfl
theorem k21 : ((Rows.fnResultRow.loopsOut == Tryz.f6.resultTypes.toList.any (Tryz.prog.loopsFrom ·))) = true := by kernel_rfl
theorem k22 : ((Rows.fnResultRow.plainKeys == Tryz.prog.plainKeys)) = true := Facts.k22
theorem k23 : (Rows.fnResultRow.shortTexts.isNone) = true := by kernel_rfl
theorem k24 : (Tryz.prog.stopsHeard) = true := Facts.k24
theorem k25 : (Tryz.prog.mayEnter) = true := Facts.k25
theorem k26 : ((Rows.fnResultRow.lifted == Tryz.prog.liftsFinal)) = true := Facts.k26
theorem k27 : ((Tryz.prog.make == some Rows.fnResultRow.make)) = true := Facts.k27
theorem k28 : ((Rows.fnResultRow.kinds == (if Rows.fnResultRow.domain.isEmpty then [] else Tryz.f6.params.toList.map fun t => match Tryz.prog.underlying t with | some (.int k) => some k | _ => none))) = true := by kernel_rfl
theorem k29 : ((Rows.fnResultRow.pinned == Rows.fnResultRow.pinnedBy)) = true := by kernel_rfl
theorem k30 : ((Rows.fnResultRow.veiled == (Tryz.f6.params.toList ++ Rows.fnResultSpec.plain.varTypes Tryz.prog ++ Tryz.f6.resultTypes.toList).any (Tryz.prog.veiledRec ·))) = true := by kernel_rfl
theorem k31 : (Rows.fnResultRow.veiledFits Tryz.prog Tryz.f6.params.toList (Tryz.f6.params.toList ++ Rows.fnResultSpec.plain.varTypes Tryz.prog ++ Tryz.f6.resultTypes.toList)) = true := by kernel_rfl
set_option maxRecDepth 100000 in
theorem joined : joinedFacts Tryz.prog 6 Tryz.f6 Rows.fnResultSpec Rows.fnResultRow = true := Facts.joined_of k0 k1 k2 k3 k4 k5 k6 k7 k8 k9 k10 k11 k12 k13 k14 k15 k16 k17 k18 k19 k20 k21 k22 k23 k24 k25 k26 k27 k28 k29 k30 k31
theorem named : Tryz.prog.funcNamed "goldap/laws.FnResult" = some 6 := by kernel_rfl
theorem inst : Tryz.f6.isInstance Tryz.prog Rows.fnResultRow.origin Rows.fnResultRow.targs := of_decide_eq_true (by kernel_rfl)
theorem wrap : Tryz.f6.isWrapper Tryz.prog Rows.fnResultRow.wrapper Rows.fnResultRow.mainSum := by unfold Func.isWrapper; first | (rw [if_pos (by decide +kernel)]; kernel_rfl) | (rw [if_neg (by decide +kernel)]; exact ⟨rfl, rfl⟩)
theorem over : Rows.FnResultSaid :=
  OpenClaim.holds_of_wide 6 Tryz.f6 rfl rfl rfl rfl rfl rfl rfl ⟨rfl, rfl, rfl, rfl, rfl⟩ rfl rfl rfl rfl rfl named Tryz.func6 joined inst wrap
    (fun os started H enc _ => RowFnResult.lifted os started H enc)
theorem plainArgs : (Tryz.f6.params.toList.all fun t => !(Tryz.prog.wantsStandIn t)) = true := by kernel_rfl
end Go.Proofs.YteockihoefbmdaaGreatDoor.OverFnResult
namespace Go.Proofs.YteockihoefbmdaaGreatDoor
theorem fnResult_card : Rows.FnResultCardSaid :=
  Claim7.holds_tied_plain_at .later [] [.data, .data, .data, .data, .sentinel, .sentinel, .sentinel, .sentinel, .pinned] true (true, "9e6c44ffed3591a6264cd7809d16a67d7f2db978333cc552d58d0756ec986c79") true
    OverFnResult.over (fun _ h => by cases h) (by kernel_rfl) (fun _ h => by cases h) fnResult_row_tie rfl ⟨rfl, rfl⟩ (by kernel_rfl) rfl
    (fun f fn hf hfn => by
      obtain rfl : f = 6 := Option.some.inj (OverFnResult.named.symm.trans hf) |>.symm
      obtain rfl : fn = Tryz.f6 := (Option.some.inj (Tryz.func6.symm.trans hfn)).symm
      exact ⟨by kernel_rfl, fun j t ht => by
        have hm : t ∈ Tryz.f6.params.toList := by
          rw [← Array.getElem?_toList] at ht
          exact List.mem_of_getElem? ht
        have := List.all_eq_true.1 OverFnResult.plainArgs t hm
        show Tryz.prog.wantsStandIn t = false
        simpa using this⟩)
    (by kernel_rfl)
#print axioms fnResult_card
end Go.Proofs.YteockihoefbmdaaGreatDoor
