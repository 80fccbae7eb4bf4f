/- Parts of the proof of one law, in the order in which they build. The row of laws.FnEntry out of its lifted contract, and the tied card out of the row. No condition but the row's own: what it lists reads as the program's text lays it. -/
import Derived.SevenTiedAt
import Derived.Test.YteockihoefbmdaaGreatDoorEty1
import Derived.Test.YteockihoefbmdaaGreatDoorEty2
import Derived.Test.YteockihoefbmdaaGreatDoorEty3
import Derived.Test.YteockihoefbmdaaGreatDoorEty4
import Derived.Test.YteockihoefbmdaaGreatDoorEty5
import Derived.Test.YteockihoefbmdaaGreatDoorEty6
import Derived.Test.YteockihoefbmdaaGreatDoorEty7
import Derived.Test.YteockihoefbmdaaGreatDoorEty8
import Derived.Test.YteockihoefbmdaaGreatDoorEty9
import Derived.Test.YteockihoefbmdaaGreatDoorEty10
import Derived.Test.YteockihoefbmdaaGreatDoorEty11
import Derived.Test.YteockihoefbmdaaGreatDoorEty12
import Derived.Test.YteockihoefbmdaaGreatDoorEty13
import Derived.Test.YteockihoefbmdaaGreatDoorEty14
import Derived.Test.YteockihoefbmdaaGreatDoorRows
import Derived.Test.YteockihoefbmdaaGreatDoorEty15
import Derived.Test.YteockihoefbmdaaGreatDoorCards
import Derived.Test.YteockihoefbmdaaGreatDoorTie
namespace Go.Proofs.YteockihoefbmdaaGreatDoor.OverFnEntry
open Go.ChangeShapes Go.WideShapes Go.ChangeAt Go.RowKit
theorem k0 : (Rows.fnEntryRow.wf (OpenSpec.ofChange Rows.fnEntrySpec)) = true := by kernel_rfl
theorem k1 : (laidOutB Tryz.prog) = true := Facts.k1
theorem k2 : (mapsRowed Tryz.prog) = true := Facts.k2
theorem k3 : (Tryz.f5.params.all (Tryz.prog.readableRec ·)) = true := by kernel_rfl
theorem k4 : (namedTie Tryz.prog Rows.fnEntryRow.named Rows.fnEntrySpec.vars) = true := by kernel_rfl
theorem k5 : ((Rows.fnEntryRow.stops == [])) = true := by kernel_rfl
theorem k6 : ((Tryz.prog.stops == [])) = true := Facts.k6
theorem k7 : ((Rows.fnEntryRow.knobs == [])) = true := by kernel_rfl
theorem k8 : ((Tryz.prog.stopKnobs == [])) = true := Facts.k8
theorem k9 : ((Rows.fnEntryRow.inPlace == Tryz.prog.inPlace 5)) = true := by kernel_rfl
theorem k10 : ((Rows.fnEntryRow.unfollowed == Tryz.prog.unfollowed 5)) = true := by kernel_rfl
theorem k11 : ((Rows.fnEntryRow.recurses == Tryz.prog.recurses 5)) = true := by kernel_rfl
theorem k12 : ((Rows.fnEntryRow.named == Tryz.prog.varsNamed 5)) = true := by kernel_rfl
theorem k13 : ((Rows.fnEntryRow.maps == (Tryz.f5.params.toList ++ Rows.fnEntrySpec.plain.varTypes Tryz.prog).any (Tryz.prog.mapsRec ·))) = true := by kernel_rfl
theorem k14 : ((Rows.fnEntryRow.ifaces == (Tryz.f5.params.toList ++ Rows.fnEntrySpec.plain.varTypes Tryz.prog).any (Tryz.prog.ifacesRec ·))) = true := by kernel_rfl
theorem k15 : ((Rows.fnEntryRow.mapsOut == Tryz.prog.mapsAmong Tryz.f5.resultTypes.toList)) = true := by kernel_rfl
theorem k16 : ((Rows.fnEntryRow.loops == (Tryz.f5.params.toList ++ Rows.fnEntrySpec.plain.varTypes Tryz.prog).any (Tryz.prog.loopsFrom ·))) = true := by kernel_rfl
theorem k17 : ((Rows.fnEntryRow.wideKeys == (Tryz.f5.params.toList ++ Rows.fnEntrySpec.plain.varTypes Tryz.prog ++ Tryz.f5.resultTypes.toList).any (Tryz.prog.wideKeysFrom ·))) = true := by kernel_rfl
theorem k18 : (Rows.fnEntrySpec.vars.all (Tryz.prog.varReadable ·)) = true := by kernel_rfl
theorem k19 : (Tryz.f5.resultTypes.all (fun t => Tryz.prog.readableRec t && decide (t < Tryz.prog.types.size))) = true := by kernel_rfl
theorem k20 : ((Rows.fnEntryRow.ifacesOut == Tryz.f5.resultTypes.toList.any (Tryz.prog.ifacesRec ·))) = true := by kernel_rfl
theorem k21 : ((Rows.fnEntryRow.loopsOut == Tryz.f5.resultTypes.toList.any (Tryz.prog.loopsFrom ·))) = true := by kernel_rfl
theorem k22 : ((Rows.fnEntryRow.plainKeys == Tryz.prog.plainKeys)) = true := Facts.k22
theorem k23 : (Rows.fnEntryRow.shortTexts.isNone) = true := by kernel_rfl
theorem k24 : (Tryz.prog.stopsHeard) = true := Facts.k24
theorem k25 : (Tryz.prog.mayEnter) = true := Facts.k25
theorem k26 : ((Rows.fnEntryRow.lifted == Tryz.prog.liftsFinal)) = true := Facts.k26
theorem k27 : ((Tryz.prog.make == some Rows.fnEntryRow.make)) = true := Facts.k27
theorem k28 : ((Rows.fnEntryRow.kinds == (if Rows.fnEntryRow.domain.isEmpty then [] else Tryz.f5.params.toList.map fun t => match Tryz.prog.underlying t with | some (.int k) => some k | _ => none))) = true := by kernel_rfl
theorem k29 : ((Rows.fnEntryRow.pinned == Rows.fnEntryRow.pinnedBy)) = true := by kernel_rfl
theorem k30 : ((Rows.fnEntryRow.veiled == (Tryz.f5.params.toList ++ Rows.fnEntrySpec.plain.varTypes Tryz.prog ++ Tryz.f5.resultTypes.toList).any (Tryz.prog.veiledRec ·))) = true := by kernel_rfl
theorem k31 : (Rows.fnEntryRow.veiledFits Tryz.prog Tryz.f5.params.toList (Tryz.f5.params.toList ++ Rows.fnEntrySpec.plain.varTypes Tryz.prog ++ Tryz.f5.resultTypes.toList)) = true := by kernel_rfl
set_option maxRecDepth 100000 in
theorem joined : joinedFacts Tryz.prog 5 Tryz.f5 Rows.fnEntrySpec Rows.fnEntryRow = true := Facts.joined_of k0 k1 k2 k3 k4 k5 k6 k7 k8 k9 k10 k11 k12 k13 k14 k15 k16 k17 k18 k19 k20 k21 k22 k23 k24 k25 k26 k27 k28 k29 k30 k31
theorem named : Tryz.prog.funcNamed "goldap/laws.FnEntry" = some 5 := by kernel_rfl
theorem inst : Tryz.f5.isInstance Tryz.prog Rows.fnEntryRow.origin Rows.fnEntryRow.targs := of_decide_eq_true (by kernel_rfl)
theorem wrap : Tryz.f5.isWrapper Tryz.prog Rows.fnEntryRow.wrapper Rows.fnEntryRow.mainSum := by unfold Func.isWrapper; first | (rw [if_pos (by decide +kernel)]; kernel_rfl) | (rw [if_neg (by decide +kernel)]; exact ⟨rfl, rfl⟩)
theorem over : Rows.FnEntrySaid :=
  OpenClaim.holds_of_wide 5 Tryz.f5 rfl rfl rfl rfl rfl rfl rfl ⟨rfl, rfl, rfl, rfl, rfl⟩ rfl rfl rfl rfl rfl named Tryz.func5 joined inst wrap
    (fun os started H enc _ => RowFnEntry.lifted os started H enc)
theorem plainArgs : (Tryz.f5.params.toList.all fun t => !(Tryz.prog.wantsStandIn t)) = true := by kernel_rfl
end Go.Proofs.YteockihoefbmdaaGreatDoor.OverFnEntry
namespace Go.Proofs.YteockihoefbmdaaGreatDoor
theorem fnEntry_card : Rows.FnEntryCardSaid :=
  Claim7.holds_tied_plain_at .later [] [.data, .data, .data, .data, .sentinel, .sentinel, .sentinel, .sentinel, .pinned] true (true, "9e6c44ffed3591a6264cd7809d16a67d7f2db978333cc552d58d0756ec986c79") true
    OverFnEntry.over (fun _ h => by cases h) (by kernel_rfl) (fun _ h => by cases h) fnEntry_row_tie rfl ⟨rfl, rfl⟩ (by kernel_rfl) rfl
    (fun f fn hf hfn => by
      obtain rfl : f = 5 := Option.some.inj (OverFnEntry.named.symm.trans hf) |>.symm
      obtain rfl : fn = Tryz.f5 := (Option.some.inj (Tryz.func5.symm.trans hfn)).symm
      exact ⟨by kernel_rfl, fun j t ht => by
        have hm : t ∈ Tryz.f5.params.toList := by
          rw [← Array.getElem?_toList] at ht
          exact List.mem_of_getElem? ht
        have := List.all_eq_true.1 OverFnEntry.plainArgs t hm
        show Tryz.prog.wantsStandIn t = false
        simpa using this⟩)
    (by kernel_rfl)
#print axioms fnEntry_card
end Go.Proofs.YteockihoefbmdaaGreatDoor
