/- Parts of the proof of one law, in the order in which they build. The row of laws.FnTruncated out of its lifted contract, and the tied card out of the row. No condition but the row's own: what it lists reads as the program's text lays it. -/
import Derived.SevenTiedAt
import Derived.Test.YtejbpbdlolehnaaDoorTru1
import Derived.Test.YtejbpbdlolehnaaDoorTru2
import Derived.Test.YtejbpbdlolehnaaDoorTru3
import Derived.Test.YtejbpbdlolehnaaDoorTru4
import Derived.Test.YtejbpbdlolehnaaDoorTru5
import Derived.Test.YtejbpbdlolehnaaDoorTru6
import Derived.Test.YtejbpbdlolehnaaDoorTru7
import Derived.Test.YtejbpbdlolehnaaDoorTru8
import Derived.Test.YtejbpbdlolehnaaDoorTru9
import Derived.Test.YtejbpbdlolehnaaDoorTru10
import Derived.Test.YtejbpbdlolehnaaDoorTru11
import Derived.Test.YtejbpbdlolehnaaDoorTru12
import Derived.Test.YtejbpbdlolehnaaDoorTru13
import Derived.Test.YtejbpbdlolehnaaDoorTru14
import Derived.Test.YtejbpbdlolehnaaDoorTru15
import Derived.Test.YtejbpbdlolehnaaDoorRows
import Derived.Test.YtejbpbdlolehnaaDoorTru16
import Derived.Test.YtejbpbdlolehnaaDoorCards
import Derived.Test.YtejbpbdlolehnaaDoorTie
namespace Go.Proofs.YtejbpbdlolehnaaDoor.OverFnTruncated
open Go.ChangeShapes Go.WideShapes Go.ChangeAt Go.RowKit
theorem k0 : (Rows.fnTruncatedRow.wf (OpenSpec.ofChange Rows.fnTruncatedSpec)) = true := by kernel_rfl
theorem k1 : (laidOutB Tryd.prog) = true := Facts.k1
theorem k2 : (mapsRowed Tryd.prog) = true := Facts.k2
theorem k3 : (Tryd.f5.params.all (Tryd.prog.readableRec ·)) = true := by kernel_rfl
theorem k4 : (namedTie Tryd.prog Rows.fnTruncatedRow.named Rows.fnTruncatedSpec.vars) = true := by kernel_rfl
theorem k5 : ((Rows.fnTruncatedRow.stops == [])) = true := by kernel_rfl
theorem k6 : ((Tryd.prog.stops == [])) = true := Facts.k6
theorem k7 : ((Rows.fnTruncatedRow.knobs == [])) = true := by kernel_rfl
theorem k8 : ((Tryd.prog.stopKnobs == [])) = true := Facts.k8
theorem k9 : ((Rows.fnTruncatedRow.inPlace == Tryd.prog.inPlace 5)) = true := by kernel_rfl
theorem k10 : ((Rows.fnTruncatedRow.unfollowed == Tryd.prog.unfollowed 5)) = true := by kernel_rfl
theorem k11 : ((Rows.fnTruncatedRow.recurses == Tryd.prog.recurses 5)) = true := by kernel_rfl
theorem k12 : ((Rows.fnTruncatedRow.named == Tryd.prog.varsNamed 5)) = true := by kernel_rfl
theorem k13 : ((Rows.fnTruncatedRow.maps == (Tryd.f5.params.toList ++ Rows.fnTruncatedSpec.plain.varTypes Tryd.prog).any (Tryd.prog.mapsRec ·))) = true := by kernel_rfl
theorem k14 : ((Rows.fnTruncatedRow.ifaces == (Tryd.f5.params.toList ++ Rows.fnTruncatedSpec.plain.varTypes Tryd.prog).any (Tryd.prog.ifacesRec ·))) = true := by kernel_rfl
theorem k15 : ((Rows.fnTruncatedRow.mapsOut == Tryd.prog.mapsAmong Tryd.f5.resultTypes.toList)) = true := by kernel_rfl
theorem k16 : ((Rows.fnTruncatedRow.loops == (Tryd.f5.params.toList ++ Rows.fnTruncatedSpec.plain.varTypes Tryd.prog).any (Tryd.prog.loopsFrom ·))) = true := by kernel_rfl
theorem k17 : ((Rows.fnTruncatedRow.wideKeys == (Tryd.f5.params.toList ++ Rows.fnTruncatedSpec.plain.varTypes Tryd.prog ++ Tryd.f5.resultTypes.toList).any (Tryd.prog.wideKeysFrom ·))) = true := by kernel_rfl
theorem k18 : (Rows.fnTruncatedSpec.vars.all (Tryd.prog.varReadable ·)) = true := by kernel_rfl
theorem k19 : (Tryd.f5.resultTypes.all (fun t => Tryd.prog.readableRec t && decide (t < Tryd.prog.types.size))) = true := by kernel_rfl
theorem k20 : ((Rows.fnTruncatedRow.ifacesOut == Tryd.f5.resultTypes.toList.any (Tryd.prog.ifacesRec ·))) = true := by kernel_rfl
theorem k21 : ((Rows.fnTruncatedRow.loopsOut == Tryd.f5.resultTypes.toList.any (Tryd.prog.loopsFrom ·))) = true := by kernel_rfl
theorem k22 : ((Rows.fnTruncatedRow.plainKeys == Tryd.prog.plainKeys)) = true := Facts.k22
theorem k23 : (Rows.fnTruncatedRow.shortTexts.isNone) = true := by kernel_rfl
theorem k24 : (Tryd.prog.stopsHeard) = true := Facts.k24
theorem k25 : (Tryd.prog.mayEnter) = true := Facts.k25
theorem k26 : ((Rows.fnTruncatedRow.lifted == Tryd.prog.liftsFinal)) = true := Facts.k26
theorem k27 : ((Tryd.prog.make == some Rows.fnTruncatedRow.make)) = true := Facts.k27
theorem k28 : ((Rows.fnTruncatedRow.kinds == (if Rows.fnTruncatedRow.domain.isEmpty then [] else Tryd.f5.params.toList.map fun t => match Tryd.prog.underlying t with | some (.int k) => some k | _ => none))) = true := by kernel_rfl
theorem k29 : ((Rows.fnTruncatedRow.pinned == Rows.fnTruncatedRow.pinnedBy)) = true := by kernel_rfl
theorem k30 : ((Rows.fnTruncatedRow.veiled == (Tryd.f5.params.toList ++ Rows.fnTruncatedSpec.plain.varTypes Tryd.prog ++ Tryd.f5.resultTypes.toList).any (Tryd.prog.veiledRec ·))) = true := by kernel_rfl
theorem k31 : (Rows.fnTruncatedRow.veiledFits Tryd.prog Tryd.f5.params.toList (Tryd.f5.params.toList ++ Rows.fnTruncatedSpec.plain.varTypes Tryd.prog ++ Tryd.f5.resultTypes.toList)) = true := by kernel_rfl
set_option maxRecDepth 100000 in
theorem joined : joinedFacts Tryd.prog 5 Tryd.f5 Rows.fnTruncatedSpec Rows.fnTruncatedRow = true := Facts.joined_of k0 k1 k2 k3 k4 k5 k6 k7 k8 k9 k10 k11 k12 k13 k14 k15 k16 k17 k18 k19 k20 k21 k22 k23 k24 k25 k26 k27 k28 k29 k30 k31
theorem named : Tryd.prog.funcNamed "goldap/laws.FnTruncated" = some 5 := by kernel_rfl
theorem inst : Tryd.f5.isInstance Tryd.prog Rows.fnTruncatedRow.origin Rows.fnTruncatedRow.targs := of_decide_eq_true (by kernel_rfl)
theorem wrap : Tryd.f5.isWrapper Tryd.prog Rows.fnTruncatedRow.wrapper Rows.fnTruncatedRow.mainSum := by unfold Func.isWrapper; first | (rw [if_pos (by decide +kernel)]; kernel_rfl) | (rw [if_neg (by decide +kernel)]; exact ⟨rfl, rfl⟩)
theorem over : Rows.FnTruncatedSaid :=
  OpenClaim.holds_of_wide 5 Tryd.f5 rfl rfl rfl rfl rfl rfl rfl ⟨rfl, rfl, rfl, rfl, rfl⟩ rfl rfl rfl rfl rfl named Tryd.func5 joined inst wrap
    (fun os started H enc _ => RowFnTruncated.lifted os started H enc)
theorem plainArgs : (Tryd.f5.params.toList.all fun t => !(Tryd.prog.wantsStandIn t)) = true := by kernel_rfl
end Go.Proofs.YtejbpbdlolehnaaDoor.OverFnTruncated
namespace Go.Proofs.YtejbpbdlolehnaaDoor
theorem fnTruncated_card : Rows.FnTruncatedCardSaid :=
  Claim7.holds_tied_plain_at .later [] [.data, .data, .data, .data, .sentinel, .sentinel, .sentinel, .sentinel, .pinned] true (true, "f6f54f19e263565cd724092b73faaa59e3c1b326412c6dafbcb0138ee68ec120") true
    OverFnTruncated.over (fun _ h => by cases h) (by kernel_rfl) (fun _ h => by cases h) fnTruncated_row_tie rfl ⟨rfl, rfl⟩ (by kernel_rfl) rfl
    (fun f fn hf hfn => by
      obtain rfl : f = 5 := Option.some.inj (OverFnTruncated.named.symm.trans hf) |>.symm
      obtain rfl : fn = Tryd.f5 := (Option.some.inj (Tryd.func5.symm.trans hfn)).symm
      exact ⟨by kernel_rfl, fun j t ht => by
        have hm : t ∈ Tryd.f5.params.toList := by
          rw [← Array.getElem?_toList] at ht
          exact List.mem_of_getElem? ht
        have := List.all_eq_true.1 OverFnTruncated.plainArgs t hm
        show Tryd.prog.wantsStandIn t = false
        simpa using this⟩)
    (by kernel_rfl)
#print axioms fnTruncated_card
end Go.Proofs.YtejbpbdlolehnaaDoor
