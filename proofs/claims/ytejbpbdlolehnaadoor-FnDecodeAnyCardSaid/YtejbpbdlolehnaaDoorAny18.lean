/- Parts of the proof of one law, in the order in which they build. The row of laws.FnDecodeAny out of its lifted contract, and the tied card out of the row. No condition but the row's own: what it lists reads as the program's text lays it. -/
import Derived.SevenTiedAt
import Derived.Test.YtejbpbdlolehnaaDoorAny1
import Derived.Test.YtejbpbdlolehnaaDoorAny2
import Derived.Test.YtejbpbdlolehnaaDoorAny3
import Derived.Test.YtejbpbdlolehnaaDoorAny4
import Derived.Test.YtejbpbdlolehnaaDoorAny5
import Derived.Test.YtejbpbdlolehnaaDoorAny6
import Derived.Test.YtejbpbdlolehnaaDoorAny7
import Derived.Test.YtejbpbdlolehnaaDoorAny8
import Derived.Test.YtejbpbdlolehnaaDoorAny9
import Derived.Test.YtejbpbdlolehnaaDoorAny10
import Derived.Test.YtejbpbdlolehnaaDoorAny11
import Derived.Test.YtejbpbdlolehnaaDoorAny12
import Derived.Test.YtejbpbdlolehnaaDoorAny13
import Derived.Test.YtejbpbdlolehnaaDoorAny14
import Derived.Test.YtejbpbdlolehnaaDoorAny15
import Derived.Test.YtejbpbdlolehnaaDoorAny16
import Derived.Test.YtejbpbdlolehnaaDoorRows
import Derived.Test.YtejbpbdlolehnaaDoorAny17
import Derived.Test.YtejbpbdlolehnaaDoorCards
import Derived.Test.YtejbpbdlolehnaaDoorTie
namespace Go.Proofs.YtejbpbdlolehnaaDoor.OverFnDecodeAny
open Go.ChangeShapes Go.WideShapes Go.ChangeAt Go.RowKit
theorem k0 : (Rows.fnDecodeAnyRow.wf (OpenSpec.ofChange Rows.fnDecodeAnySpec)) = true := by kernel_rfl
theorem k1 : (laidOutB Tryd.prog) = true := Facts.k1
theorem k2 : (mapsRowed Tryd.prog) = true := Facts.k2
theorem k3 : (Tryd.f4.params.all (Tryd.prog.readableRec ·)) = true := by kernel_rfl
theorem k4 : (namedTie Tryd.prog Rows.fnDecodeAnyRow.named Rows.fnDecodeAnySpec.vars) = true := by kernel_rfl
theorem k5 : ((Rows.fnDecodeAnyRow.stops == [])) = true := by kernel_rfl
theorem k6 : ((Tryd.prog.stops == [])) = true := Facts.k6
theorem k7 : ((Rows.fnDecodeAnyRow.knobs == [])) = true := by kernel_rfl
theorem k8 : ((Tryd.prog.stopKnobs == [])) = true := Facts.k8
theorem k9 : ((Rows.fnDecodeAnyRow.inPlace == Tryd.prog.inPlace 4)) = true := by kernel_rfl
theorem k10 : ((Rows.fnDecodeAnyRow.unfollowed == Tryd.prog.unfollowed 4)) = true := by kernel_rfl
theorem k11 : ((Rows.fnDecodeAnyRow.recurses == Tryd.prog.recurses 4)) = true := by kernel_rfl
theorem k12 : ((Rows.fnDecodeAnyRow.named == Tryd.prog.varsNamed 4)) = true := by kernel_rfl
theorem k13 : ((Rows.fnDecodeAnyRow.maps == (Tryd.f4.params.toList ++ Rows.fnDecodeAnySpec.plain.varTypes Tryd.prog).any (Tryd.prog.mapsRec ·))) = true := by kernel_rfl
theorem k14 : ((Rows.fnDecodeAnyRow.ifaces == (Tryd.f4.params.toList ++ Rows.fnDecodeAnySpec.plain.varTypes Tryd.prog).any (Tryd.prog.ifacesRec ·))) = true := by kernel_rfl
theorem k15 : ((Rows.fnDecodeAnyRow.mapsOut == Tryd.prog.mapsAmong Tryd.f4.resultTypes.toList)) = true := by kernel_rfl
theorem k16 : ((Rows.fnDecodeAnyRow.loops == (Tryd.f4.params.toList ++ Rows.fnDecodeAnySpec.plain.varTypes Tryd.prog).any (Tryd.prog.loopsFrom ·))) = true := by kernel_rfl
theorem k17 : ((Rows.fnDecodeAnyRow.wideKeys == (Tryd.f4.params.toList ++ Rows.fnDecodeAnySpec.plain.varTypes Tryd.prog ++ Tryd.f4.resultTypes.toList).any (Tryd.prog.wideKeysFrom ·))) = true := by kernel_rfl
theorem k18 : (Rows.fnDecodeAnySpec.vars.all (Tryd.prog.varReadable ·)) = true := by kernel_rfl
theorem k19 : (Tryd.f4.resultTypes.all (fun t => Tryd.prog.readableRec t && decide (t < Tryd.prog.types.size))) = true := by kernel_rfl
theorem k20 : ((Rows.fnDecodeAnyRow.ifacesOut == Tryd.f4.resultTypes.toList.any (Tryd.prog.ifacesRec ·))) = true := by kernel_rfl
theorem k21 : ((Rows.fnDecodeAnyRow.loopsOut == Tryd.f4.resultTypes.toList.any (Tryd.prog.loopsFrom ·))) = true := by kernel_rfl
theorem k22 : ((Rows.fnDecodeAnyRow.plainKeys == Tryd.prog.plainKeys)) = true := Facts.k22
theorem k23 : (Rows.fnDecodeAnyRow.shortTexts.isNone) = true := by kernel_rfl
theorem k24 : (Tryd.prog.stopsHeard) = true := Facts.k24
theorem k25 : (Tryd.prog.mayEnter) = true := Facts.k25
theorem k26 : ((Rows.fnDecodeAnyRow.lifted == Tryd.prog.liftsFinal)) = true := Facts.k26
theorem k27 : ((Tryd.prog.make == some Rows.fnDecodeAnyRow.make)) = true := Facts.k27
theorem k28 : ((Rows.fnDecodeAnyRow.kinds == (if Rows.fnDecodeAnyRow.domain.isEmpty then [] else Tryd.f4.params.toList.map fun t => match Tryd.prog.underlying t with | some (.int k) => some k | _ => none))) = true := by kernel_rfl
theorem k29 : ((Rows.fnDecodeAnyRow.pinned == Rows.fnDecodeAnyRow.pinnedBy)) = true := by kernel_rfl
theorem k30 : ((Rows.fnDecodeAnyRow.veiled == (Tryd.f4.params.toList ++ Rows.fnDecodeAnySpec.plain.varTypes Tryd.prog ++ Tryd.f4.resultTypes.toList).any (Tryd.prog.veiledRec ·))) = true := by kernel_rfl
theorem k31 : (Rows.fnDecodeAnyRow.veiledFits Tryd.prog Tryd.f4.params.toList (Tryd.f4.params.toList ++ Rows.fnDecodeAnySpec.plain.varTypes Tryd.prog ++ Tryd.f4.resultTypes.toList)) = true := by kernel_rfl
set_option maxRecDepth 100000 in
theorem joined : joinedFacts Tryd.prog 4 Tryd.f4 Rows.fnDecodeAnySpec Rows.fnDecodeAnyRow = true := Facts.joined_of k0 k1 k2 k3 k4 k5 k6 k7 k8 k9 k10 k11 k12 k13 k14 k15 k16 k17 k18 k19 k20 k21 k22 k23 k24 k25 k26 k27 k28 k29 k30 k31
theorem named : Tryd.prog.funcNamed "goldap/laws.FnDecodeAny" = some 4 := by kernel_rfl
theorem inst : Tryd.f4.isInstance Tryd.prog Rows.fnDecodeAnyRow.origin Rows.fnDecodeAnyRow.targs := of_decide_eq_true (by kernel_rfl)
theorem wrap : Tryd.f4.isWrapper Tryd.prog Rows.fnDecodeAnyRow.wrapper Rows.fnDecodeAnyRow.mainSum := by unfold Func.isWrapper; first | (rw [if_pos (by decide +kernel)]; kernel_rfl) | (rw [if_neg (by decide +kernel)]; exact ⟨rfl, rfl⟩)
theorem over : Rows.FnDecodeAnySaid :=
  OpenClaim.holds_of_wide 4 Tryd.f4 rfl rfl rfl rfl rfl rfl rfl ⟨rfl, rfl, rfl, rfl, rfl⟩ rfl rfl rfl rfl rfl named Tryd.func4 joined inst wrap
    (fun os started H enc _ => RowFnDecodeAny.lifted os started H enc)
theorem plainArgs : (Tryd.f4.params.toList.all fun t => !(Tryd.prog.wantsStandIn t)) = true := by kernel_rfl
end Go.Proofs.YtejbpbdlolehnaaDoor.OverFnDecodeAny
namespace Go.Proofs.YtejbpbdlolehnaaDoor
theorem fnDecodeAny_card : Rows.FnDecodeAnyCardSaid :=
  Claim7.holds_tied_plain_at .later [] [.data, .data, .data, .data, .sentinel, .sentinel, .sentinel, .sentinel, .pinned] true (true, "f6f54f19e263565cd724092b73faaa59e3c1b326412c6dafbcb0138ee68ec120") true
    OverFnDecodeAny.over (fun _ h => by cases h) (by kernel_rfl) (fun _ h => by cases h) fnDecodeAny_row_tie rfl ⟨rfl, rfl⟩ (by kernel_rfl) rfl
    (fun f fn hf hfn => by
      obtain rfl : f = 4 := Option.some.inj (OverFnDecodeAny.named.symm.trans hf) |>.symm
      obtain rfl : fn = Tryd.f4 := (Option.some.inj (Tryd.func4.symm.trans hfn)).symm
      exact ⟨by kernel_rfl, fun j t ht => by
        have hm : t ∈ Tryd.f4.params.toList := by
          rw [← Array.getElem?_toList] at ht
          exact List.mem_of_getElem? ht
        have := List.all_eq_true.1 OverFnDecodeAny.plainArgs t hm
        show Tryd.prog.wantsStandIn t = false
        simpa using this⟩)
    (by kernel_rfl)
#print axioms fnDecodeAny_card
end Go.Proofs.YtejbpbdlolehnaaDoor
