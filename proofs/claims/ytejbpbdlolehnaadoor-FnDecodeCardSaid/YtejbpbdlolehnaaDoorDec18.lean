/- Parts of the proof of one law, in the order in which they build. The row of laws.FnDecode out of its lifted contract, and the tied card out of the row. No condition but the row's own: what it lists reads as the program's text lays it. -/
import Derived.SevenTiedAt
import Derived.Test.YtejbpbdlolehnaaDoorDec1
import Derived.Test.YtejbpbdlolehnaaDoorDec2
import Derived.Test.YtejbpbdlolehnaaDoorDec3
import Derived.Test.YtejbpbdlolehnaaDoorDec4
import Derived.Test.YtejbpbdlolehnaaDoorDec5
import Derived.Test.YtejbpbdlolehnaaDoorDec6
import Derived.Test.YtejbpbdlolehnaaDoorDec7
import Derived.Test.YtejbpbdlolehnaaDoorDec8
import Derived.Test.YtejbpbdlolehnaaDoorDec9
import Derived.Test.YtejbpbdlolehnaaDoorDec10
import Derived.Test.YtejbpbdlolehnaaDoorDec11
import Derived.Test.YtejbpbdlolehnaaDoorDec12
import Derived.Test.YtejbpbdlolehnaaDoorDec13
import Derived.Test.YtejbpbdlolehnaaDoorDec14
import Derived.Test.YtejbpbdlolehnaaDoorDec15
import Derived.Test.YtejbpbdlolehnaaDoorDec16
import Derived.Test.YtejbpbdlolehnaaDoorRows
import Derived.Test.YtejbpbdlolehnaaDoorDec17
import Derived.Test.YtejbpbdlolehnaaDoorCards
import Derived.Test.YtejbpbdlolehnaaDoorTie
namespace Go.Proofs.YtejbpbdlolehnaaDoor.OverFnDecode
open Go.ChangeShapes Go.WideShapes Go.ChangeAt Go.RowKit
theorem k0 : (Rows.fnDecodeRow.wf (OpenSpec.ofChange Rows.fnDecodeSpec)) = true := by kernel_rfl
theorem k1 : (laidOutB Tryd.prog) = true := Facts.k1
theorem k2 : (mapsRowed Tryd.prog) = true := Facts.k2
theorem k3 : (Tryd.f3.params.all (Tryd.prog.readableRec ·)) = true := by kernel_rfl
theorem k4 : (namedTie Tryd.prog Rows.fnDecodeRow.named Rows.fnDecodeSpec.vars) = true := by kernel_rfl
theorem k5 : ((Rows.fnDecodeRow.stops == [])) = true := by kernel_rfl
theorem k6 : ((Tryd.prog.stops == [])) = true := Facts.k6
theorem k7 : ((Rows.fnDecodeRow.knobs == [])) = true := by kernel_rfl
theorem k8 : ((Tryd.prog.stopKnobs == [])) = true := Facts.k8
theorem k9 : ((Rows.fnDecodeRow.inPlace == Tryd.prog.inPlace 3)) = true := by kernel_rfl
theorem k10 : ((Rows.fnDecodeRow.unfollowed == Tryd.prog.unfollowed 3)) = true := by kernel_rfl
theorem k11 : ((Rows.fnDecodeRow.recurses == Tryd.prog.recurses 3)) = true := by kernel_rfl
theorem k12 : ((Rows.fnDecodeRow.named == Tryd.prog.varsNamed 3)) = true := by kernel_rfl
theorem k13 : ((Rows.fnDecodeRow.maps == (Tryd.f3.params.toList ++ Rows.fnDecodeSpec.plain.varTypes Tryd.prog).any (Tryd.prog.mapsRec ·))) = true := by kernel_rfl
theorem k14 : ((Rows.fnDecodeRow.ifaces == (Tryd.f3.params.toList ++ Rows.fnDecodeSpec.plain.varTypes Tryd.prog).any (Tryd.prog.ifacesRec ·))) = true := by kernel_rfl
theorem k15 : ((Rows.fnDecodeRow.mapsOut == Tryd.prog.mapsAmong Tryd.f3.resultTypes.toList)) = true := by kernel_rfl
theorem k16 : ((Rows.fnDecodeRow.loops == (Tryd.f3.params.toList ++ Rows.fnDecodeSpec.plain.varTypes Tryd.prog).any (Tryd.prog.loopsFrom ·))) = true := by kernel_rfl
theorem k17 : ((Rows.fnDecodeRow.wideKeys == (Tryd.f3.params.toList ++ Rows.fnDecodeSpec.plain.varTypes Tryd.prog ++ Tryd.f3.resultTypes.toList).any (Tryd.prog.wideKeysFrom ·))) = true := by kernel_rfl
theorem k18 : (Rows.fnDecodeSpec.vars.all (Tryd.prog.varReadable ·)) = true := by kernel_rfl
theorem k19 : (Tryd.f3.resultTypes.all (fun t => Tryd.prog.readableRec t && decide (t < Tryd.prog.types.size))) = true := by kernel_rfl
theorem k20 : ((Rows.fnDecodeRow.ifacesOut == Tryd.f3.resultTypes.toList.any (Tryd.prog.ifacesRec ·))) = true := by kernel_rfl
theorem k21 : ((Rows.fnDecodeRow.loopsOut == Tryd.f3.resultTypes.toList.any (Tryd.prog.loopsFrom ·))) = true := by kernel_rfl
theorem k22 : ((Rows.fnDecodeRow.plainKeys == Tryd.prog.plainKeys)) = true := Facts.k22
theorem k23 : (Rows.fnDecodeRow.shortTexts.isNone) = true := by kernel_rfl
theorem k24 : (Tryd.prog.stopsHeard) = true := Facts.k24
theorem k25 : (Tryd.prog.mayEnter) = true := Facts.k25
theorem k26 : ((Rows.fnDecodeRow.lifted == Tryd.prog.liftsFinal)) = true := Facts.k26
theorem k27 : ((Tryd.prog.make == some Rows.fnDecodeRow.make)) = true := Facts.k27
theorem k28 : ((Rows.fnDecodeRow.kinds == (if Rows.fnDecodeRow.domain.isEmpty then [] else Tryd.f3.params.toList.map fun t => match Tryd.prog.underlying t with | some (.int k) => some k | _ => none))) = true := by kernel_rfl
theorem k29 : ((Rows.fnDecodeRow.pinned == Rows.fnDecodeRow.pinnedBy)) = true := by kernel_rfl
theorem k30 : ((Rows.fnDecodeRow.veiled == (Tryd.f3.params.toList ++ Rows.fnDecodeSpec.plain.varTypes Tryd.prog ++ Tryd.f3.resultTypes.toList).any (Tryd.prog.veiledRec ·))) = true := by kernel_rfl
theorem k31 : (Rows.fnDecodeRow.veiledFits Tryd.prog Tryd.f3.params.toList (Tryd.f3.params.toList ++ Rows.fnDecodeSpec.plain.varTypes Tryd.prog ++ Tryd.f3.resultTypes.toList)) = true := by kernel_rfl
set_option maxRecDepth 100000 in
theorem joined : joinedFacts Tryd.prog 3 Tryd.f3 Rows.fnDecodeSpec Rows.fnDecodeRow = true := Facts.joined_of k0 k1 k2 k3 k4 k5 k6 k7 k8 k9 k10 k11 k12 k13 k14 k15 k16 k17 k18 k19 k20 k21 k22 k23 k24 k25 k26 k27 k28 k29 k30 k31
theorem named : Tryd.prog.funcNamed "goldap/laws.FnDecode" = some 3 := by kernel_rfl
theorem inst : Tryd.f3.isInstance Tryd.prog Rows.fnDecodeRow.origin Rows.fnDecodeRow.targs := of_decide_eq_true (by kernel_rfl)
theorem wrap : Tryd.f3.isWrapper Tryd.prog Rows.fnDecodeRow.wrapper Rows.fnDecodeRow.mainSum := by unfold Func.isWrapper; first | (rw [if_pos (by decide +kernel)]; kernel_rfl) | (rw [if_neg (by decide +kernel)]; exact ⟨rfl, rfl⟩)
theorem over : Rows.FnDecodeSaid :=
  OpenClaim.holds_of_wide 3 Tryd.f3 rfl rfl rfl rfl rfl rfl rfl ⟨rfl, rfl, rfl, rfl, rfl⟩ rfl rfl rfl rfl rfl named Tryd.func3 joined inst wrap
    (fun os started H enc _ => RowFnDecode.lifted os started H enc)
theorem plainArgs : (Tryd.f3.params.toList.all fun t => !(Tryd.prog.wantsStandIn t)) = true := by kernel_rfl
end Go.Proofs.YtejbpbdlolehnaaDoor.OverFnDecode
namespace Go.Proofs.YtejbpbdlolehnaaDoor
theorem fnDecode_card : Rows.FnDecodeCardSaid :=
  Claim7.holds_tied_plain_at .later [] [.data, .data, .data, .data, .sentinel, .sentinel, .sentinel, .sentinel, .pinned] true (true, "f6f54f19e263565cd724092b73faaa59e3c1b326412c6dafbcb0138ee68ec120") true
    OverFnDecode.over (fun _ h => by cases h) (by kernel_rfl) (fun _ h => by cases h) fnDecode_row_tie rfl ⟨rfl, rfl⟩ (by kernel_rfl) rfl
    (fun f fn hf hfn => by
      obtain rfl : f = 3 := Option.some.inj (OverFnDecode.named.symm.trans hf) |>.symm
      obtain rfl : fn = Tryd.f3 := (Option.some.inj (Tryd.func3.symm.trans hfn)).symm
      exact ⟨by kernel_rfl, fun j t ht => by
        have hm : t ∈ Tryd.f3.params.toList := by
          rw [← Array.getElem?_toList] at ht
          exact List.mem_of_getElem? ht
        have := List.all_eq_true.1 OverFnDecode.plainArgs t hm
        show Tryd.prog.wantsStandIn t = false
        simpa using this⟩)
    (by kernel_rfl)
#print axioms fnDecode_card
end Go.Proofs.YtejbpbdlolehnaaDoor
