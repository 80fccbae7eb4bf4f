/-
  DERIVED. GIVEN WITH THE SEED: THE CARDS: each row of YtkegpljmfgjkaaaDoorRows.lean that lists a variable, with what it lists TIED to the program's text (the seventh form; the later family's looks); each row that meets fmt, with fmt's text TOLD by the authors' own Lean function (tested against real Go, not proved from fmt's source: count such statements apart). THE CARD IS WHAT COUNTS. Prove the row's statement (the work); the ties are given (YtkegpljmfgjkaaaDoorTie.lean); close each card by the builder's one call (the guide's Derived/Test/ToyasCard.lean, 'card_holds'). Laid BY PROGRAM, IN A SANDBOX (cutbox-door.mjs). By AI agents, Wed Nov 11 2026. No macro, syntax, notation, axiom, sorry.
-/
import Derived.Test.YtkegpljmfgjkaaaDoorRows
import GoSem.ClaimSeven
namespace Go.Proofs.YtkegpljmfgjkaaaDoor
namespace Rows

/-- THE TIED CARD OF 'laws.FnEncode'. -/
def fnEncodeCard : Claim7 := { stood := { row := fnEncodeRow, standIns := [], harness := (true, "22f740356f9ca4ea05c662ec0b97d0dbc7315465540808bbae1fce4fe54f4cd1"), looks := true }, kinds := [], alts := [], laidByText := true, laidKinds := [.sentinel], laidTests := true, laidLooks := .later }
def FnEncodeCardSaid : Prop := Claim7.holds Tryd.pinned (.plain (OpenSpec.ofChange fnEncodeSpec)) fnEncodeCard

/-- THE TIED CARD OF 'laws.FnInteger'. -/
def fnIntegerCard : Claim7 := { stood := { row := fnIntegerRow, standIns := [], harness := (true, "22f740356f9ca4ea05c662ec0b97d0dbc7315465540808bbae1fce4fe54f4cd1"), looks := true }, kinds := [], alts := [], laidByText := true, laidKinds := [.sentinel], laidTests := true, laidLooks := .later }
def FnIntegerCardSaid : Prop := Claim7.holds Tryd.pinned (.plain (OpenSpec.ofChange fnIntegerSpec)) fnIntegerCard

/-- THE TIED CARD OF 'laws.FnEqualDN'. -/
def fnEqualDNCard : Claim7 := { stood := { row := fnEqualDNRow, standIns := [], harness := (true, "22f740356f9ca4ea05c662ec0b97d0dbc7315465540808bbae1fce4fe54f4cd1"), looks := true }, kinds := [], alts := [], laidByText := true, laidKinds := [.data, .data, .data, .pinned, .pinned], laidTests := true, laidLooks := .later }
def FnEqualDNCardSaid : Prop := Claim7.holds Tryd.pinned (.plain (OpenSpec.ofChange fnEqualDNSpec)) fnEqualDNCard

/-- THE TIED CARD OF 'laws.FnAncestorDN'. -/
def fnAncestorDNCard : Claim7 := { stood := { row := fnAncestorDNRow, standIns := [], harness := (true, "22f740356f9ca4ea05c662ec0b97d0dbc7315465540808bbae1fce4fe54f4cd1"), looks := true }, kinds := [], alts := [], laidByText := true, laidKinds := [.data, .data, .data, .pinned, .pinned], laidTests := true, laidLooks := .later }
def FnAncestorDNCardSaid : Prop := Claim7.holds Tryd.pinned (.plain (OpenSpec.ofChange fnAncestorDNSpec)) fnAncestorDNCard

/-- THE TIED CARD OF 'laws.FnDecompile'. -/
def fnDecompileCard : Claim7 := { stood := { row := fnDecompileRow, standIns := [], harness := (true, "22f740356f9ca4ea05c662ec0b97d0dbc7315465540808bbae1fce4fe54f4cd1"), looks := true }, kinds := [], alts := [], laidByText := true, laidKinds := [.sentinel], laidTests := true, laidLooks := .later }
def FnDecompileCardSaid : Prop := Claim7.holds Tryd.pinned (.plain (OpenSpec.ofChange fnDecompileSpec)) fnDecompileCard

/-- THE TIED CARD OF 'laws.FnCompile'. -/
def fnCompileCard : Claim7 := { stood := { row := fnCompileRow, standIns := [], harness := (true, "22f740356f9ca4ea05c662ec0b97d0dbc7315465540808bbae1fce4fe54f4cd1"), looks := true }, kinds := [], alts := [], laidByText := true, laidKinds := [.data, .sentinel, .sentinel, .sentinel, .sentinel, .sentinel, .pinned], laidTests := true, laidLooks := .later }
def FnCompileCardSaid : Prop := Claim7.holds Tryd.pinned (.plain (OpenSpec.ofChange fnCompileSpec)) fnCompileCard

/-- THE TIED CARD OF 'laws.FnCutFilter'. -/
def fnCutFilterCard : Claim7 := { stood := { row := fnCutFilterRow, standIns := [], harness := (true, "22f740356f9ca4ea05c662ec0b97d0dbc7315465540808bbae1fce4fe54f4cd1"), looks := true }, kinds := [], alts := [], laidByText := true, laidKinds := [.data, .sentinel, .sentinel, .sentinel, .sentinel, .sentinel, .pinned], laidTests := true, laidLooks := .later }
def FnCutFilterCardSaid : Prop := Claim7.holds Tryd.pinned (.plain (OpenSpec.ofChange fnCutFilterSpec)) fnCutFilterCard

/-- THE TIED CARD OF 'laws.FnHex'. -/
def fnHexCard : Claim7 := { stood := { row := fnHexRow, standIns := [], harness := (true, "22f740356f9ca4ea05c662ec0b97d0dbc7315465540808bbae1fce4fe54f4cd1"), looks := true }, kinds := [], alts := [], laidByText := true, laidKinds := [.data, .sentinel, .sentinel, .sentinel, .sentinel, .sentinel, .pinned], laidTests := true, laidLooks := .later }
def FnHexCardSaid : Prop := Claim7.holds Tryd.pinned (.plain (OpenSpec.ofChange fnHexSpec)) fnHexCard

/-- THE TIED CARD OF 'laws.FnFilterBack'. -/
def fnFilterBackCard : Claim7 := { stood := { row := fnFilterBackRow, standIns := [], harness := (true, "22f740356f9ca4ea05c662ec0b97d0dbc7315465540808bbae1fce4fe54f4cd1"), looks := true }, kinds := [], alts := [], laidByText := true, laidKinds := [.data, .sentinel, .sentinel, .sentinel, .sentinel, .sentinel, .pinned], laidTests := true, laidLooks := .later }
def FnFilterBackCardSaid : Prop := Claim7.holds Tryd.pinned (.plain (OpenSpec.ofChange fnFilterBackSpec)) fnFilterBackCard

/-- THE TIED CARD OF 'laws.FnDecode'. -/
def fnDecodeCard : Claim7 := { stood := { row := fnDecodeRow, standIns := [], harness := (true, "22f740356f9ca4ea05c662ec0b97d0dbc7315465540808bbae1fce4fe54f4cd1"), looks := true }, kinds := [], alts := [], laidByText := true, laidKinds := [.data, .data, .data, .data, .sentinel, .sentinel, .sentinel, .sentinel, .pinned], laidTests := true, laidLooks := .later }
def FnDecodeCardSaid : Prop := Claim7.holds Tryd.pinned (.plain (OpenSpec.ofChange fnDecodeSpec)) fnDecodeCard

/-- THE TIED CARD OF 'laws.FnDecodeAny'. -/
def fnDecodeAnyCard : Claim7 := { stood := { row := fnDecodeAnyRow, standIns := [], harness := (true, "22f740356f9ca4ea05c662ec0b97d0dbc7315465540808bbae1fce4fe54f4cd1"), looks := true }, kinds := [], alts := [], laidByText := true, laidKinds := [.data, .data, .data, .data, .sentinel, .sentinel, .sentinel, .sentinel, .pinned], laidTests := true, laidLooks := .later }
def FnDecodeAnyCardSaid : Prop := Claim7.holds Tryd.pinned (.plain (OpenSpec.ofChange fnDecodeAnySpec)) fnDecodeAnyCard

/-- THE TIED CARD OF 'laws.FnTruncated'. -/
def fnTruncatedCard : Claim7 := { stood := { row := fnTruncatedRow, standIns := [], harness := (true, "22f740356f9ca4ea05c662ec0b97d0dbc7315465540808bbae1fce4fe54f4cd1"), looks := true }, kinds := [], alts := [], laidByText := true, laidKinds := [.data, .data, .data, .data, .sentinel, .sentinel, .sentinel, .sentinel, .pinned], laidTests := true, laidLooks := .later }
def FnTruncatedCardSaid : Prop := Claim7.holds Tryd.pinned (.plain (OpenSpec.ofChange fnTruncatedSpec)) fnTruncatedCard

/-- THE TIED CARD OF 'laws.FnCompareRequest'. -/
def fnCompareRequestCard : Claim7 := { stood := { row := fnCompareRequestRow, standIns := [], harness := (true, "22f740356f9ca4ea05c662ec0b97d0dbc7315465540808bbae1fce4fe54f4cd1"), looks := true }, kinds := [], alts := [], laidByText := true, laidKinds := [.sentinel], laidTests := true, laidLooks := .later }
def FnCompareRequestCardSaid : Prop := Claim7.holds Tryd.pinned (.plain (OpenSpec.ofChange fnCompareRequestSpec)) fnCompareRequestCard

/-- THE TIED CARD OF 'laws.FnRename'. -/
def fnRenameCard : Claim7 := { stood := { row := fnRenameRow, standIns := [], harness := (true, "22f740356f9ca4ea05c662ec0b97d0dbc7315465540808bbae1fce4fe54f4cd1"), looks := true }, kinds := [], alts := [], laidByText := true, laidKinds := [.sentinel], laidTests := true, laidLooks := .later }
def FnRenameCardSaid : Prop := Claim7.holds Tryd.pinned (.plain (OpenSpec.ofChange fnRenameSpec)) fnRenameCard

/-- THE TIED CARD OF 'laws.FnBind'. -/
def fnBindCard : Claim7 := { stood := { row := fnBindRow, standIns := [], harness := (true, "22f740356f9ca4ea05c662ec0b97d0dbc7315465540808bbae1fce4fe54f4cd1"), looks := true }, kinds := [], alts := [], laidByText := true, laidKinds := [.sentinel], laidTests := true, laidLooks := .later }
def FnBindCardSaid : Prop := Claim7.holds Tryd.pinned (.plain (OpenSpec.ofChange fnBindSpec)) fnBindCard

/-- THE TIED CARD OF 'laws.FnModify'. -/
def fnModifyCard : Claim7 := { stood := { row := fnModifyRow, standIns := [], harness := (true, "22f740356f9ca4ea05c662ec0b97d0dbc7315465540808bbae1fce4fe54f4cd1"), looks := true }, kinds := [], alts := [], laidByText := true, laidKinds := [.sentinel], laidTests := true, laidLooks := .later }
def FnModifyCardSaid : Prop := Claim7.holds Tryd.pinned (.plain (OpenSpec.ofChange fnModifySpec)) fnModifyCard

/-- THE TIED CARD OF 'laws.FnSearch'. -/
def fnSearchCard : Claim7 := { stood := { row := fnSearchRow, standIns := [], harness := (true, "22f740356f9ca4ea05c662ec0b97d0dbc7315465540808bbae1fce4fe54f4cd1"), looks := true }, kinds := [], alts := [], laidByText := true, laidKinds := [.sentinel], laidTests := true, laidLooks := .later }
def FnSearchCardSaid : Prop := Claim7.holds Tryd.pinned (.plain (OpenSpec.ofChange fnSearchSpec)) fnSearchCard

/-- THE TIED CARD OF 'laws.FnExtended'. -/
def fnExtendedCard : Claim7 := { stood := { row := fnExtendedRow, standIns := [], harness := (true, "22f740356f9ca4ea05c662ec0b97d0dbc7315465540808bbae1fce4fe54f4cd1"), looks := true }, kinds := [], alts := [], laidByText := true, laidKinds := [.sentinel], laidTests := true, laidLooks := .later }
def FnExtendedCardSaid : Prop := Claim7.holds Tryd.pinned (.plain (OpenSpec.ofChange fnExtendedSpec)) fnExtendedCard

/-- THE TIED CARD OF 'laws.FnAdd'. -/
def fnAddCard : Claim7 := { stood := { row := fnAddRow, standIns := [], harness := (true, "22f740356f9ca4ea05c662ec0b97d0dbc7315465540808bbae1fce4fe54f4cd1"), looks := true }, kinds := [], alts := [], laidByText := true, laidKinds := [.sentinel], laidTests := true, laidLooks := .later }
def FnAddCardSaid : Prop := Claim7.holds Tryd.pinned (.plain (OpenSpec.ofChange fnAddSpec)) fnAddCard

/-- THE TIED CARD OF 'laws.FnMessage'. -/
def fnMessageCard : Claim7 := { stood := { row := fnMessageRow, standIns := [], harness := (true, "22f740356f9ca4ea05c662ec0b97d0dbc7315465540808bbae1fce4fe54f4cd1"), looks := true }, kinds := [], alts := [], laidByText := true, laidKinds := [.sentinel], laidTests := true, laidLooks := .later }
def FnMessageCardSaid : Prop := Claim7.holds Tryd.pinned (.plain (OpenSpec.ofChange fnMessageSpec)) fnMessageCard

/-- THE SECOND FORM's CARD OF 'laws.FnEncode'. -/
def fnEncodeUptoCard : Claim7 := { stood := { row := fnEncodeUptoRow, standIns := [], harness := (true, "22f740356f9ca4ea05c662ec0b97d0dbc7315465540808bbae1fce4fe54f4cd1"), looks := true }, kinds := [], alts := [], laidByText := true, laidKinds := [.sentinel], laidTests := true, laidLooks := .later }
def FnEncodeUptoCardSaid : Prop := Claim7.holds Tryd.pinned (.plain (OpenSpec.upto fnEncodeSpec)) fnEncodeUptoCard

/-- THE SECOND FORM's CARD OF 'laws.FnInteger'. -/
def fnIntegerUptoCard : Claim7 := { stood := { row := fnIntegerUptoRow, standIns := [], harness := (true, "22f740356f9ca4ea05c662ec0b97d0dbc7315465540808bbae1fce4fe54f4cd1"), looks := true }, kinds := [], alts := [], laidByText := true, laidKinds := [.sentinel], laidTests := true, laidLooks := .later }
def FnIntegerUptoCardSaid : Prop := Claim7.holds Tryd.pinned (.plain (OpenSpec.upto fnIntegerSpec)) fnIntegerUptoCard

/-- THE SECOND FORM's CARD OF 'laws.FnEqualDN'. -/
def fnEqualDNUptoCard : Claim7 := { stood := { row := fnEqualDNUptoRow, standIns := [], harness := (true, "22f740356f9ca4ea05c662ec0b97d0dbc7315465540808bbae1fce4fe54f4cd1"), looks := true }, kinds := [], alts := [], laidByText := true, laidKinds := [.data, .data, .data, .pinned, .pinned], laidTests := true, laidLooks := .later }
def FnEqualDNUptoCardSaid : Prop := Claim7.holds Tryd.pinned (.plain (OpenSpec.upto fnEqualDNSpec)) fnEqualDNUptoCard

/-- THE SECOND FORM's CARD OF 'laws.FnAncestorDN'. -/
def fnAncestorDNUptoCard : Claim7 := { stood := { row := fnAncestorDNUptoRow, standIns := [], harness := (true, "22f740356f9ca4ea05c662ec0b97d0dbc7315465540808bbae1fce4fe54f4cd1"), looks := true }, kinds := [], alts := [], laidByText := true, laidKinds := [.data, .data, .data, .pinned, .pinned], laidTests := true, laidLooks := .later }
def FnAncestorDNUptoCardSaid : Prop := Claim7.holds Tryd.pinned (.plain (OpenSpec.upto fnAncestorDNSpec)) fnAncestorDNUptoCard

/-- THE SECOND FORM's CARD OF 'laws.FnDecompile'. -/
def fnDecompileUptoCard : Claim7 := { stood := { row := fnDecompileUptoRow, standIns := [], harness := (true, "22f740356f9ca4ea05c662ec0b97d0dbc7315465540808bbae1fce4fe54f4cd1"), looks := true }, kinds := [], alts := [], laidByText := true, laidKinds := [.sentinel], laidTests := true, laidLooks := .later }
def FnDecompileUptoCardSaid : Prop := Claim7.holds Tryd.pinned (.plain (OpenSpec.upto fnDecompileSpec)) fnDecompileUptoCard

/-- THE SECOND FORM's CARD OF 'laws.FnCompile'. -/
def fnCompileUptoCard : Claim7 := { stood := { row := fnCompileUptoRow, standIns := [], harness := (true, "22f740356f9ca4ea05c662ec0b97d0dbc7315465540808bbae1fce4fe54f4cd1"), looks := true }, kinds := [], alts := [], laidByText := true, laidKinds := [.data, .sentinel, .sentinel, .sentinel, .sentinel, .sentinel, .pinned], laidTests := true, laidLooks := .later }
def FnCompileUptoCardSaid : Prop := Claim7.holds Tryd.pinned (.plain (OpenSpec.upto fnCompileSpec)) fnCompileUptoCard

/-- THE SECOND FORM's CARD OF 'laws.FnCutFilter'. -/
def fnCutFilterUptoCard : Claim7 := { stood := { row := fnCutFilterUptoRow, standIns := [], harness := (true, "22f740356f9ca4ea05c662ec0b97d0dbc7315465540808bbae1fce4fe54f4cd1"), looks := true }, kinds := [], alts := [], laidByText := true, laidKinds := [.data, .sentinel, .sentinel, .sentinel, .sentinel, .sentinel, .pinned], laidTests := true, laidLooks := .later }
def FnCutFilterUptoCardSaid : Prop := Claim7.holds Tryd.pinned (.plain (OpenSpec.upto fnCutFilterSpec)) fnCutFilterUptoCard

/-- THE SECOND FORM's CARD OF 'laws.FnHex'. -/
def fnHexUptoCard : Claim7 := { stood := { row := fnHexUptoRow, standIns := [], harness := (true, "22f740356f9ca4ea05c662ec0b97d0dbc7315465540808bbae1fce4fe54f4cd1"), looks := true }, kinds := [], alts := [], laidByText := true, laidKinds := [.data, .sentinel, .sentinel, .sentinel, .sentinel, .sentinel, .pinned], laidTests := true, laidLooks := .later }
def FnHexUptoCardSaid : Prop := Claim7.holds Tryd.pinned (.plain (OpenSpec.upto fnHexSpec)) fnHexUptoCard

/-- THE SECOND FORM's CARD OF 'laws.FnFilterBack'. -/
def fnFilterBackUptoCard : Claim7 := { stood := { row := fnFilterBackUptoRow, standIns := [], harness := (true, "22f740356f9ca4ea05c662ec0b97d0dbc7315465540808bbae1fce4fe54f4cd1"), looks := true }, kinds := [], alts := [], laidByText := true, laidKinds := [.data, .sentinel, .sentinel, .sentinel, .sentinel, .sentinel, .pinned], laidTests := true, laidLooks := .later }
def FnFilterBackUptoCardSaid : Prop := Claim7.holds Tryd.pinned (.plain (OpenSpec.upto fnFilterBackSpec)) fnFilterBackUptoCard

/-- THE SECOND FORM's CARD OF 'laws.FnDecode'. -/
def fnDecodeUptoCard : Claim7 := { stood := { row := fnDecodeUptoRow, standIns := [], harness := (true, "22f740356f9ca4ea05c662ec0b97d0dbc7315465540808bbae1fce4fe54f4cd1"), looks := true }, kinds := [], alts := [], laidByText := true, laidKinds := [.data, .data, .data, .data, .sentinel, .sentinel, .sentinel, .sentinel, .pinned], laidTests := true, laidLooks := .later }
def FnDecodeUptoCardSaid : Prop := Claim7.holds Tryd.pinned (.plain (OpenSpec.upto fnDecodeSpec)) fnDecodeUptoCard

/-- THE SECOND FORM's CARD OF 'laws.FnDecodeAny'. -/
def fnDecodeAnyUptoCard : Claim7 := { stood := { row := fnDecodeAnyUptoRow, standIns := [], harness := (true, "22f740356f9ca4ea05c662ec0b97d0dbc7315465540808bbae1fce4fe54f4cd1"), looks := true }, kinds := [], alts := [], laidByText := true, laidKinds := [.data, .data, .data, .data, .sentinel, .sentinel, .sentinel, .sentinel, .pinned], laidTests := true, laidLooks := .later }
def FnDecodeAnyUptoCardSaid : Prop := Claim7.holds Tryd.pinned (.plain (OpenSpec.upto fnDecodeAnySpec)) fnDecodeAnyUptoCard

/-- THE SECOND FORM's CARD OF 'laws.FnTruncated'. -/
def fnTruncatedUptoCard : Claim7 := { stood := { row := fnTruncatedUptoRow, standIns := [], harness := (true, "22f740356f9ca4ea05c662ec0b97d0dbc7315465540808bbae1fce4fe54f4cd1"), looks := true }, kinds := [], alts := [], laidByText := true, laidKinds := [.data, .data, .data, .data, .sentinel, .sentinel, .sentinel, .sentinel, .pinned], laidTests := true, laidLooks := .later }
def FnTruncatedUptoCardSaid : Prop := Claim7.holds Tryd.pinned (.plain (OpenSpec.upto fnTruncatedSpec)) fnTruncatedUptoCard

/-- THE SECOND FORM's CARD OF 'laws.FnCompareRequest'. -/
def fnCompareRequestUptoCard : Claim7 := { stood := { row := fnCompareRequestUptoRow, standIns := [], harness := (true, "22f740356f9ca4ea05c662ec0b97d0dbc7315465540808bbae1fce4fe54f4cd1"), looks := true }, kinds := [], alts := [], laidByText := true, laidKinds := [.sentinel], laidTests := true, laidLooks := .later }
def FnCompareRequestUptoCardSaid : Prop := Claim7.holds Tryd.pinned (.plain (OpenSpec.upto fnCompareRequestSpec)) fnCompareRequestUptoCard

/-- THE SECOND FORM's CARD OF 'laws.FnRename'. -/
def fnRenameUptoCard : Claim7 := { stood := { row := fnRenameUptoRow, standIns := [], harness := (true, "22f740356f9ca4ea05c662ec0b97d0dbc7315465540808bbae1fce4fe54f4cd1"), looks := true }, kinds := [], alts := [], laidByText := true, laidKinds := [.sentinel], laidTests := true, laidLooks := .later }
def FnRenameUptoCardSaid : Prop := Claim7.holds Tryd.pinned (.plain (OpenSpec.upto fnRenameSpec)) fnRenameUptoCard

/-- THE SECOND FORM's CARD OF 'laws.FnBind'. -/
def fnBindUptoCard : Claim7 := { stood := { row := fnBindUptoRow, standIns := [], harness := (true, "22f740356f9ca4ea05c662ec0b97d0dbc7315465540808bbae1fce4fe54f4cd1"), looks := true }, kinds := [], alts := [], laidByText := true, laidKinds := [.sentinel], laidTests := true, laidLooks := .later }
def FnBindUptoCardSaid : Prop := Claim7.holds Tryd.pinned (.plain (OpenSpec.upto fnBindSpec)) fnBindUptoCard

/-- THE SECOND FORM's CARD OF 'laws.FnModify'. -/
def fnModifyUptoCard : Claim7 := { stood := { row := fnModifyUptoRow, standIns := [], harness := (true, "22f740356f9ca4ea05c662ec0b97d0dbc7315465540808bbae1fce4fe54f4cd1"), looks := true }, kinds := [], alts := [], laidByText := true, laidKinds := [.sentinel], laidTests := true, laidLooks := .later }
def FnModifyUptoCardSaid : Prop := Claim7.holds Tryd.pinned (.plain (OpenSpec.upto fnModifySpec)) fnModifyUptoCard

/-- THE SECOND FORM's CARD OF 'laws.FnSearch'. -/
def fnSearchUptoCard : Claim7 := { stood := { row := fnSearchUptoRow, standIns := [], harness := (true, "22f740356f9ca4ea05c662ec0b97d0dbc7315465540808bbae1fce4fe54f4cd1"), looks := true }, kinds := [], alts := [], laidByText := true, laidKinds := [.sentinel], laidTests := true, laidLooks := .later }
def FnSearchUptoCardSaid : Prop := Claim7.holds Tryd.pinned (.plain (OpenSpec.upto fnSearchSpec)) fnSearchUptoCard

/-- THE SECOND FORM's CARD OF 'laws.FnExtended'. -/
def fnExtendedUptoCard : Claim7 := { stood := { row := fnExtendedUptoRow, standIns := [], harness := (true, "22f740356f9ca4ea05c662ec0b97d0dbc7315465540808bbae1fce4fe54f4cd1"), looks := true }, kinds := [], alts := [], laidByText := true, laidKinds := [.sentinel], laidTests := true, laidLooks := .later }
def FnExtendedUptoCardSaid : Prop := Claim7.holds Tryd.pinned (.plain (OpenSpec.upto fnExtendedSpec)) fnExtendedUptoCard

/-- THE SECOND FORM's CARD OF 'laws.FnAdd'. -/
def fnAddUptoCard : Claim7 := { stood := { row := fnAddUptoRow, standIns := [], harness := (true, "22f740356f9ca4ea05c662ec0b97d0dbc7315465540808bbae1fce4fe54f4cd1"), looks := true }, kinds := [], alts := [], laidByText := true, laidKinds := [.sentinel], laidTests := true, laidLooks := .later }
def FnAddUptoCardSaid : Prop := Claim7.holds Tryd.pinned (.plain (OpenSpec.upto fnAddSpec)) fnAddUptoCard

/-- THE SECOND FORM's CARD OF 'laws.FnMessage'. -/
def fnMessageUptoCard : Claim7 := { stood := { row := fnMessageUptoRow, standIns := [], harness := (true, "22f740356f9ca4ea05c662ec0b97d0dbc7315465540808bbae1fce4fe54f4cd1"), looks := true }, kinds := [], alts := [], laidByText := true, laidKinds := [.sentinel], laidTests := true, laidLooks := .later }
def FnMessageUptoCardSaid : Prop := Claim7.holds Tryd.pinned (.plain (OpenSpec.upto fnMessageSpec)) fnMessageUptoCard
end Rows
end Go.Proofs.YtkegpljmfgjkaaaDoor
