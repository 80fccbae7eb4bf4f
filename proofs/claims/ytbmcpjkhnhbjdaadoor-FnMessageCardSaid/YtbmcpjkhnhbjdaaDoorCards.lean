/-
  DERIVED. GIVEN WITH THE SEED: THE CARDS: each row of YtbmcpjkhnhbjdaaDoorRows.lean that lists a variable, with what it lists TIED to the program's text (the seventh form; the later family's looks); each row that meets fmt, with fmt's text TOLD by the authors' own Lean function (tested against real Go, not proved from fmt's source: count such statements apart). THE CARD IS WHAT COUNTS. Prove the row's statement (the work); the ties are given (YtbmcpjkhnhbjdaaDoorTie.lean); close each card by the builder's one call (the guide's Derived/Test/ToyasCard.lean, 'card_holds'). Laid BY PROGRAM, IN A SANDBOX (cutbox-door.mjs). By AI agents, Wed Nov 11 2026. No macro, syntax, notation, axiom, sorry.
-/
import Derived.Test.YtbmcpjkhnhbjdaaDoorRows
import GoSem.ClaimSeven
namespace Go.Proofs.YtbmcpjkhnhbjdaaDoor
namespace Rows

/-- THE TIED CARD OF 'laws.FnCompareRequest'. -/
def fnCompareRequestCard : Claim7 := { stood := { row := fnCompareRequestRow, standIns := [], harness := (true, "02e7ab89ffa108ae3204427b224f76f33429535afac2a54c8e9935a69e6f7323"), looks := true }, kinds := [], alts := [], laidByText := true, laidKinds := [.sentinel], laidTests := true, laidLooks := .later }
def FnCompareRequestCardSaid : Prop := Claim7.holds Tryd.pinned (.plain (OpenSpec.ofChange fnCompareRequestSpec)) fnCompareRequestCard

/-- THE TIED CARD OF 'laws.FnRename'. -/
def fnRenameCard : Claim7 := { stood := { row := fnRenameRow, standIns := [], harness := (true, "02e7ab89ffa108ae3204427b224f76f33429535afac2a54c8e9935a69e6f7323"), looks := true }, kinds := [], alts := [], laidByText := true, laidKinds := [.sentinel], laidTests := true, laidLooks := .later }
def FnRenameCardSaid : Prop := Claim7.holds Tryd.pinned (.plain (OpenSpec.ofChange fnRenameSpec)) fnRenameCard

/-- THE TIED CARD OF 'laws.FnBind'. -/
def fnBindCard : Claim7 := { stood := { row := fnBindRow, standIns := [], harness := (true, "02e7ab89ffa108ae3204427b224f76f33429535afac2a54c8e9935a69e6f7323"), looks := true }, kinds := [], alts := [], laidByText := true, laidKinds := [.sentinel], laidTests := true, laidLooks := .later }
def FnBindCardSaid : Prop := Claim7.holds Tryd.pinned (.plain (OpenSpec.ofChange fnBindSpec)) fnBindCard

/-- THE TIED CARD OF 'laws.FnModify'. -/
def fnModifyCard : Claim7 := { stood := { row := fnModifyRow, standIns := [], harness := (true, "02e7ab89ffa108ae3204427b224f76f33429535afac2a54c8e9935a69e6f7323"), looks := true }, kinds := [], alts := [], laidByText := true, laidKinds := [.sentinel], laidTests := true, laidLooks := .later }
def FnModifyCardSaid : Prop := Claim7.holds Tryd.pinned (.plain (OpenSpec.ofChange fnModifySpec)) fnModifyCard

/-- THE TIED CARD OF 'laws.FnExtended'. -/
def fnExtendedCard : Claim7 := { stood := { row := fnExtendedRow, standIns := [], harness := (true, "02e7ab89ffa108ae3204427b224f76f33429535afac2a54c8e9935a69e6f7323"), looks := true }, kinds := [], alts := [], laidByText := true, laidKinds := [.sentinel], laidTests := true, laidLooks := .later }
def FnExtendedCardSaid : Prop := Claim7.holds Tryd.pinned (.plain (OpenSpec.ofChange fnExtendedSpec)) fnExtendedCard

/-- THE TIED CARD OF 'laws.FnAdd'. -/
def fnAddCard : Claim7 := { stood := { row := fnAddRow, standIns := [], harness := (true, "02e7ab89ffa108ae3204427b224f76f33429535afac2a54c8e9935a69e6f7323"), looks := true }, kinds := [], alts := [], laidByText := true, laidKinds := [.sentinel], laidTests := true, laidLooks := .later }
def FnAddCardSaid : Prop := Claim7.holds Tryd.pinned (.plain (OpenSpec.ofChange fnAddSpec)) fnAddCard

/-- THE TIED CARD OF 'laws.FnMessage'. -/
def fnMessageCard : Claim7 := { stood := { row := fnMessageRow, standIns := [], harness := (true, "02e7ab89ffa108ae3204427b224f76f33429535afac2a54c8e9935a69e6f7323"), looks := true }, kinds := [], alts := [], laidByText := true, laidKinds := [.sentinel], laidTests := true, laidLooks := .later }
def FnMessageCardSaid : Prop := Claim7.holds Tryd.pinned (.plain (OpenSpec.ofChange fnMessageSpec)) fnMessageCard

/-- THE SECOND FORM's CARD OF 'laws.FnCompareRequest'. -/
def fnCompareRequestUptoCard : Claim7 := { stood := { row := fnCompareRequestUptoRow, standIns := [], harness := (true, "02e7ab89ffa108ae3204427b224f76f33429535afac2a54c8e9935a69e6f7323"), looks := true }, kinds := [], alts := [], laidByText := true, laidKinds := [.sentinel], laidTests := true, laidLooks := .later }
def FnCompareRequestUptoCardSaid : Prop := Claim7.holds Tryd.pinned (.plain (OpenSpec.upto fnCompareRequestSpec)) fnCompareRequestUptoCard

/-- THE SECOND FORM's CARD OF 'laws.FnRename'. -/
def fnRenameUptoCard : Claim7 := { stood := { row := fnRenameUptoRow, standIns := [], harness := (true, "02e7ab89ffa108ae3204427b224f76f33429535afac2a54c8e9935a69e6f7323"), looks := true }, kinds := [], alts := [], laidByText := true, laidKinds := [.sentinel], laidTests := true, laidLooks := .later }
def FnRenameUptoCardSaid : Prop := Claim7.holds Tryd.pinned (.plain (OpenSpec.upto fnRenameSpec)) fnRenameUptoCard

/-- THE SECOND FORM's CARD OF 'laws.FnBind'. -/
def fnBindUptoCard : Claim7 := { stood := { row := fnBindUptoRow, standIns := [], harness := (true, "02e7ab89ffa108ae3204427b224f76f33429535afac2a54c8e9935a69e6f7323"), looks := true }, kinds := [], alts := [], laidByText := true, laidKinds := [.sentinel], laidTests := true, laidLooks := .later }
def FnBindUptoCardSaid : Prop := Claim7.holds Tryd.pinned (.plain (OpenSpec.upto fnBindSpec)) fnBindUptoCard

/-- THE SECOND FORM's CARD OF 'laws.FnModify'. -/
def fnModifyUptoCard : Claim7 := { stood := { row := fnModifyUptoRow, standIns := [], harness := (true, "02e7ab89ffa108ae3204427b224f76f33429535afac2a54c8e9935a69e6f7323"), looks := true }, kinds := [], alts := [], laidByText := true, laidKinds := [.sentinel], laidTests := true, laidLooks := .later }
def FnModifyUptoCardSaid : Prop := Claim7.holds Tryd.pinned (.plain (OpenSpec.upto fnModifySpec)) fnModifyUptoCard

/-- THE SECOND FORM's CARD OF 'laws.FnExtended'. -/
def fnExtendedUptoCard : Claim7 := { stood := { row := fnExtendedUptoRow, standIns := [], harness := (true, "02e7ab89ffa108ae3204427b224f76f33429535afac2a54c8e9935a69e6f7323"), looks := true }, kinds := [], alts := [], laidByText := true, laidKinds := [.sentinel], laidTests := true, laidLooks := .later }
def FnExtendedUptoCardSaid : Prop := Claim7.holds Tryd.pinned (.plain (OpenSpec.upto fnExtendedSpec)) fnExtendedUptoCard

/-- THE SECOND FORM's CARD OF 'laws.FnAdd'. -/
def fnAddUptoCard : Claim7 := { stood := { row := fnAddUptoRow, standIns := [], harness := (true, "02e7ab89ffa108ae3204427b224f76f33429535afac2a54c8e9935a69e6f7323"), looks := true }, kinds := [], alts := [], laidByText := true, laidKinds := [.sentinel], laidTests := true, laidLooks := .later }
def FnAddUptoCardSaid : Prop := Claim7.holds Tryd.pinned (.plain (OpenSpec.upto fnAddSpec)) fnAddUptoCard

/-- THE SECOND FORM's CARD OF 'laws.FnMessage'. -/
def fnMessageUptoCard : Claim7 := { stood := { row := fnMessageUptoRow, standIns := [], harness := (true, "02e7ab89ffa108ae3204427b224f76f33429535afac2a54c8e9935a69e6f7323"), looks := true }, kinds := [], alts := [], laidByText := true, laidKinds := [.sentinel], laidTests := true, laidLooks := .later }
def FnMessageUptoCardSaid : Prop := Claim7.holds Tryd.pinned (.plain (OpenSpec.upto fnMessageSpec)) fnMessageUptoCard
end Rows
end Go.Proofs.YtbmcpjkhnhbjdaaDoor
