/-
  DERIVED. GIVEN WITH THE SEED: THE CARDS: each row of YtejbpbdlolehnaaDoorRows.lean that lists a variable, with what it lists TIED to the program's text (the seventh form; the later family's looks); each row that meets fmt, with fmt's text TOLD by the authors' own Lean function (tested against real Go, not proved from fmt's source: count such statements apart). THE CARD IS WHAT COUNTS. Prove the row's statement (the work); the ties are given (YtejbpbdlolehnaaDoorTie.lean); close each card by the builder's one call (the guide's Derived/Test/ToyasCard.lean, 'card_holds'). Laid BY PROGRAM, IN A SANDBOX (cutbox-door.mjs). By AI agents, Wed Nov 11 2026. No macro, syntax, notation, axiom, sorry.
-/
import Derived.Test.YtejbpbdlolehnaaDoorRows
import GoSem.ClaimSeven
namespace Go.Proofs.YtejbpbdlolehnaaDoor
namespace Rows

/-- THE TIED CARD OF 'laws.FnDecode'. -/
def fnDecodeCard : Claim7 := { stood := { row := fnDecodeRow, standIns := [], harness := (true, "f6f54f19e263565cd724092b73faaa59e3c1b326412c6dafbcb0138ee68ec120"), looks := true }, kinds := [], alts := [], laidByText := true, laidKinds := [.data, .data, .data, .data, .sentinel, .sentinel, .sentinel, .sentinel, .pinned], laidTests := true, laidLooks := .later }
def FnDecodeCardSaid : Prop := Claim7.holds Tryd.pinned (.plain (OpenSpec.ofChange fnDecodeSpec)) fnDecodeCard

/-- THE TIED CARD OF 'laws.FnDecodeAny'. -/
def fnDecodeAnyCard : Claim7 := { stood := { row := fnDecodeAnyRow, standIns := [], harness := (true, "f6f54f19e263565cd724092b73faaa59e3c1b326412c6dafbcb0138ee68ec120"), looks := true }, kinds := [], alts := [], laidByText := true, laidKinds := [.data, .data, .data, .data, .sentinel, .sentinel, .sentinel, .sentinel, .pinned], laidTests := true, laidLooks := .later }
def FnDecodeAnyCardSaid : Prop := Claim7.holds Tryd.pinned (.plain (OpenSpec.ofChange fnDecodeAnySpec)) fnDecodeAnyCard

/-- THE TIED CARD OF 'laws.FnTruncated'. -/
def fnTruncatedCard : Claim7 := { stood := { row := fnTruncatedRow, standIns := [], harness := (true, "f6f54f19e263565cd724092b73faaa59e3c1b326412c6dafbcb0138ee68ec120"), looks := true }, kinds := [], alts := [], laidByText := true, laidKinds := [.data, .data, .data, .data, .sentinel, .sentinel, .sentinel, .sentinel, .pinned], laidTests := true, laidLooks := .later }
def FnTruncatedCardSaid : Prop := Claim7.holds Tryd.pinned (.plain (OpenSpec.ofChange fnTruncatedSpec)) fnTruncatedCard

/-- THE SECOND FORM's CARD OF 'laws.FnDecode'. -/
def fnDecodeUptoCard : Claim7 := { stood := { row := fnDecodeUptoRow, standIns := [], harness := (true, "f6f54f19e263565cd724092b73faaa59e3c1b326412c6dafbcb0138ee68ec120"), looks := true }, kinds := [], alts := [], laidByText := true, laidKinds := [.data, .data, .data, .data, .sentinel, .sentinel, .sentinel, .sentinel, .pinned], laidTests := true, laidLooks := .later }
def FnDecodeUptoCardSaid : Prop := Claim7.holds Tryd.pinned (.plain (OpenSpec.upto fnDecodeSpec)) fnDecodeUptoCard

/-- THE SECOND FORM's CARD OF 'laws.FnDecodeAny'. -/
def fnDecodeAnyUptoCard : Claim7 := { stood := { row := fnDecodeAnyUptoRow, standIns := [], harness := (true, "f6f54f19e263565cd724092b73faaa59e3c1b326412c6dafbcb0138ee68ec120"), looks := true }, kinds := [], alts := [], laidByText := true, laidKinds := [.data, .data, .data, .data, .sentinel, .sentinel, .sentinel, .sentinel, .pinned], laidTests := true, laidLooks := .later }
def FnDecodeAnyUptoCardSaid : Prop := Claim7.holds Tryd.pinned (.plain (OpenSpec.upto fnDecodeAnySpec)) fnDecodeAnyUptoCard

/-- THE SECOND FORM's CARD OF 'laws.FnTruncated'. -/
def fnTruncatedUptoCard : Claim7 := { stood := { row := fnTruncatedUptoRow, standIns := [], harness := (true, "f6f54f19e263565cd724092b73faaa59e3c1b326412c6dafbcb0138ee68ec120"), looks := true }, kinds := [], alts := [], laidByText := true, laidKinds := [.data, .data, .data, .data, .sentinel, .sentinel, .sentinel, .sentinel, .pinned], laidTests := true, laidLooks := .later }
def FnTruncatedUptoCardSaid : Prop := Claim7.holds Tryd.pinned (.plain (OpenSpec.upto fnTruncatedSpec)) fnTruncatedUptoCard
end Rows
end Go.Proofs.YtejbpbdlolehnaaDoor
