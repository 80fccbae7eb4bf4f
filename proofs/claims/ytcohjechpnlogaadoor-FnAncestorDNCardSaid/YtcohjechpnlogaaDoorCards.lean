/-
  DERIVED. GIVEN WITH THE SEED: THE CARDS: each row of YtcohjechpnlogaaDoorRows.lean that lists a variable, with what it lists TIED to the program's text (the seventh form; the later family's looks); each row that meets fmt, with fmt's text TOLD by the authors' own Lean function (tested against real Go, not proved from fmt's source: count such statements apart). THE CARD IS WHAT COUNTS. Prove the row's statement (the work); the ties are given (YtcohjechpnlogaaDoorTie.lean); close each card by the builder's one call (the guide's Derived/Test/ToyasCard.lean, 'card_holds'). Laid BY PROGRAM, IN A SANDBOX (cutbox-door.mjs). By AI agents, Wed Nov 11 2026. No macro, syntax, notation, axiom, sorry.
-/
import Derived.Test.YtcohjechpnlogaaDoorRows
import GoSem.ClaimSeven
namespace Go.Proofs.YtcohjechpnlogaaDoor
namespace Rows

/-- THE TIED CARD OF 'laws.FnEncode'. -/
def fnEncodeCard : Claim7 := { stood := { row := fnEncodeRow, standIns := [], harness := (true, "42dcf155809458b9b515edd389fb787d98e5d4db690a37c35e0a39b92e18ddd1"), looks := true }, kinds := [], alts := [], laidByText := true, laidKinds := [.sentinel], laidTests := true, laidLooks := .later }
def FnEncodeCardSaid : Prop := Claim7.holds Tryd.pinned (.plain (OpenSpec.ofChange fnEncodeSpec)) fnEncodeCard

/-- THE TIED CARD OF 'laws.FnEqualDN'. -/
def fnEqualDNCard : Claim7 := { stood := { row := fnEqualDNRow, standIns := [], harness := (true, "42dcf155809458b9b515edd389fb787d98e5d4db690a37c35e0a39b92e18ddd1"), looks := true }, kinds := [], alts := [], laidByText := true, laidKinds := [.data, .data, .data, .pinned, .pinned], laidTests := true, laidLooks := .later }
def FnEqualDNCardSaid : Prop := Claim7.holds Tryd.pinned (.plain (OpenSpec.ofChange fnEqualDNSpec)) fnEqualDNCard

/-- THE TIED CARD OF 'laws.FnAncestorDN'. -/
def fnAncestorDNCard : Claim7 := { stood := { row := fnAncestorDNRow, standIns := [], harness := (true, "42dcf155809458b9b515edd389fb787d98e5d4db690a37c35e0a39b92e18ddd1"), looks := true }, kinds := [], alts := [], laidByText := true, laidKinds := [.data, .data, .data, .pinned, .pinned], laidTests := true, laidLooks := .later }
def FnAncestorDNCardSaid : Prop := Claim7.holds Tryd.pinned (.plain (OpenSpec.ofChange fnAncestorDNSpec)) fnAncestorDNCard

/-- THE SECOND FORM's CARD OF 'laws.FnEncode'. -/
def fnEncodeUptoCard : Claim7 := { stood := { row := fnEncodeUptoRow, standIns := [], harness := (true, "42dcf155809458b9b515edd389fb787d98e5d4db690a37c35e0a39b92e18ddd1"), looks := true }, kinds := [], alts := [], laidByText := true, laidKinds := [.sentinel], laidTests := true, laidLooks := .later }
def FnEncodeUptoCardSaid : Prop := Claim7.holds Tryd.pinned (.plain (OpenSpec.upto fnEncodeSpec)) fnEncodeUptoCard

/-- THE SECOND FORM's CARD OF 'laws.FnEqualDN'. -/
def fnEqualDNUptoCard : Claim7 := { stood := { row := fnEqualDNUptoRow, standIns := [], harness := (true, "42dcf155809458b9b515edd389fb787d98e5d4db690a37c35e0a39b92e18ddd1"), looks := true }, kinds := [], alts := [], laidByText := true, laidKinds := [.data, .data, .data, .pinned, .pinned], laidTests := true, laidLooks := .later }
def FnEqualDNUptoCardSaid : Prop := Claim7.holds Tryd.pinned (.plain (OpenSpec.upto fnEqualDNSpec)) fnEqualDNUptoCard

/-- THE SECOND FORM's CARD OF 'laws.FnAncestorDN'. -/
def fnAncestorDNUptoCard : Claim7 := { stood := { row := fnAncestorDNUptoRow, standIns := [], harness := (true, "42dcf155809458b9b515edd389fb787d98e5d4db690a37c35e0a39b92e18ddd1"), looks := true }, kinds := [], alts := [], laidByText := true, laidKinds := [.data, .data, .data, .pinned, .pinned], laidTests := true, laidLooks := .later }
def FnAncestorDNUptoCardSaid : Prop := Claim7.holds Tryd.pinned (.plain (OpenSpec.upto fnAncestorDNSpec)) fnAncestorDNUptoCard
end Rows
end Go.Proofs.YtcohjechpnlogaaDoor
