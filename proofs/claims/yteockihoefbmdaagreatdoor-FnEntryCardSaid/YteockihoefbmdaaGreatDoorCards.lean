/-
  DERIVED. GIVEN WITH THE SEED: THE CARDS: each row of YteockihoefbmdaaGreatDoorRows.lean that lists a variable, with what it lists TIED to the program's text (the seventh form; the later family's looks); each row that meets fmt, with fmt's text TOLD by the authors' own Lean function (tested against real Go, not proved from fmt's source: count such statements apart). THE CARD IS WHAT COUNTS. Prove the row's statement (the work); the ties are given (YteockihoefbmdaaGreatDoorTie.lean); close each card by the builder's one call (the guide's Derived/Test/ToyasCard.lean, 'card_holds'). Laid BY PROGRAM, IN A SANDBOX (cutbox-door.mjs). By AI agents, Wed Nov 11 2026. No macro, syntax, notation, axiom, sorry.
-/
import Derived.Test.YteockihoefbmdaaGreatDoorRows
import GoSem.ClaimSeven
namespace Go.Proofs.YteockihoefbmdaaGreatDoor
namespace Rows

/-- THE TIED CARD OF 'laws.FnAnswer'. -/
def fnAnswerCard : Claim7 := { stood := { row := fnAnswerRow, standIns := [], harness := (true, "9e6c44ffed3591a6264cd7809d16a67d7f2db978333cc552d58d0756ec986c79"), looks := true }, kinds := [], alts := [], laidByText := true, laidKinds := [.data, .data, .data, .data, .sentinel, .sentinel, .sentinel, .sentinel, .sentinel, .sentinel, .pinned], laidTests := true, laidLooks := .later }
def FnAnswerCardSaid : Prop := Claim7.holds Tryz.pinned (.plain (OpenSpec.ofChange fnAnswerSpec)) fnAnswerCard

/-- THE TIED CARD OF 'laws.FnControl'. -/
def fnControlCard : Claim7 := { stood := { row := fnControlRow, standIns := [], harness := (true, "9e6c44ffed3591a6264cd7809d16a67d7f2db978333cc552d58d0756ec986c79"), looks := true }, kinds := [], alts := [], laidByText := true, laidKinds := [.data, .data, .data, .data, .sentinel, .sentinel, .sentinel, .sentinel, .sentinel, .sentinel, .pinned], laidTests := true, laidLooks := .later }
def FnControlCardSaid : Prop := Claim7.holds Tryz.pinned (.plain (OpenSpec.ofChange fnControlSpec)) fnControlCard

/-- THE TIED CARD OF 'laws.FnEntry'. -/
def fnEntryCard : Claim7 := { stood := { row := fnEntryRow, standIns := [], harness := (true, "9e6c44ffed3591a6264cd7809d16a67d7f2db978333cc552d58d0756ec986c79"), looks := true }, kinds := [], alts := [], laidByText := true, laidKinds := [.data, .data, .data, .data, .sentinel, .sentinel, .sentinel, .sentinel, .pinned], laidTests := true, laidLooks := .later }
def FnEntryCardSaid : Prop := Claim7.holds Tryz.pinned (.plain (OpenSpec.ofChange fnEntrySpec)) fnEntryCard

/-- THE TIED CARD OF 'laws.FnResult'. -/
def fnResultCard : Claim7 := { stood := { row := fnResultRow, standIns := [], harness := (true, "9e6c44ffed3591a6264cd7809d16a67d7f2db978333cc552d58d0756ec986c79"), looks := true }, kinds := [], alts := [], laidByText := true, laidKinds := [.data, .data, .data, .data, .sentinel, .sentinel, .sentinel, .sentinel, .pinned], laidTests := true, laidLooks := .later }
def FnResultCardSaid : Prop := Claim7.holds Tryz.pinned (.plain (OpenSpec.ofChange fnResultSpec)) fnResultCard

/-- THE SECOND FORM's CARD OF 'laws.FnAnswer'. -/
def fnAnswerUptoCard : Claim7 := { stood := { row := fnAnswerUptoRow, standIns := [], harness := (true, "9e6c44ffed3591a6264cd7809d16a67d7f2db978333cc552d58d0756ec986c79"), looks := true }, kinds := [], alts := [], laidByText := true, laidKinds := [.data, .data, .data, .data, .sentinel, .sentinel, .sentinel, .sentinel, .sentinel, .sentinel, .pinned], laidTests := true, laidLooks := .later }
def FnAnswerUptoCardSaid : Prop := Claim7.holds Tryz.pinned (.plain (OpenSpec.upto fnAnswerSpec)) fnAnswerUptoCard

/-- THE SECOND FORM's CARD OF 'laws.FnControl'. -/
def fnControlUptoCard : Claim7 := { stood := { row := fnControlUptoRow, standIns := [], harness := (true, "9e6c44ffed3591a6264cd7809d16a67d7f2db978333cc552d58d0756ec986c79"), looks := true }, kinds := [], alts := [], laidByText := true, laidKinds := [.data, .data, .data, .data, .sentinel, .sentinel, .sentinel, .sentinel, .sentinel, .sentinel, .pinned], laidTests := true, laidLooks := .later }
def FnControlUptoCardSaid : Prop := Claim7.holds Tryz.pinned (.plain (OpenSpec.upto fnControlSpec)) fnControlUptoCard

/-- THE SECOND FORM's CARD OF 'laws.FnEntry'. -/
def fnEntryUptoCard : Claim7 := { stood := { row := fnEntryUptoRow, standIns := [], harness := (true, "9e6c44ffed3591a6264cd7809d16a67d7f2db978333cc552d58d0756ec986c79"), looks := true }, kinds := [], alts := [], laidByText := true, laidKinds := [.data, .data, .data, .data, .sentinel, .sentinel, .sentinel, .sentinel, .pinned], laidTests := true, laidLooks := .later }
def FnEntryUptoCardSaid : Prop := Claim7.holds Tryz.pinned (.plain (OpenSpec.upto fnEntrySpec)) fnEntryUptoCard

/-- THE SECOND FORM's CARD OF 'laws.FnResult'. -/
def fnResultUptoCard : Claim7 := { stood := { row := fnResultUptoRow, standIns := [], harness := (true, "9e6c44ffed3591a6264cd7809d16a67d7f2db978333cc552d58d0756ec986c79"), looks := true }, kinds := [], alts := [], laidByText := true, laidKinds := [.data, .data, .data, .data, .sentinel, .sentinel, .sentinel, .sentinel, .pinned], laidTests := true, laidLooks := .later }
def FnResultUptoCardSaid : Prop := Claim7.holds Tryz.pinned (.plain (OpenSpec.upto fnResultSpec)) fnResultUptoCard
end Rows
end Go.Proofs.YteockihoefbmdaaGreatDoor
