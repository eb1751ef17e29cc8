/-
  DERIVED. GIVEN WITH THE SEED: THE CARDS: each row of YtfcedenofbefcaaGreatDoorRows.lean that lists a variable, with what it lists TIED to the program's text (the seventh form; the later family's looks); each row that meets fmt, with fmt's text TOLD by the authors' own Lean function (tested against real Go, not proved from fmt's source: count such statements apart). THE CARD IS WHAT COUNTS. Prove the row's statement (the work); the ties are given (YtfcedenofbefcaaGreatDoorTie.lean); close each card by the builder's one call (the guide's Derived/Test/ToyasCard.lean, 'card_holds'). Laid BY PROGRAM, IN A SANDBOX (cutbox-door.mjs). By AI agents, Wed Nov 11 2026. No macro, syntax, notation, axiom, sorry.
-/
import Derived.Test.YtfcedenofbefcaaGreatDoorRows
import GoSem.ClaimSeven
namespace Go.Proofs.YtfcedenofbefcaaGreatDoor
namespace Rows

/-- THE TIED CARD OF 'laws.FnXML'. -/
def fnXMLCard : Claim7 := { stood := { row := fnXMLRow, standIns := [], harness := (true, "ce5825f5b8ea41e86a2d5b35a549c951a7aaf82aa8c89bb0cb24d3bea488b778"), looks := true }, kinds := [], alts := [], laidByText := true, laidKinds := [.data, .data, .data, .sentinel, .data], laidTests := true, laidLooks := .later }
def FnXMLCardSaid : Prop := Claim7.holds Tryz.pinned (.plain (OpenSpec.ofChange fnXMLSpec)) fnXMLCard

/-- THE TIED CARD OF 'laws.FnHTML'. -/
def fnHTMLCard : Claim7 := { stood := { row := fnHTMLRow, standIns := [], harness := (true, "ce5825f5b8ea41e86a2d5b35a549c951a7aaf82aa8c89bb0cb24d3bea488b778"), looks := true }, kinds := [], alts := [], laidByText := true, laidKinds := [.data, .data, .data, .sentinel, .data, .data], laidTests := true, laidLooks := .later }
def FnHTMLCardSaid : Prop := Claim7.holds Tryz.pinned (.plain (OpenSpec.ofChange fnHTMLSpec)) fnHTMLCard

/-- THE TIED CARD OF 'laws.FnHTMLRaw'. -/
def fnHTMLRawCard : Claim7 := { stood := { row := fnHTMLRawRow, standIns := [], harness := (true, "ce5825f5b8ea41e86a2d5b35a549c951a7aaf82aa8c89bb0cb24d3bea488b778"), looks := true }, kinds := [], alts := [], laidByText := true, laidKinds := [.data, .data, .data, .sentinel, .data, .data], laidTests := true, laidLooks := .later }
def FnHTMLRawCardSaid : Prop := Claim7.holds Tryz.pinned (.plain (OpenSpec.ofChange fnHTMLRawSpec)) fnHTMLRawCard

/-- THE TIED CARD OF 'laws.FnHTMLValueRead'. -/
def fnHTMLValueReadCard : Claim7 := { stood := { row := fnHTMLValueReadRow, standIns := [], harness := (true, "ce5825f5b8ea41e86a2d5b35a549c951a7aaf82aa8c89bb0cb24d3bea488b778"), looks := true }, kinds := [], alts := [], laidByText := true, laidKinds := [.data, .data, .data, .sentinel, .data, .data, .data], laidTests := true, laidLooks := .later }
def FnHTMLValueReadCardSaid : Prop := Claim7.holds Tryz.pinned (.plain (OpenSpec.ofChange fnHTMLValueReadSpec)) fnHTMLValueReadCard

/-- THE SECOND FORM's CARD OF 'laws.FnXML'. -/
def fnXMLUptoCard : Claim7 := { stood := { row := fnXMLUptoRow, standIns := [], harness := (true, "ce5825f5b8ea41e86a2d5b35a549c951a7aaf82aa8c89bb0cb24d3bea488b778"), looks := true }, kinds := [], alts := [], laidByText := true, laidKinds := [.data, .data, .data, .sentinel, .data], laidTests := true, laidLooks := .later }
def FnXMLUptoCardSaid : Prop := Claim7.holds Tryz.pinned (.plain (OpenSpec.upto fnXMLSpec)) fnXMLUptoCard

/-- THE SECOND FORM's CARD OF 'laws.FnHTML'. -/
def fnHTMLUptoCard : Claim7 := { stood := { row := fnHTMLUptoRow, standIns := [], harness := (true, "ce5825f5b8ea41e86a2d5b35a549c951a7aaf82aa8c89bb0cb24d3bea488b778"), looks := true }, kinds := [], alts := [], laidByText := true, laidKinds := [.data, .data, .data, .sentinel, .data, .data], laidTests := true, laidLooks := .later }
def FnHTMLUptoCardSaid : Prop := Claim7.holds Tryz.pinned (.plain (OpenSpec.upto fnHTMLSpec)) fnHTMLUptoCard

/-- THE SECOND FORM's CARD OF 'laws.FnHTMLRaw'. -/
def fnHTMLRawUptoCard : Claim7 := { stood := { row := fnHTMLRawUptoRow, standIns := [], harness := (true, "ce5825f5b8ea41e86a2d5b35a549c951a7aaf82aa8c89bb0cb24d3bea488b778"), looks := true }, kinds := [], alts := [], laidByText := true, laidKinds := [.data, .data, .data, .sentinel, .data, .data], laidTests := true, laidLooks := .later }
def FnHTMLRawUptoCardSaid : Prop := Claim7.holds Tryz.pinned (.plain (OpenSpec.upto fnHTMLRawSpec)) fnHTMLRawUptoCard

/-- THE SECOND FORM's CARD OF 'laws.FnHTMLValueRead'. -/
def fnHTMLValueReadUptoCard : Claim7 := { stood := { row := fnHTMLValueReadUptoRow, standIns := [], harness := (true, "ce5825f5b8ea41e86a2d5b35a549c951a7aaf82aa8c89bb0cb24d3bea488b778"), looks := true }, kinds := [], alts := [], laidByText := true, laidKinds := [.data, .data, .data, .sentinel, .data, .data, .data], laidTests := true, laidLooks := .later }
def FnHTMLValueReadUptoCardSaid : Prop := Claim7.holds Tryz.pinned (.plain (OpenSpec.upto fnHTMLValueReadSpec)) fnHTMLValueReadUptoCard
end Rows
end Go.Proofs.YtfcedenofbefcaaGreatDoor
