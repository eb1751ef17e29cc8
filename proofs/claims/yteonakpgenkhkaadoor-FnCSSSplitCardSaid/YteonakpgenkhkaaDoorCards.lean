/-
  DERIVED. GIVEN WITH THE SEED: THE CARDS: each row of YteonakpgenkhkaaDoorRows.lean that lists a variable, with what it lists TIED to the program's text (the seventh form; the later family's looks); each row that meets fmt, with fmt's text TOLD by the authors' own Lean function (tested against real Go, not proved from fmt's source: count such statements apart). THE CARD IS WHAT COUNTS. Prove the row's statement (the work); the ties are given (YteonakpgenkhkaaDoorTie.lean); close each card by the builder's one call (the guide's Derived/Test/ToyasCard.lean, 'card_holds'). Laid BY PROGRAM, IN A SANDBOX (cutbox-door.mjs). By AI agents, Wed Nov 11 2026. No macro, syntax, notation, axiom, sorry.
-/
import Derived.Test.YteonakpgenkhkaaDoorRows
import GoSem.ClaimSeven
namespace Go.Proofs.YteonakpgenkhkaaDoor
namespace Rows

/-- THE TIED CARD OF 'laws.FnAddress'. -/
def fnAddressCard : Claim7 := { stood := { row := fnAddressRow, standIns := [], harness := (true, "c21e10ea0363ef97fb4d1b7897adfc072d313aaa08bf47ae71df8d50b55333d4"), looks := true }, kinds := [], alts := [], laidByText := true, laidKinds := [.data, .sentinel, .pinned], laidTests := true, laidLooks := .later }
def FnAddressCardSaid : Prop := Claim7.holds Tryd.pinned (.plain (OpenSpec.ofChange fnAddressSpec)) fnAddressCard

/-- THE TIED CARD OF 'laws.FnIdent'. -/
def fnIdentCard : Claim7 := { stood := { row := fnIdentRow, standIns := [], harness := (true, "c21e10ea0363ef97fb4d1b7897adfc072d313aaa08bf47ae71df8d50b55333d4"), looks := true }, kinds := [], alts := [], laidByText := true, laidKinds := [.data, .sentinel, .pinned], laidTests := true, laidLooks := .later }
def FnIdentCardSaid : Prop := Claim7.holds Tryd.pinned (.plain (OpenSpec.ofChange fnIdentSpec)) fnIdentCard

/-- THE TIED CARD OF 'laws.FnCSSSplit'. -/
def fnCSSSplitCard : Claim7 := { stood := { row := fnCSSSplitRow, standIns := [], harness := (true, "c21e10ea0363ef97fb4d1b7897adfc072d313aaa08bf47ae71df8d50b55333d4"), looks := true }, kinds := [], alts := [], laidByText := true, laidKinds := [.data, .sentinel, .pinned], laidTests := true, laidLooks := .later }
def FnCSSSplitCardSaid : Prop := Claim7.holds Tryd.pinned (.plain (OpenSpec.ofChange fnCSSSplitSpec)) fnCSSSplitCard

/-- THE TIED CARD OF 'laws.FnCSSTokens'. -/
def fnCSSTokensCard : Claim7 := { stood := { row := fnCSSTokensRow, standIns := [], harness := (true, "c21e10ea0363ef97fb4d1b7897adfc072d313aaa08bf47ae71df8d50b55333d4"), looks := true }, kinds := [], alts := [], laidByText := true, laidKinds := [.data, .sentinel, .pinned], laidTests := true, laidLooks := .later }
def FnCSSTokensCardSaid : Prop := Claim7.holds Tryd.pinned (.plain (OpenSpec.ofChange fnCSSTokensSpec)) fnCSSTokensCard

/-- THE SECOND FORM's CARD OF 'laws.FnAddress'. -/
def fnAddressUptoCard : Claim7 := { stood := { row := fnAddressUptoRow, standIns := [], harness := (true, "c21e10ea0363ef97fb4d1b7897adfc072d313aaa08bf47ae71df8d50b55333d4"), looks := true }, kinds := [], alts := [], laidByText := true, laidKinds := [.data, .sentinel, .pinned], laidTests := true, laidLooks := .later }
def FnAddressUptoCardSaid : Prop := Claim7.holds Tryd.pinned (.plain (OpenSpec.upto fnAddressSpec)) fnAddressUptoCard

/-- THE SECOND FORM's CARD OF 'laws.FnIdent'. -/
def fnIdentUptoCard : Claim7 := { stood := { row := fnIdentUptoRow, standIns := [], harness := (true, "c21e10ea0363ef97fb4d1b7897adfc072d313aaa08bf47ae71df8d50b55333d4"), looks := true }, kinds := [], alts := [], laidByText := true, laidKinds := [.data, .sentinel, .pinned], laidTests := true, laidLooks := .later }
def FnIdentUptoCardSaid : Prop := Claim7.holds Tryd.pinned (.plain (OpenSpec.upto fnIdentSpec)) fnIdentUptoCard

/-- THE SECOND FORM's CARD OF 'laws.FnCSSSplit'. -/
def fnCSSSplitUptoCard : Claim7 := { stood := { row := fnCSSSplitUptoRow, standIns := [], harness := (true, "c21e10ea0363ef97fb4d1b7897adfc072d313aaa08bf47ae71df8d50b55333d4"), looks := true }, kinds := [], alts := [], laidByText := true, laidKinds := [.data, .sentinel, .pinned], laidTests := true, laidLooks := .later }
def FnCSSSplitUptoCardSaid : Prop := Claim7.holds Tryd.pinned (.plain (OpenSpec.upto fnCSSSplitSpec)) fnCSSSplitUptoCard

/-- THE SECOND FORM's CARD OF 'laws.FnCSSTokens'. -/
def fnCSSTokensUptoCard : Claim7 := { stood := { row := fnCSSTokensUptoRow, standIns := [], harness := (true, "c21e10ea0363ef97fb4d1b7897adfc072d313aaa08bf47ae71df8d50b55333d4"), looks := true }, kinds := [], alts := [], laidByText := true, laidKinds := [.data, .sentinel, .pinned], laidTests := true, laidLooks := .later }
def FnCSSTokensUptoCardSaid : Prop := Claim7.holds Tryd.pinned (.plain (OpenSpec.upto fnCSSTokensSpec)) fnCSSTokensUptoCard
end Rows
end Go.Proofs.YteonakpgenkhkaaDoor
