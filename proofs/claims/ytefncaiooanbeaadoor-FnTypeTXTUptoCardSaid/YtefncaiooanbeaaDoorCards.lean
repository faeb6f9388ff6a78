/-
  DERIVED. GIVEN WITH THE SEED: THE CARDS: each row of YtefncaiooanbeaaDoorRows.lean that lists a variable, with what it lists TIED to the program's text (the seventh form; the later family's looks); each row that meets fmt, with fmt's text TOLD by the authors' own Lean function (tested against real Go, not proved from fmt's source: count such statements apart). THE CARD IS WHAT COUNTS. Prove the row's statement (the work); the ties are given (YtefncaiooanbeaaDoorTie.lean); close each card by the builder's one call (the guide's Derived/Test/ToyasCard.lean, 'card_holds'). Laid BY PROGRAM, IN A SANDBOX (cutbox-door.mjs). By AI agents, Wed Nov 11 2026. No macro, syntax, notation, axiom, sorry.
-/
import Derived.Test.YtefncaiooanbeaaDoorRows
import GoSem.ClaimSeven
namespace Go.Proofs.YtefncaiooanbeaaDoor
namespace Rows

/-- THE TIED CARD OF 'laws.FnRefusedUnknown'. -/
def fnRefusedUnknownCard : Claim7 := { stood := { row := fnRefusedUnknownRow, standIns := [], harness := (true, "6f9afc2294e99e9750917cd95ad143c06eb94c9af924bfe4cebbdb5bca195d24"), looks := true }, kinds := [], alts := [], laidByText := true, laidKinds := [.sentinel, .sentinel, .sentinel, .sentinel, .sentinel, .sentinel, .sentinel, .sentinel, .sentinel, .sentinel, .sentinel], laidTests := true, laidLooks := .later }
def FnRefusedUnknownCardSaid : Prop := Claim7.holds Tryd.pinned (.plain (OpenSpec.ofChange fnRefusedUnknownSpec)) fnRefusedUnknownCard

/-- THE TIED CARD OF 'laws.FnShortUnknown'. -/
def fnShortUnknownCard : Claim7 := { stood := { row := fnShortUnknownRow, standIns := [], harness := (true, "6f9afc2294e99e9750917cd95ad143c06eb94c9af924bfe4cebbdb5bca195d24"), looks := true }, kinds := [], alts := [], laidByText := true, laidKinds := [.sentinel, .sentinel, .sentinel, .sentinel, .sentinel, .sentinel, .sentinel, .sentinel, .sentinel, .sentinel, .sentinel], laidTests := true, laidLooks := .later }
def FnShortUnknownCardSaid : Prop := Claim7.holds Tryd.pinned (.plain (OpenSpec.ofChange fnShortUnknownSpec)) fnShortUnknownCard

/-- THE TIED CARD OF 'laws.FnTypeUnknown'. -/
def fnTypeUnknownCard : Claim7 := { stood := { row := fnTypeUnknownRow, standIns := [], harness := (true, "6f9afc2294e99e9750917cd95ad143c06eb94c9af924bfe4cebbdb5bca195d24"), looks := true }, kinds := [], alts := [], laidByText := true, laidKinds := [.sentinel, .sentinel, .sentinel, .sentinel, .sentinel, .sentinel, .sentinel, .sentinel, .sentinel, .sentinel, .sentinel], laidTests := true, laidLooks := .later }
def FnTypeUnknownCardSaid : Prop := Claim7.holds Tryd.pinned (.plain (OpenSpec.ofChange fnTypeUnknownSpec)) fnTypeUnknownCard

/-- THE TIED CARD OF 'laws.FnRefusedOPT'. -/
def fnRefusedOPTCard : Claim7 := { stood := { row := fnRefusedOPTRow, standIns := [], harness := (true, "6f9afc2294e99e9750917cd95ad143c06eb94c9af924bfe4cebbdb5bca195d24"), looks := true }, kinds := [], alts := [], laidByText := true, laidKinds := [.sentinel, .sentinel, .sentinel, .sentinel, .sentinel, .sentinel, .sentinel, .sentinel, .sentinel, .sentinel, .sentinel], laidTests := true, laidLooks := .later }
def FnRefusedOPTCardSaid : Prop := Claim7.holds Tryd.pinned (.plain (OpenSpec.ofChange fnRefusedOPTSpec)) fnRefusedOPTCard

/-- THE TIED CARD OF 'laws.FnShortOPT'. -/
def fnShortOPTCard : Claim7 := { stood := { row := fnShortOPTRow, standIns := [], harness := (true, "6f9afc2294e99e9750917cd95ad143c06eb94c9af924bfe4cebbdb5bca195d24"), looks := true }, kinds := [], alts := [], laidByText := true, laidKinds := [.sentinel, .sentinel, .sentinel, .sentinel, .sentinel, .sentinel, .sentinel, .sentinel, .sentinel, .sentinel, .sentinel], laidTests := true, laidLooks := .later }
def FnShortOPTCardSaid : Prop := Claim7.holds Tryd.pinned (.plain (OpenSpec.ofChange fnShortOPTSpec)) fnShortOPTCard

/-- THE TIED CARD OF 'laws.FnTypeOPT'. -/
def fnTypeOPTCard : Claim7 := { stood := { row := fnTypeOPTRow, standIns := [], harness := (true, "6f9afc2294e99e9750917cd95ad143c06eb94c9af924bfe4cebbdb5bca195d24"), looks := true }, kinds := [], alts := [], laidByText := true, laidKinds := [.sentinel, .sentinel, .sentinel, .sentinel, .sentinel, .sentinel, .sentinel, .sentinel, .sentinel, .sentinel, .sentinel], laidTests := true, laidLooks := .later }
def FnTypeOPTCardSaid : Prop := Claim7.holds Tryd.pinned (.plain (OpenSpec.ofChange fnTypeOPTSpec)) fnTypeOPTCard

/-- THE TIED CARD OF 'laws.FnLongText'. -/
def fnLongTextCard : Claim7 := { stood := { row := fnLongTextRow, standIns := [], harness := (true, "6f9afc2294e99e9750917cd95ad143c06eb94c9af924bfe4cebbdb5bca195d24"), looks := true }, kinds := [], alts := [], laidByText := true, laidKinds := [.sentinel, .sentinel, .sentinel, .sentinel, .sentinel, .sentinel, .sentinel, .sentinel, .sentinel, .sentinel, .sentinel, .sentinel], laidTests := true, laidLooks := .later }
def FnLongTextCardSaid : Prop := Claim7.holds Tryd.pinned (.plain (OpenSpec.ofChange fnLongTextSpec)) fnLongTextCard

/-- THE TIED CARD OF 'laws.FnRefusedTXT'. -/
def fnRefusedTXTCard : Claim7 := { stood := { row := fnRefusedTXTRow, standIns := [], harness := (true, "6f9afc2294e99e9750917cd95ad143c06eb94c9af924bfe4cebbdb5bca195d24"), looks := true }, kinds := [], alts := [], laidByText := true, laidKinds := [.sentinel, .sentinel, .sentinel, .sentinel, .sentinel, .sentinel, .sentinel, .sentinel, .sentinel, .sentinel, .sentinel, .sentinel], laidTests := true, laidLooks := .later }
def FnRefusedTXTCardSaid : Prop := Claim7.holds Tryd.pinned (.plain (OpenSpec.ofChange fnRefusedTXTSpec)) fnRefusedTXTCard

/-- THE TIED CARD OF 'laws.FnShortTXT'. -/
def fnShortTXTCard : Claim7 := { stood := { row := fnShortTXTRow, standIns := [], harness := (true, "6f9afc2294e99e9750917cd95ad143c06eb94c9af924bfe4cebbdb5bca195d24"), looks := true }, kinds := [], alts := [], laidByText := true, laidKinds := [.sentinel, .sentinel, .sentinel, .sentinel, .sentinel, .sentinel, .sentinel, .sentinel, .sentinel, .sentinel, .sentinel, .sentinel], laidTests := true, laidLooks := .later }
def FnShortTXTCardSaid : Prop := Claim7.holds Tryd.pinned (.plain (OpenSpec.ofChange fnShortTXTSpec)) fnShortTXTCard

/-- THE TIED CARD OF 'laws.FnTypeTXT'. -/
def fnTypeTXTCard : Claim7 := { stood := { row := fnTypeTXTRow, standIns := [], harness := (true, "6f9afc2294e99e9750917cd95ad143c06eb94c9af924bfe4cebbdb5bca195d24"), looks := true }, kinds := [], alts := [], laidByText := true, laidKinds := [.sentinel, .sentinel, .sentinel, .sentinel, .sentinel, .sentinel, .sentinel, .sentinel, .sentinel, .sentinel, .sentinel, .sentinel], laidTests := true, laidLooks := .later }
def FnTypeTXTCardSaid : Prop := Claim7.holds Tryd.pinned (.plain (OpenSpec.ofChange fnTypeTXTSpec)) fnTypeTXTCard

/-- THE SECOND FORM's CARD OF 'laws.FnRefusedUnknown'. -/
def fnRefusedUnknownUptoCard : Claim7 := { stood := { row := fnRefusedUnknownUptoRow, standIns := [], harness := (true, "6f9afc2294e99e9750917cd95ad143c06eb94c9af924bfe4cebbdb5bca195d24"), looks := true }, kinds := [], alts := [], laidByText := true, laidKinds := [.sentinel, .sentinel, .sentinel, .sentinel, .sentinel, .sentinel, .sentinel, .sentinel, .sentinel, .sentinel, .sentinel], laidTests := true, laidLooks := .later }
def FnRefusedUnknownUptoCardSaid : Prop := Claim7.holds Tryd.pinned (.plain (OpenSpec.upto fnRefusedUnknownSpec)) fnRefusedUnknownUptoCard

/-- THE SECOND FORM's CARD OF 'laws.FnShortUnknown'. -/
def fnShortUnknownUptoCard : Claim7 := { stood := { row := fnShortUnknownUptoRow, standIns := [], harness := (true, "6f9afc2294e99e9750917cd95ad143c06eb94c9af924bfe4cebbdb5bca195d24"), looks := true }, kinds := [], alts := [], laidByText := true, laidKinds := [.sentinel, .sentinel, .sentinel, .sentinel, .sentinel, .sentinel, .sentinel, .sentinel, .sentinel, .sentinel, .sentinel], laidTests := true, laidLooks := .later }
def FnShortUnknownUptoCardSaid : Prop := Claim7.holds Tryd.pinned (.plain (OpenSpec.upto fnShortUnknownSpec)) fnShortUnknownUptoCard

/-- THE SECOND FORM's CARD OF 'laws.FnTypeUnknown'. -/
def fnTypeUnknownUptoCard : Claim7 := { stood := { row := fnTypeUnknownUptoRow, standIns := [], harness := (true, "6f9afc2294e99e9750917cd95ad143c06eb94c9af924bfe4cebbdb5bca195d24"), looks := true }, kinds := [], alts := [], laidByText := true, laidKinds := [.sentinel, .sentinel, .sentinel, .sentinel, .sentinel, .sentinel, .sentinel, .sentinel, .sentinel, .sentinel, .sentinel], laidTests := true, laidLooks := .later }
def FnTypeUnknownUptoCardSaid : Prop := Claim7.holds Tryd.pinned (.plain (OpenSpec.upto fnTypeUnknownSpec)) fnTypeUnknownUptoCard

/-- THE SECOND FORM's CARD OF 'laws.FnRefusedOPT'. -/
def fnRefusedOPTUptoCard : Claim7 := { stood := { row := fnRefusedOPTUptoRow, standIns := [], harness := (true, "6f9afc2294e99e9750917cd95ad143c06eb94c9af924bfe4cebbdb5bca195d24"), looks := true }, kinds := [], alts := [], laidByText := true, laidKinds := [.sentinel, .sentinel, .sentinel, .sentinel, .sentinel, .sentinel, .sentinel, .sentinel, .sentinel, .sentinel, .sentinel], laidTests := true, laidLooks := .later }
def FnRefusedOPTUptoCardSaid : Prop := Claim7.holds Tryd.pinned (.plain (OpenSpec.upto fnRefusedOPTSpec)) fnRefusedOPTUptoCard

/-- THE SECOND FORM's CARD OF 'laws.FnShortOPT'. -/
def fnShortOPTUptoCard : Claim7 := { stood := { row := fnShortOPTUptoRow, standIns := [], harness := (true, "6f9afc2294e99e9750917cd95ad143c06eb94c9af924bfe4cebbdb5bca195d24"), looks := true }, kinds := [], alts := [], laidByText := true, laidKinds := [.sentinel, .sentinel, .sentinel, .sentinel, .sentinel, .sentinel, .sentinel, .sentinel, .sentinel, .sentinel, .sentinel], laidTests := true, laidLooks := .later }
def FnShortOPTUptoCardSaid : Prop := Claim7.holds Tryd.pinned (.plain (OpenSpec.upto fnShortOPTSpec)) fnShortOPTUptoCard

/-- THE SECOND FORM's CARD OF 'laws.FnTypeOPT'. -/
def fnTypeOPTUptoCard : Claim7 := { stood := { row := fnTypeOPTUptoRow, standIns := [], harness := (true, "6f9afc2294e99e9750917cd95ad143c06eb94c9af924bfe4cebbdb5bca195d24"), looks := true }, kinds := [], alts := [], laidByText := true, laidKinds := [.sentinel, .sentinel, .sentinel, .sentinel, .sentinel, .sentinel, .sentinel, .sentinel, .sentinel, .sentinel, .sentinel], laidTests := true, laidLooks := .later }
def FnTypeOPTUptoCardSaid : Prop := Claim7.holds Tryd.pinned (.plain (OpenSpec.upto fnTypeOPTSpec)) fnTypeOPTUptoCard

/-- THE SECOND FORM's CARD OF 'laws.FnLongText'. -/
def fnLongTextUptoCard : Claim7 := { stood := { row := fnLongTextUptoRow, standIns := [], harness := (true, "6f9afc2294e99e9750917cd95ad143c06eb94c9af924bfe4cebbdb5bca195d24"), looks := true }, kinds := [], alts := [], laidByText := true, laidKinds := [.sentinel, .sentinel, .sentinel, .sentinel, .sentinel, .sentinel, .sentinel, .sentinel, .sentinel, .sentinel, .sentinel, .sentinel], laidTests := true, laidLooks := .later }
def FnLongTextUptoCardSaid : Prop := Claim7.holds Tryd.pinned (.plain (OpenSpec.upto fnLongTextSpec)) fnLongTextUptoCard

/-- THE SECOND FORM's CARD OF 'laws.FnRefusedTXT'. -/
def fnRefusedTXTUptoCard : Claim7 := { stood := { row := fnRefusedTXTUptoRow, standIns := [], harness := (true, "6f9afc2294e99e9750917cd95ad143c06eb94c9af924bfe4cebbdb5bca195d24"), looks := true }, kinds := [], alts := [], laidByText := true, laidKinds := [.sentinel, .sentinel, .sentinel, .sentinel, .sentinel, .sentinel, .sentinel, .sentinel, .sentinel, .sentinel, .sentinel, .sentinel], laidTests := true, laidLooks := .later }
def FnRefusedTXTUptoCardSaid : Prop := Claim7.holds Tryd.pinned (.plain (OpenSpec.upto fnRefusedTXTSpec)) fnRefusedTXTUptoCard

/-- THE SECOND FORM's CARD OF 'laws.FnShortTXT'. -/
def fnShortTXTUptoCard : Claim7 := { stood := { row := fnShortTXTUptoRow, standIns := [], harness := (true, "6f9afc2294e99e9750917cd95ad143c06eb94c9af924bfe4cebbdb5bca195d24"), looks := true }, kinds := [], alts := [], laidByText := true, laidKinds := [.sentinel, .sentinel, .sentinel, .sentinel, .sentinel, .sentinel, .sentinel, .sentinel, .sentinel, .sentinel, .sentinel, .sentinel], laidTests := true, laidLooks := .later }
def FnShortTXTUptoCardSaid : Prop := Claim7.holds Tryd.pinned (.plain (OpenSpec.upto fnShortTXTSpec)) fnShortTXTUptoCard

/-- THE SECOND FORM's CARD OF 'laws.FnTypeTXT'. -/
def fnTypeTXTUptoCard : Claim7 := { stood := { row := fnTypeTXTUptoRow, standIns := [], harness := (true, "6f9afc2294e99e9750917cd95ad143c06eb94c9af924bfe4cebbdb5bca195d24"), looks := true }, kinds := [], alts := [], laidByText := true, laidKinds := [.sentinel, .sentinel, .sentinel, .sentinel, .sentinel, .sentinel, .sentinel, .sentinel, .sentinel, .sentinel, .sentinel, .sentinel], laidTests := true, laidLooks := .later }
def FnTypeTXTUptoCardSaid : Prop := Claim7.holds Tryd.pinned (.plain (OpenSpec.upto fnTypeTXTSpec)) fnTypeTXTUptoCard
end Rows
end Go.Proofs.YtefncaiooanbeaaDoor
