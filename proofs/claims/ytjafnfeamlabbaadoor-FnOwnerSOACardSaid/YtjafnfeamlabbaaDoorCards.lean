/-
  DERIVED. GIVEN WITH THE SEED: THE CARDS: each row of YtjafnfeamlabbaaDoorRows.lean that lists a variable, with what it lists TIED to the program's text (the seventh form; the later family's looks); each row that meets fmt, with fmt's text TOLD by the authors' own Lean function (tested against real Go, not proved from fmt's source: count such statements apart). THE CARD IS WHAT COUNTS. Prove the row's statement (the work); the ties are given (YtjafnfeamlabbaaDoorTie.lean); close each card by the builder's one call (the guide's Derived/Test/ToyasCard.lean, 'card_holds'). Laid BY PROGRAM, IN A SANDBOX (cutbox-door.mjs). By AI agents, Wed Nov 11 2026. No macro, syntax, notation, axiom, sorry.
-/
import Derived.Test.YtjafnfeamlabbaaDoorRows
import GoSem.ClaimSeven
namespace Go.Proofs.YtjafnfeamlabbaaDoor
namespace Rows

/-- THE TIED CARD OF 'laws.FnRefusedA'. -/
def fnRefusedACard : Claim7 := { stood := { row := fnRefusedARow, standIns := [], harness := (true, "7bde52fc67919758c979e311184122f10e29bef60bc4537cfa3c04a4201bd14c"), looks := true }, kinds := [], alts := [], laidByText := true, laidKinds := [.sentinel, .sentinel, .sentinel, .sentinel, .sentinel, .sentinel, .sentinel, .sentinel, .sentinel, .sentinel, .sentinel], laidTests := true, laidLooks := .later }
def FnRefusedACardSaid : Prop := Claim7.holds Tryd.pinned (.plain (OpenSpec.ofChange fnRefusedASpec)) fnRefusedACard

/-- THE TIED CARD OF 'laws.FnRefusedAAAA'. -/
def fnRefusedAAAACard : Claim7 := { stood := { row := fnRefusedAAAARow, standIns := [], harness := (true, "7bde52fc67919758c979e311184122f10e29bef60bc4537cfa3c04a4201bd14c"), looks := true }, kinds := [], alts := [], laidByText := true, laidKinds := [.sentinel, .sentinel, .sentinel, .sentinel, .sentinel, .sentinel, .sentinel, .sentinel, .sentinel, .sentinel, .sentinel], laidTests := true, laidLooks := .later }
def FnRefusedAAAACardSaid : Prop := Claim7.holds Tryd.pinned (.plain (OpenSpec.ofChange fnRefusedAAAASpec)) fnRefusedAAAACard

/-- THE TIED CARD OF 'laws.FnShortA'. -/
def fnShortACard : Claim7 := { stood := { row := fnShortARow, standIns := [], harness := (true, "7bde52fc67919758c979e311184122f10e29bef60bc4537cfa3c04a4201bd14c"), looks := true }, kinds := [], alts := [], laidByText := true, laidKinds := [.sentinel, .sentinel, .sentinel, .sentinel, .sentinel, .sentinel, .sentinel, .sentinel, .sentinel, .sentinel, .sentinel], laidTests := true, laidLooks := .later }
def FnShortACardSaid : Prop := Claim7.holds Tryd.pinned (.plain (OpenSpec.ofChange fnShortASpec)) fnShortACard

/-- THE TIED CARD OF 'laws.FnShortAAAA'. -/
def fnShortAAAACard : Claim7 := { stood := { row := fnShortAAAARow, standIns := [], harness := (true, "7bde52fc67919758c979e311184122f10e29bef60bc4537cfa3c04a4201bd14c"), looks := true }, kinds := [], alts := [], laidByText := true, laidKinds := [.sentinel, .sentinel, .sentinel, .sentinel, .sentinel, .sentinel, .sentinel, .sentinel, .sentinel, .sentinel, .sentinel], laidTests := true, laidLooks := .later }
def FnShortAAAACardSaid : Prop := Claim7.holds Tryd.pinned (.plain (OpenSpec.ofChange fnShortAAAASpec)) fnShortAAAACard

/-- THE TIED CARD OF 'laws.FnTypeA'. -/
def fnTypeACard : Claim7 := { stood := { row := fnTypeARow, standIns := [], harness := (true, "7bde52fc67919758c979e311184122f10e29bef60bc4537cfa3c04a4201bd14c"), looks := true }, kinds := [], alts := [], laidByText := true, laidKinds := [.sentinel, .sentinel, .sentinel, .sentinel, .sentinel, .sentinel, .sentinel, .sentinel, .sentinel, .sentinel, .sentinel], laidTests := true, laidLooks := .later }
def FnTypeACardSaid : Prop := Claim7.holds Tryd.pinned (.plain (OpenSpec.ofChange fnTypeASpec)) fnTypeACard

/-- THE TIED CARD OF 'laws.FnTypeAAAA'. -/
def fnTypeAAAACard : Claim7 := { stood := { row := fnTypeAAAARow, standIns := [], harness := (true, "7bde52fc67919758c979e311184122f10e29bef60bc4537cfa3c04a4201bd14c"), looks := true }, kinds := [], alts := [], laidByText := true, laidKinds := [.sentinel, .sentinel, .sentinel, .sentinel, .sentinel, .sentinel, .sentinel, .sentinel, .sentinel, .sentinel, .sentinel], laidTests := true, laidLooks := .later }
def FnTypeAAAACardSaid : Prop := Claim7.holds Tryd.pinned (.plain (OpenSpec.ofChange fnTypeAAAASpec)) fnTypeAAAACard

/-- THE TIED CARD OF 'laws.FnOwnerSOA'. -/
def fnOwnerSOACard : Claim7 := { stood := { row := fnOwnerSOARow, standIns := [], harness := (true, "7bde52fc67919758c979e311184122f10e29bef60bc4537cfa3c04a4201bd14c"), looks := true }, kinds := [], alts := [], laidByText := true, laidKinds := [.sentinel, .sentinel, .sentinel, .sentinel, .sentinel, .sentinel, .sentinel, .sentinel, .sentinel, .sentinel, .sentinel], laidTests := true, laidLooks := .later }
def FnOwnerSOACardSaid : Prop := Claim7.holds Tryd.pinned (.plain (OpenSpec.ofChange fnOwnerSOASpec)) fnOwnerSOACard

/-- THE TIED CARD OF 'laws.FnRefusedSOA'. -/
def fnRefusedSOACard : Claim7 := { stood := { row := fnRefusedSOARow, standIns := [], harness := (true, "7bde52fc67919758c979e311184122f10e29bef60bc4537cfa3c04a4201bd14c"), looks := true }, kinds := [], alts := [], laidByText := true, laidKinds := [.sentinel, .sentinel, .sentinel, .sentinel, .sentinel, .sentinel, .sentinel, .sentinel, .sentinel, .sentinel, .sentinel], laidTests := true, laidLooks := .later }
def FnRefusedSOACardSaid : Prop := Claim7.holds Tryd.pinned (.plain (OpenSpec.ofChange fnRefusedSOASpec)) fnRefusedSOACard

/-- THE TIED CARD OF 'laws.FnShortSOA'. -/
def fnShortSOACard : Claim7 := { stood := { row := fnShortSOARow, standIns := [], harness := (true, "7bde52fc67919758c979e311184122f10e29bef60bc4537cfa3c04a4201bd14c"), looks := true }, kinds := [], alts := [], laidByText := true, laidKinds := [.sentinel, .sentinel, .sentinel, .sentinel, .sentinel, .sentinel, .sentinel, .sentinel, .sentinel, .sentinel, .sentinel], laidTests := true, laidLooks := .later }
def FnShortSOACardSaid : Prop := Claim7.holds Tryd.pinned (.plain (OpenSpec.ofChange fnShortSOASpec)) fnShortSOACard

/-- THE TIED CARD OF 'laws.FnTypeSOA'. -/
def fnTypeSOACard : Claim7 := { stood := { row := fnTypeSOARow, standIns := [], harness := (true, "7bde52fc67919758c979e311184122f10e29bef60bc4537cfa3c04a4201bd14c"), looks := true }, kinds := [], alts := [], laidByText := true, laidKinds := [.sentinel, .sentinel, .sentinel, .sentinel, .sentinel, .sentinel, .sentinel, .sentinel, .sentinel, .sentinel, .sentinel], laidTests := true, laidLooks := .later }
def FnTypeSOACardSaid : Prop := Claim7.holds Tryd.pinned (.plain (OpenSpec.ofChange fnTypeSOASpec)) fnTypeSOACard

/-- THE SECOND FORM's CARD OF 'laws.FnRefusedA'. -/
def fnRefusedAUptoCard : Claim7 := { stood := { row := fnRefusedAUptoRow, standIns := [], harness := (true, "7bde52fc67919758c979e311184122f10e29bef60bc4537cfa3c04a4201bd14c"), looks := true }, kinds := [], alts := [], laidByText := true, laidKinds := [.sentinel, .sentinel, .sentinel, .sentinel, .sentinel, .sentinel, .sentinel, .sentinel, .sentinel, .sentinel, .sentinel], laidTests := true, laidLooks := .later }
def FnRefusedAUptoCardSaid : Prop := Claim7.holds Tryd.pinned (.plain (OpenSpec.upto fnRefusedASpec)) fnRefusedAUptoCard

/-- THE SECOND FORM's CARD OF 'laws.FnRefusedAAAA'. -/
def fnRefusedAAAAUptoCard : Claim7 := { stood := { row := fnRefusedAAAAUptoRow, standIns := [], harness := (true, "7bde52fc67919758c979e311184122f10e29bef60bc4537cfa3c04a4201bd14c"), looks := true }, kinds := [], alts := [], laidByText := true, laidKinds := [.sentinel, .sentinel, .sentinel, .sentinel, .sentinel, .sentinel, .sentinel, .sentinel, .sentinel, .sentinel, .sentinel], laidTests := true, laidLooks := .later }
def FnRefusedAAAAUptoCardSaid : Prop := Claim7.holds Tryd.pinned (.plain (OpenSpec.upto fnRefusedAAAASpec)) fnRefusedAAAAUptoCard

/-- THE SECOND FORM's CARD OF 'laws.FnShortA'. -/
def fnShortAUptoCard : Claim7 := { stood := { row := fnShortAUptoRow, standIns := [], harness := (true, "7bde52fc67919758c979e311184122f10e29bef60bc4537cfa3c04a4201bd14c"), looks := true }, kinds := [], alts := [], laidByText := true, laidKinds := [.sentinel, .sentinel, .sentinel, .sentinel, .sentinel, .sentinel, .sentinel, .sentinel, .sentinel, .sentinel, .sentinel], laidTests := true, laidLooks := .later }
def FnShortAUptoCardSaid : Prop := Claim7.holds Tryd.pinned (.plain (OpenSpec.upto fnShortASpec)) fnShortAUptoCard

/-- THE SECOND FORM's CARD OF 'laws.FnShortAAAA'. -/
def fnShortAAAAUptoCard : Claim7 := { stood := { row := fnShortAAAAUptoRow, standIns := [], harness := (true, "7bde52fc67919758c979e311184122f10e29bef60bc4537cfa3c04a4201bd14c"), looks := true }, kinds := [], alts := [], laidByText := true, laidKinds := [.sentinel, .sentinel, .sentinel, .sentinel, .sentinel, .sentinel, .sentinel, .sentinel, .sentinel, .sentinel, .sentinel], laidTests := true, laidLooks := .later }
def FnShortAAAAUptoCardSaid : Prop := Claim7.holds Tryd.pinned (.plain (OpenSpec.upto fnShortAAAASpec)) fnShortAAAAUptoCard

/-- THE SECOND FORM's CARD OF 'laws.FnTypeA'. -/
def fnTypeAUptoCard : Claim7 := { stood := { row := fnTypeAUptoRow, standIns := [], harness := (true, "7bde52fc67919758c979e311184122f10e29bef60bc4537cfa3c04a4201bd14c"), looks := true }, kinds := [], alts := [], laidByText := true, laidKinds := [.sentinel, .sentinel, .sentinel, .sentinel, .sentinel, .sentinel, .sentinel, .sentinel, .sentinel, .sentinel, .sentinel], laidTests := true, laidLooks := .later }
def FnTypeAUptoCardSaid : Prop := Claim7.holds Tryd.pinned (.plain (OpenSpec.upto fnTypeASpec)) fnTypeAUptoCard

/-- THE SECOND FORM's CARD OF 'laws.FnTypeAAAA'. -/
def fnTypeAAAAUptoCard : Claim7 := { stood := { row := fnTypeAAAAUptoRow, standIns := [], harness := (true, "7bde52fc67919758c979e311184122f10e29bef60bc4537cfa3c04a4201bd14c"), looks := true }, kinds := [], alts := [], laidByText := true, laidKinds := [.sentinel, .sentinel, .sentinel, .sentinel, .sentinel, .sentinel, .sentinel, .sentinel, .sentinel, .sentinel, .sentinel], laidTests := true, laidLooks := .later }
def FnTypeAAAAUptoCardSaid : Prop := Claim7.holds Tryd.pinned (.plain (OpenSpec.upto fnTypeAAAASpec)) fnTypeAAAAUptoCard

/-- THE SECOND FORM's CARD OF 'laws.FnOwnerSOA'. -/
def fnOwnerSOAUptoCard : Claim7 := { stood := { row := fnOwnerSOAUptoRow, standIns := [], harness := (true, "7bde52fc67919758c979e311184122f10e29bef60bc4537cfa3c04a4201bd14c"), looks := true }, kinds := [], alts := [], laidByText := true, laidKinds := [.sentinel, .sentinel, .sentinel, .sentinel, .sentinel, .sentinel, .sentinel, .sentinel, .sentinel, .sentinel, .sentinel], laidTests := true, laidLooks := .later }
def FnOwnerSOAUptoCardSaid : Prop := Claim7.holds Tryd.pinned (.plain (OpenSpec.upto fnOwnerSOASpec)) fnOwnerSOAUptoCard

/-- THE SECOND FORM's CARD OF 'laws.FnRefusedSOA'. -/
def fnRefusedSOAUptoCard : Claim7 := { stood := { row := fnRefusedSOAUptoRow, standIns := [], harness := (true, "7bde52fc67919758c979e311184122f10e29bef60bc4537cfa3c04a4201bd14c"), looks := true }, kinds := [], alts := [], laidByText := true, laidKinds := [.sentinel, .sentinel, .sentinel, .sentinel, .sentinel, .sentinel, .sentinel, .sentinel, .sentinel, .sentinel, .sentinel], laidTests := true, laidLooks := .later }
def FnRefusedSOAUptoCardSaid : Prop := Claim7.holds Tryd.pinned (.plain (OpenSpec.upto fnRefusedSOASpec)) fnRefusedSOAUptoCard

/-- THE SECOND FORM's CARD OF 'laws.FnShortSOA'. -/
def fnShortSOAUptoCard : Claim7 := { stood := { row := fnShortSOAUptoRow, standIns := [], harness := (true, "7bde52fc67919758c979e311184122f10e29bef60bc4537cfa3c04a4201bd14c"), looks := true }, kinds := [], alts := [], laidByText := true, laidKinds := [.sentinel, .sentinel, .sentinel, .sentinel, .sentinel, .sentinel, .sentinel, .sentinel, .sentinel, .sentinel, .sentinel], laidTests := true, laidLooks := .later }
def FnShortSOAUptoCardSaid : Prop := Claim7.holds Tryd.pinned (.plain (OpenSpec.upto fnShortSOASpec)) fnShortSOAUptoCard

/-- THE SECOND FORM's CARD OF 'laws.FnTypeSOA'. -/
def fnTypeSOAUptoCard : Claim7 := { stood := { row := fnTypeSOAUptoRow, standIns := [], harness := (true, "7bde52fc67919758c979e311184122f10e29bef60bc4537cfa3c04a4201bd14c"), looks := true }, kinds := [], alts := [], laidByText := true, laidKinds := [.sentinel, .sentinel, .sentinel, .sentinel, .sentinel, .sentinel, .sentinel, .sentinel, .sentinel, .sentinel, .sentinel], laidTests := true, laidLooks := .later }
def FnTypeSOAUptoCardSaid : Prop := Claim7.holds Tryd.pinned (.plain (OpenSpec.upto fnTypeSOASpec)) fnTypeSOAUptoCard
end Rows
end Go.Proofs.YtjafnfeamlabbaaDoor
