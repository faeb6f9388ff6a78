/-
  DERIVED. GIVEN WITH THE SEED: THE CARDS: each row of YtgckgbppbcedaaaDoorRows.lean that lists a variable, with what it lists TIED to the program's text (the seventh form; the later family's looks); each row that meets fmt, with fmt's text TOLD by the authors' own Lean function (tested against real Go, not proved from fmt's source: count such statements apart). THE CARD IS WHAT COUNTS. Prove the row's statement (the work); the ties are given (YtgckgbppbcedaaaDoorTie.lean); close each card by the builder's one call (the guide's Derived/Test/ToyasCard.lean, 'card_holds'). Laid BY PROGRAM, IN A SANDBOX (cutbox-door.mjs). By AI agents, Wed Nov 11 2026. No macro, syntax, notation, axiom, sorry.
-/
import Derived.Test.YtgckgbppbcedaaaDoorRows
import GoSem.ClaimSeven
namespace Go.Proofs.YtgckgbppbcedaaaDoor
namespace Rows

/-- THE TIED CARD OF 'laws.FnHostCNAME'. -/
def fnHostCNAMECard : Claim7 := { stood := { row := fnHostCNAMERow, standIns := [], harness := (true, "7d1e966e64a53b8213fcee10fe5f9a917b8611b3c358a3e1e5ca0cf869091eec"), looks := true }, kinds := [], alts := [], laidByText := true, laidKinds := [.sentinel, .sentinel, .sentinel, .sentinel, .sentinel, .sentinel, .sentinel, .sentinel, .sentinel, .sentinel, .sentinel], laidTests := true, laidLooks := .later }
def FnHostCNAMECardSaid : Prop := Claim7.holds Tryd.pinned (.plain (OpenSpec.ofChange fnHostCNAMESpec)) fnHostCNAMECard

/-- THE TIED CARD OF 'laws.FnRefusedCNAME'. -/
def fnRefusedCNAMECard : Claim7 := { stood := { row := fnRefusedCNAMERow, standIns := [], harness := (true, "7d1e966e64a53b8213fcee10fe5f9a917b8611b3c358a3e1e5ca0cf869091eec"), looks := true }, kinds := [], alts := [], laidByText := true, laidKinds := [.sentinel, .sentinel, .sentinel, .sentinel, .sentinel, .sentinel, .sentinel, .sentinel, .sentinel, .sentinel, .sentinel], laidTests := true, laidLooks := .later }
def FnRefusedCNAMECardSaid : Prop := Claim7.holds Tryd.pinned (.plain (OpenSpec.ofChange fnRefusedCNAMESpec)) fnRefusedCNAMECard

/-- THE TIED CARD OF 'laws.FnShortCNAME'. -/
def fnShortCNAMECard : Claim7 := { stood := { row := fnShortCNAMERow, standIns := [], harness := (true, "7d1e966e64a53b8213fcee10fe5f9a917b8611b3c358a3e1e5ca0cf869091eec"), looks := true }, kinds := [], alts := [], laidByText := true, laidKinds := [.sentinel, .sentinel, .sentinel, .sentinel, .sentinel, .sentinel, .sentinel, .sentinel, .sentinel, .sentinel, .sentinel], laidTests := true, laidLooks := .later }
def FnShortCNAMECardSaid : Prop := Claim7.holds Tryd.pinned (.plain (OpenSpec.ofChange fnShortCNAMESpec)) fnShortCNAMECard

/-- THE TIED CARD OF 'laws.FnTypeCNAME'. -/
def fnTypeCNAMECard : Claim7 := { stood := { row := fnTypeCNAMERow, standIns := [], harness := (true, "7d1e966e64a53b8213fcee10fe5f9a917b8611b3c358a3e1e5ca0cf869091eec"), looks := true }, kinds := [], alts := [], laidByText := true, laidKinds := [.sentinel, .sentinel, .sentinel, .sentinel, .sentinel, .sentinel, .sentinel, .sentinel, .sentinel, .sentinel, .sentinel], laidTests := true, laidLooks := .later }
def FnTypeCNAMECardSaid : Prop := Claim7.holds Tryd.pinned (.plain (OpenSpec.ofChange fnTypeCNAMESpec)) fnTypeCNAMECard

/-- THE TIED CARD OF 'laws.FnRefusedMX'. -/
def fnRefusedMXCard : Claim7 := { stood := { row := fnRefusedMXRow, standIns := [], harness := (true, "7d1e966e64a53b8213fcee10fe5f9a917b8611b3c358a3e1e5ca0cf869091eec"), looks := true }, kinds := [], alts := [], laidByText := true, laidKinds := [.sentinel, .sentinel, .sentinel, .sentinel, .sentinel, .sentinel, .sentinel, .sentinel, .sentinel, .sentinel, .sentinel], laidTests := true, laidLooks := .later }
def FnRefusedMXCardSaid : Prop := Claim7.holds Tryd.pinned (.plain (OpenSpec.ofChange fnRefusedMXSpec)) fnRefusedMXCard

/-- THE TIED CARD OF 'laws.FnShortMX'. -/
def fnShortMXCard : Claim7 := { stood := { row := fnShortMXRow, standIns := [], harness := (true, "7d1e966e64a53b8213fcee10fe5f9a917b8611b3c358a3e1e5ca0cf869091eec"), looks := true }, kinds := [], alts := [], laidByText := true, laidKinds := [.sentinel, .sentinel, .sentinel, .sentinel, .sentinel, .sentinel, .sentinel, .sentinel, .sentinel, .sentinel, .sentinel], laidTests := true, laidLooks := .later }
def FnShortMXCardSaid : Prop := Claim7.holds Tryd.pinned (.plain (OpenSpec.ofChange fnShortMXSpec)) fnShortMXCard

/-- THE TIED CARD OF 'laws.FnTypeMX'. -/
def fnTypeMXCard : Claim7 := { stood := { row := fnTypeMXRow, standIns := [], harness := (true, "7d1e966e64a53b8213fcee10fe5f9a917b8611b3c358a3e1e5ca0cf869091eec"), looks := true }, kinds := [], alts := [], laidByText := true, laidKinds := [.sentinel, .sentinel, .sentinel, .sentinel, .sentinel, .sentinel, .sentinel, .sentinel, .sentinel, .sentinel, .sentinel], laidTests := true, laidLooks := .later }
def FnTypeMXCardSaid : Prop := Claim7.holds Tryd.pinned (.plain (OpenSpec.ofChange fnTypeMXSpec)) fnTypeMXCard

/-- THE TIED CARD OF 'laws.FnHostSRV'. -/
def fnHostSRVCard : Claim7 := { stood := { row := fnHostSRVRow, standIns := [], harness := (true, "7d1e966e64a53b8213fcee10fe5f9a917b8611b3c358a3e1e5ca0cf869091eec"), looks := true }, kinds := [], alts := [], laidByText := true, laidKinds := [.sentinel, .sentinel, .sentinel, .sentinel, .sentinel, .sentinel, .sentinel, .sentinel, .sentinel, .sentinel, .sentinel], laidTests := true, laidLooks := .later }
def FnHostSRVCardSaid : Prop := Claim7.holds Tryd.pinned (.plain (OpenSpec.ofChange fnHostSRVSpec)) fnHostSRVCard

/-- THE TIED CARD OF 'laws.FnRefusedSRV'. -/
def fnRefusedSRVCard : Claim7 := { stood := { row := fnRefusedSRVRow, standIns := [], harness := (true, "7d1e966e64a53b8213fcee10fe5f9a917b8611b3c358a3e1e5ca0cf869091eec"), looks := true }, kinds := [], alts := [], laidByText := true, laidKinds := [.sentinel, .sentinel, .sentinel, .sentinel, .sentinel, .sentinel, .sentinel, .sentinel, .sentinel, .sentinel, .sentinel], laidTests := true, laidLooks := .later }
def FnRefusedSRVCardSaid : Prop := Claim7.holds Tryd.pinned (.plain (OpenSpec.ofChange fnRefusedSRVSpec)) fnRefusedSRVCard

/-- THE TIED CARD OF 'laws.FnShortSRV'. -/
def fnShortSRVCard : Claim7 := { stood := { row := fnShortSRVRow, standIns := [], harness := (true, "7d1e966e64a53b8213fcee10fe5f9a917b8611b3c358a3e1e5ca0cf869091eec"), looks := true }, kinds := [], alts := [], laidByText := true, laidKinds := [.sentinel, .sentinel, .sentinel, .sentinel, .sentinel, .sentinel, .sentinel, .sentinel, .sentinel, .sentinel, .sentinel], laidTests := true, laidLooks := .later }
def FnShortSRVCardSaid : Prop := Claim7.holds Tryd.pinned (.plain (OpenSpec.ofChange fnShortSRVSpec)) fnShortSRVCard

/-- THE TIED CARD OF 'laws.FnTypeSRV'. -/
def fnTypeSRVCard : Claim7 := { stood := { row := fnTypeSRVRow, standIns := [], harness := (true, "7d1e966e64a53b8213fcee10fe5f9a917b8611b3c358a3e1e5ca0cf869091eec"), looks := true }, kinds := [], alts := [], laidByText := true, laidKinds := [.sentinel, .sentinel, .sentinel, .sentinel, .sentinel, .sentinel, .sentinel, .sentinel, .sentinel, .sentinel, .sentinel], laidTests := true, laidLooks := .later }
def FnTypeSRVCardSaid : Prop := Claim7.holds Tryd.pinned (.plain (OpenSpec.ofChange fnTypeSRVSpec)) fnTypeSRVCard

/-- THE SECOND FORM's CARD OF 'laws.FnHostCNAME'. -/
def fnHostCNAMEUptoCard : Claim7 := { stood := { row := fnHostCNAMEUptoRow, standIns := [], harness := (true, "7d1e966e64a53b8213fcee10fe5f9a917b8611b3c358a3e1e5ca0cf869091eec"), looks := true }, kinds := [], alts := [], laidByText := true, laidKinds := [.sentinel, .sentinel, .sentinel, .sentinel, .sentinel, .sentinel, .sentinel, .sentinel, .sentinel, .sentinel, .sentinel], laidTests := true, laidLooks := .later }
def FnHostCNAMEUptoCardSaid : Prop := Claim7.holds Tryd.pinned (.plain (OpenSpec.upto fnHostCNAMESpec)) fnHostCNAMEUptoCard

/-- THE SECOND FORM's CARD OF 'laws.FnRefusedCNAME'. -/
def fnRefusedCNAMEUptoCard : Claim7 := { stood := { row := fnRefusedCNAMEUptoRow, standIns := [], harness := (true, "7d1e966e64a53b8213fcee10fe5f9a917b8611b3c358a3e1e5ca0cf869091eec"), looks := true }, kinds := [], alts := [], laidByText := true, laidKinds := [.sentinel, .sentinel, .sentinel, .sentinel, .sentinel, .sentinel, .sentinel, .sentinel, .sentinel, .sentinel, .sentinel], laidTests := true, laidLooks := .later }
def FnRefusedCNAMEUptoCardSaid : Prop := Claim7.holds Tryd.pinned (.plain (OpenSpec.upto fnRefusedCNAMESpec)) fnRefusedCNAMEUptoCard

/-- THE SECOND FORM's CARD OF 'laws.FnShortCNAME'. -/
def fnShortCNAMEUptoCard : Claim7 := { stood := { row := fnShortCNAMEUptoRow, standIns := [], harness := (true, "7d1e966e64a53b8213fcee10fe5f9a917b8611b3c358a3e1e5ca0cf869091eec"), looks := true }, kinds := [], alts := [], laidByText := true, laidKinds := [.sentinel, .sentinel, .sentinel, .sentinel, .sentinel, .sentinel, .sentinel, .sentinel, .sentinel, .sentinel, .sentinel], laidTests := true, laidLooks := .later }
def FnShortCNAMEUptoCardSaid : Prop := Claim7.holds Tryd.pinned (.plain (OpenSpec.upto fnShortCNAMESpec)) fnShortCNAMEUptoCard

/-- THE SECOND FORM's CARD OF 'laws.FnTypeCNAME'. -/
def fnTypeCNAMEUptoCard : Claim7 := { stood := { row := fnTypeCNAMEUptoRow, standIns := [], harness := (true, "7d1e966e64a53b8213fcee10fe5f9a917b8611b3c358a3e1e5ca0cf869091eec"), looks := true }, kinds := [], alts := [], laidByText := true, laidKinds := [.sentinel, .sentinel, .sentinel, .sentinel, .sentinel, .sentinel, .sentinel, .sentinel, .sentinel, .sentinel, .sentinel], laidTests := true, laidLooks := .later }
def FnTypeCNAMEUptoCardSaid : Prop := Claim7.holds Tryd.pinned (.plain (OpenSpec.upto fnTypeCNAMESpec)) fnTypeCNAMEUptoCard

/-- THE SECOND FORM's CARD OF 'laws.FnRefusedMX'. -/
def fnRefusedMXUptoCard : Claim7 := { stood := { row := fnRefusedMXUptoRow, standIns := [], harness := (true, "7d1e966e64a53b8213fcee10fe5f9a917b8611b3c358a3e1e5ca0cf869091eec"), looks := true }, kinds := [], alts := [], laidByText := true, laidKinds := [.sentinel, .sentinel, .sentinel, .sentinel, .sentinel, .sentinel, .sentinel, .sentinel, .sentinel, .sentinel, .sentinel], laidTests := true, laidLooks := .later }
def FnRefusedMXUptoCardSaid : Prop := Claim7.holds Tryd.pinned (.plain (OpenSpec.upto fnRefusedMXSpec)) fnRefusedMXUptoCard

/-- THE SECOND FORM's CARD OF 'laws.FnShortMX'. -/
def fnShortMXUptoCard : Claim7 := { stood := { row := fnShortMXUptoRow, standIns := [], harness := (true, "7d1e966e64a53b8213fcee10fe5f9a917b8611b3c358a3e1e5ca0cf869091eec"), looks := true }, kinds := [], alts := [], laidByText := true, laidKinds := [.sentinel, .sentinel, .sentinel, .sentinel, .sentinel, .sentinel, .sentinel, .sentinel, .sentinel, .sentinel, .sentinel], laidTests := true, laidLooks := .later }
def FnShortMXUptoCardSaid : Prop := Claim7.holds Tryd.pinned (.plain (OpenSpec.upto fnShortMXSpec)) fnShortMXUptoCard

/-- THE SECOND FORM's CARD OF 'laws.FnTypeMX'. -/
def fnTypeMXUptoCard : Claim7 := { stood := { row := fnTypeMXUptoRow, standIns := [], harness := (true, "7d1e966e64a53b8213fcee10fe5f9a917b8611b3c358a3e1e5ca0cf869091eec"), looks := true }, kinds := [], alts := [], laidByText := true, laidKinds := [.sentinel, .sentinel, .sentinel, .sentinel, .sentinel, .sentinel, .sentinel, .sentinel, .sentinel, .sentinel, .sentinel], laidTests := true, laidLooks := .later }
def FnTypeMXUptoCardSaid : Prop := Claim7.holds Tryd.pinned (.plain (OpenSpec.upto fnTypeMXSpec)) fnTypeMXUptoCard

/-- THE SECOND FORM's CARD OF 'laws.FnHostSRV'. -/
def fnHostSRVUptoCard : Claim7 := { stood := { row := fnHostSRVUptoRow, standIns := [], harness := (true, "7d1e966e64a53b8213fcee10fe5f9a917b8611b3c358a3e1e5ca0cf869091eec"), looks := true }, kinds := [], alts := [], laidByText := true, laidKinds := [.sentinel, .sentinel, .sentinel, .sentinel, .sentinel, .sentinel, .sentinel, .sentinel, .sentinel, .sentinel, .sentinel], laidTests := true, laidLooks := .later }
def FnHostSRVUptoCardSaid : Prop := Claim7.holds Tryd.pinned (.plain (OpenSpec.upto fnHostSRVSpec)) fnHostSRVUptoCard

/-- THE SECOND FORM's CARD OF 'laws.FnRefusedSRV'. -/
def fnRefusedSRVUptoCard : Claim7 := { stood := { row := fnRefusedSRVUptoRow, standIns := [], harness := (true, "7d1e966e64a53b8213fcee10fe5f9a917b8611b3c358a3e1e5ca0cf869091eec"), looks := true }, kinds := [], alts := [], laidByText := true, laidKinds := [.sentinel, .sentinel, .sentinel, .sentinel, .sentinel, .sentinel, .sentinel, .sentinel, .sentinel, .sentinel, .sentinel], laidTests := true, laidLooks := .later }
def FnRefusedSRVUptoCardSaid : Prop := Claim7.holds Tryd.pinned (.plain (OpenSpec.upto fnRefusedSRVSpec)) fnRefusedSRVUptoCard

/-- THE SECOND FORM's CARD OF 'laws.FnShortSRV'. -/
def fnShortSRVUptoCard : Claim7 := { stood := { row := fnShortSRVUptoRow, standIns := [], harness := (true, "7d1e966e64a53b8213fcee10fe5f9a917b8611b3c358a3e1e5ca0cf869091eec"), looks := true }, kinds := [], alts := [], laidByText := true, laidKinds := [.sentinel, .sentinel, .sentinel, .sentinel, .sentinel, .sentinel, .sentinel, .sentinel, .sentinel, .sentinel, .sentinel], laidTests := true, laidLooks := .later }
def FnShortSRVUptoCardSaid : Prop := Claim7.holds Tryd.pinned (.plain (OpenSpec.upto fnShortSRVSpec)) fnShortSRVUptoCard

/-- THE SECOND FORM's CARD OF 'laws.FnTypeSRV'. -/
def fnTypeSRVUptoCard : Claim7 := { stood := { row := fnTypeSRVUptoRow, standIns := [], harness := (true, "7d1e966e64a53b8213fcee10fe5f9a917b8611b3c358a3e1e5ca0cf869091eec"), looks := true }, kinds := [], alts := [], laidByText := true, laidKinds := [.sentinel, .sentinel, .sentinel, .sentinel, .sentinel, .sentinel, .sentinel, .sentinel, .sentinel, .sentinel, .sentinel], laidTests := true, laidLooks := .later }
def FnTypeSRVUptoCardSaid : Prop := Claim7.holds Tryd.pinned (.plain (OpenSpec.upto fnTypeSRVSpec)) fnTypeSRVUptoCard
end Rows
end Go.Proofs.YtgckgbppbcedaaaDoor
