/-
  DERIVED. GIVEN WITH THE SEED: THE CARDS: each row of YtijhpaejdchjgaaDoorRows.lean that lists a variable, with what it lists TIED to the program's text (the seventh form; the later family's looks); each row that meets fmt, with fmt's text TOLD by the authors' own Lean function (tested against real Go, not proved from fmt's source: count such statements apart). THE CARD IS WHAT COUNTS. Prove the row's statement (the work); the ties are given (YtijhpaejdchjgaaDoorTie.lean); close each card by the builder's one call (the guide's Derived/Test/ToyasCard.lean, 'card_holds'). Laid BY PROGRAM, IN A SANDBOX (cutbox-door.mjs). By AI agents, Wed Nov 11 2026. No macro, syntax, notation, axiom, sorry.
-/
import Derived.Test.YtijhpaejdchjgaaDoorRows
import GoSem.ClaimSeven
namespace Go.Proofs.YtijhpaejdchjgaaDoor
namespace Rows

/-- THE TIED CARD OF 'laws.FnLateShort'. -/
def fnLateShortCard : Claim7 := { stood := { row := fnLateShortRow, standIns := [], harness := (true, "d307ba63b9be1f055e3aa88a29b8f9d4cd4b21e87ad7c0975fc9ccb26201e7d2"), looks := true }, kinds := [], alts := [], laidByText := true, laidKinds := [.sentinel, .sentinel, .sentinel, .sentinel, .sentinel, .sentinel, .sentinel, .sentinel, .sentinel, .sentinel, .sentinel], laidTests := true, laidLooks := .later }
def FnLateShortCardSaid : Prop := Claim7.holds Tryd.pinned (.plain (OpenSpec.ofChange fnLateShortSpec)) fnLateShortCard

/-- THE TIED CARD OF 'laws.FnNoLonger'. -/
def fnNoLongerCard : Claim7 := { stood := { row := fnNoLongerRow, standIns := [], harness := (true, "d307ba63b9be1f055e3aa88a29b8f9d4cd4b21e87ad7c0975fc9ccb26201e7d2"), looks := true }, kinds := [], alts := [], laidByText := true, laidKinds := [.sentinel, .sentinel, .sentinel, .sentinel, .sentinel, .sentinel, .sentinel, .sentinel, .sentinel, .sentinel, .sentinel], laidTests := true, laidLooks := .later }
def FnNoLongerCardSaid : Prop := Claim7.holds Tryd.pinned (.plain (OpenSpec.ofChange fnNoLongerSpec)) fnNoLongerCard

/-- THE TIED CARD OF 'laws.FnOwnerNS'. -/
def fnOwnerNSCard : Claim7 := { stood := { row := fnOwnerNSRow, standIns := [], harness := (true, "d307ba63b9be1f055e3aa88a29b8f9d4cd4b21e87ad7c0975fc9ccb26201e7d2"), looks := true }, kinds := [], alts := [], laidByText := true, laidKinds := [.sentinel, .sentinel, .sentinel, .sentinel, .sentinel, .sentinel, .sentinel, .sentinel, .sentinel, .sentinel, .sentinel], laidTests := true, laidLooks := .later }
def FnOwnerNSCardSaid : Prop := Claim7.holds Tryd.pinned (.plain (OpenSpec.ofChange fnOwnerNSSpec)) fnOwnerNSCard

/-- THE TIED CARD OF 'laws.FnOwnerPTR'. -/
def fnOwnerPTRCard : Claim7 := { stood := { row := fnOwnerPTRRow, standIns := [], harness := (true, "d307ba63b9be1f055e3aa88a29b8f9d4cd4b21e87ad7c0975fc9ccb26201e7d2"), looks := true }, kinds := [], alts := [], laidByText := true, laidKinds := [.sentinel, .sentinel, .sentinel, .sentinel, .sentinel, .sentinel, .sentinel, .sentinel, .sentinel, .sentinel, .sentinel], laidTests := true, laidLooks := .later }
def FnOwnerPTRCardSaid : Prop := Claim7.holds Tryd.pinned (.plain (OpenSpec.ofChange fnOwnerPTRSpec)) fnOwnerPTRCard

/-- THE TIED CARD OF 'laws.FnShortNS'. -/
def fnShortNSCard : Claim7 := { stood := { row := fnShortNSRow, standIns := [], harness := (true, "d307ba63b9be1f055e3aa88a29b8f9d4cd4b21e87ad7c0975fc9ccb26201e7d2"), looks := true }, kinds := [], alts := [], laidByText := true, laidKinds := [.sentinel, .sentinel, .sentinel, .sentinel, .sentinel, .sentinel, .sentinel, .sentinel, .sentinel, .sentinel, .sentinel], laidTests := true, laidLooks := .later }
def FnShortNSCardSaid : Prop := Claim7.holds Tryd.pinned (.plain (OpenSpec.ofChange fnShortNSSpec)) fnShortNSCard

/-- THE TIED CARD OF 'laws.FnRefusedCNAME'. -/
def fnRefusedCNAMECard : Claim7 := { stood := { row := fnRefusedCNAMERow, standIns := [], harness := (true, "d307ba63b9be1f055e3aa88a29b8f9d4cd4b21e87ad7c0975fc9ccb26201e7d2"), looks := true }, kinds := [], alts := [], laidByText := true, laidKinds := [.sentinel, .sentinel, .sentinel, .sentinel, .sentinel, .sentinel, .sentinel, .sentinel, .sentinel, .sentinel, .sentinel], laidTests := true, laidLooks := .later }
def FnRefusedCNAMECardSaid : Prop := Claim7.holds Tryd.pinned (.plain (OpenSpec.ofChange fnRefusedCNAMESpec)) fnRefusedCNAMECard

/-- THE TIED CARD OF 'laws.FnShortCNAME'. -/
def fnShortCNAMECard : Claim7 := { stood := { row := fnShortCNAMERow, standIns := [], harness := (true, "d307ba63b9be1f055e3aa88a29b8f9d4cd4b21e87ad7c0975fc9ccb26201e7d2"), looks := true }, kinds := [], alts := [], laidByText := true, laidKinds := [.sentinel, .sentinel, .sentinel, .sentinel, .sentinel, .sentinel, .sentinel, .sentinel, .sentinel, .sentinel, .sentinel], laidTests := true, laidLooks := .later }
def FnShortCNAMECardSaid : Prop := Claim7.holds Tryd.pinned (.plain (OpenSpec.ofChange fnShortCNAMESpec)) fnShortCNAMECard

/-- THE TIED CARD OF 'laws.FnHostSRV'. -/
def fnHostSRVCard : Claim7 := { stood := { row := fnHostSRVRow, standIns := [], harness := (true, "d307ba63b9be1f055e3aa88a29b8f9d4cd4b21e87ad7c0975fc9ccb26201e7d2"), looks := true }, kinds := [], alts := [], laidByText := true, laidKinds := [.sentinel, .sentinel, .sentinel, .sentinel, .sentinel, .sentinel, .sentinel, .sentinel, .sentinel, .sentinel, .sentinel], laidTests := true, laidLooks := .later }
def FnHostSRVCardSaid : Prop := Claim7.holds Tryd.pinned (.plain (OpenSpec.ofChange fnHostSRVSpec)) fnHostSRVCard

/-- THE TIED CARD OF 'laws.FnShortSRV'. -/
def fnShortSRVCard : Claim7 := { stood := { row := fnShortSRVRow, standIns := [], harness := (true, "d307ba63b9be1f055e3aa88a29b8f9d4cd4b21e87ad7c0975fc9ccb26201e7d2"), looks := true }, kinds := [], alts := [], laidByText := true, laidKinds := [.sentinel, .sentinel, .sentinel, .sentinel, .sentinel, .sentinel, .sentinel, .sentinel, .sentinel, .sentinel, .sentinel], laidTests := true, laidLooks := .later }
def FnShortSRVCardSaid : Prop := Claim7.holds Tryd.pinned (.plain (OpenSpec.ofChange fnShortSRVSpec)) fnShortSRVCard

/-- THE SECOND FORM's CARD OF 'laws.FnLateShort'. -/
def fnLateShortUptoCard : Claim7 := { stood := { row := fnLateShortUptoRow, standIns := [], harness := (true, "d307ba63b9be1f055e3aa88a29b8f9d4cd4b21e87ad7c0975fc9ccb26201e7d2"), looks := true }, kinds := [], alts := [], laidByText := true, laidKinds := [.sentinel, .sentinel, .sentinel, .sentinel, .sentinel, .sentinel, .sentinel, .sentinel, .sentinel, .sentinel, .sentinel], laidTests := true, laidLooks := .later }
def FnLateShortUptoCardSaid : Prop := Claim7.holds Tryd.pinned (.plain (OpenSpec.upto fnLateShortSpec)) fnLateShortUptoCard

/-- THE SECOND FORM's CARD OF 'laws.FnNoLonger'. -/
def fnNoLongerUptoCard : Claim7 := { stood := { row := fnNoLongerUptoRow, standIns := [], harness := (true, "d307ba63b9be1f055e3aa88a29b8f9d4cd4b21e87ad7c0975fc9ccb26201e7d2"), looks := true }, kinds := [], alts := [], laidByText := true, laidKinds := [.sentinel, .sentinel, .sentinel, .sentinel, .sentinel, .sentinel, .sentinel, .sentinel, .sentinel, .sentinel, .sentinel], laidTests := true, laidLooks := .later }
def FnNoLongerUptoCardSaid : Prop := Claim7.holds Tryd.pinned (.plain (OpenSpec.upto fnNoLongerSpec)) fnNoLongerUptoCard

/-- THE SECOND FORM's CARD OF 'laws.FnOwnerNS'. -/
def fnOwnerNSUptoCard : Claim7 := { stood := { row := fnOwnerNSUptoRow, standIns := [], harness := (true, "d307ba63b9be1f055e3aa88a29b8f9d4cd4b21e87ad7c0975fc9ccb26201e7d2"), looks := true }, kinds := [], alts := [], laidByText := true, laidKinds := [.sentinel, .sentinel, .sentinel, .sentinel, .sentinel, .sentinel, .sentinel, .sentinel, .sentinel, .sentinel, .sentinel], laidTests := true, laidLooks := .later }
def FnOwnerNSUptoCardSaid : Prop := Claim7.holds Tryd.pinned (.plain (OpenSpec.upto fnOwnerNSSpec)) fnOwnerNSUptoCard

/-- THE SECOND FORM's CARD OF 'laws.FnOwnerPTR'. -/
def fnOwnerPTRUptoCard : Claim7 := { stood := { row := fnOwnerPTRUptoRow, standIns := [], harness := (true, "d307ba63b9be1f055e3aa88a29b8f9d4cd4b21e87ad7c0975fc9ccb26201e7d2"), looks := true }, kinds := [], alts := [], laidByText := true, laidKinds := [.sentinel, .sentinel, .sentinel, .sentinel, .sentinel, .sentinel, .sentinel, .sentinel, .sentinel, .sentinel, .sentinel], laidTests := true, laidLooks := .later }
def FnOwnerPTRUptoCardSaid : Prop := Claim7.holds Tryd.pinned (.plain (OpenSpec.upto fnOwnerPTRSpec)) fnOwnerPTRUptoCard

/-- THE SECOND FORM's CARD OF 'laws.FnShortNS'. -/
def fnShortNSUptoCard : Claim7 := { stood := { row := fnShortNSUptoRow, standIns := [], harness := (true, "d307ba63b9be1f055e3aa88a29b8f9d4cd4b21e87ad7c0975fc9ccb26201e7d2"), looks := true }, kinds := [], alts := [], laidByText := true, laidKinds := [.sentinel, .sentinel, .sentinel, .sentinel, .sentinel, .sentinel, .sentinel, .sentinel, .sentinel, .sentinel, .sentinel], laidTests := true, laidLooks := .later }
def FnShortNSUptoCardSaid : Prop := Claim7.holds Tryd.pinned (.plain (OpenSpec.upto fnShortNSSpec)) fnShortNSUptoCard

/-- THE SECOND FORM's CARD OF 'laws.FnRefusedCNAME'. -/
def fnRefusedCNAMEUptoCard : Claim7 := { stood := { row := fnRefusedCNAMEUptoRow, standIns := [], harness := (true, "d307ba63b9be1f055e3aa88a29b8f9d4cd4b21e87ad7c0975fc9ccb26201e7d2"), looks := true }, kinds := [], alts := [], laidByText := true, laidKinds := [.sentinel, .sentinel, .sentinel, .sentinel, .sentinel, .sentinel, .sentinel, .sentinel, .sentinel, .sentinel, .sentinel], laidTests := true, laidLooks := .later }
def FnRefusedCNAMEUptoCardSaid : Prop := Claim7.holds Tryd.pinned (.plain (OpenSpec.upto fnRefusedCNAMESpec)) fnRefusedCNAMEUptoCard

/-- THE SECOND FORM's CARD OF 'laws.FnShortCNAME'. -/
def fnShortCNAMEUptoCard : Claim7 := { stood := { row := fnShortCNAMEUptoRow, standIns := [], harness := (true, "d307ba63b9be1f055e3aa88a29b8f9d4cd4b21e87ad7c0975fc9ccb26201e7d2"), looks := true }, kinds := [], alts := [], laidByText := true, laidKinds := [.sentinel, .sentinel, .sentinel, .sentinel, .sentinel, .sentinel, .sentinel, .sentinel, .sentinel, .sentinel, .sentinel], laidTests := true, laidLooks := .later }
def FnShortCNAMEUptoCardSaid : Prop := Claim7.holds Tryd.pinned (.plain (OpenSpec.upto fnShortCNAMESpec)) fnShortCNAMEUptoCard

/-- THE SECOND FORM's CARD OF 'laws.FnHostSRV'. -/
def fnHostSRVUptoCard : Claim7 := { stood := { row := fnHostSRVUptoRow, standIns := [], harness := (true, "d307ba63b9be1f055e3aa88a29b8f9d4cd4b21e87ad7c0975fc9ccb26201e7d2"), looks := true }, kinds := [], alts := [], laidByText := true, laidKinds := [.sentinel, .sentinel, .sentinel, .sentinel, .sentinel, .sentinel, .sentinel, .sentinel, .sentinel, .sentinel, .sentinel], laidTests := true, laidLooks := .later }
def FnHostSRVUptoCardSaid : Prop := Claim7.holds Tryd.pinned (.plain (OpenSpec.upto fnHostSRVSpec)) fnHostSRVUptoCard

/-- THE SECOND FORM's CARD OF 'laws.FnShortSRV'. -/
def fnShortSRVUptoCard : Claim7 := { stood := { row := fnShortSRVUptoRow, standIns := [], harness := (true, "d307ba63b9be1f055e3aa88a29b8f9d4cd4b21e87ad7c0975fc9ccb26201e7d2"), looks := true }, kinds := [], alts := [], laidByText := true, laidKinds := [.sentinel, .sentinel, .sentinel, .sentinel, .sentinel, .sentinel, .sentinel, .sentinel, .sentinel, .sentinel, .sentinel], laidTests := true, laidLooks := .later }
def FnShortSRVUptoCardSaid : Prop := Claim7.holds Tryd.pinned (.plain (OpenSpec.upto fnShortSRVSpec)) fnShortSRVUptoCard
end Rows
end Go.Proofs.YtijhpaejdchjgaaDoor
