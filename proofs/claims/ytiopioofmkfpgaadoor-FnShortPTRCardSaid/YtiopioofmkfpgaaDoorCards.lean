/-
  DERIVED. GIVEN WITH THE SEED: THE CARDS: each row of YtiopioofmkfpgaaDoorRows.lean that lists a variable, with what it lists TIED to the program's text (the seventh form; the later family's looks); each row that meets fmt, with fmt's text TOLD by the authors' own Lean function (tested against real Go, not proved from fmt's source: count such statements apart). THE CARD IS WHAT COUNTS. Prove the row's statement (the work); the ties are given (YtiopioofmkfpgaaDoorTie.lean); close each card by the builder's one call (the guide's Derived/Test/ToyasCard.lean, 'card_holds'). Laid BY PROGRAM, IN A SANDBOX (cutbox-door.mjs). By AI agents, Wed Nov 11 2026. No macro, syntax, notation, axiom, sorry.
-/
import Derived.Test.YtiopioofmkfpgaaDoorRows
import GoSem.ClaimSeven
namespace Go.Proofs.YtiopioofmkfpgaaDoor
namespace Rows

/-- THE TIED CARD OF 'laws.FnBehindAsks'. -/
def fnBehindAsksCard : Claim7 := { stood := { row := fnBehindAsksRow, standIns := [], harness := (true, "dab0c1935681a554b6f7e8828458f4ea42c1a44a09fd749215ddb48afe50b8f5"), looks := true }, kinds := [], alts := [], laidByText := true, laidKinds := [.sentinel, .sentinel, .sentinel, .sentinel, .sentinel, .sentinel, .sentinel, .sentinel, .sentinel, .sentinel], laidTests := true, laidLooks := .later }
def FnBehindAsksCardSaid : Prop := Claim7.holds Tryd.pinned (.plain (OpenSpec.ofChange fnBehindAsksSpec)) fnBehindAsksCard

/-- THE TIED CARD OF 'laws.FnHostPTR'. -/
def fnHostPTRCard : Claim7 := { stood := { row := fnHostPTRRow, standIns := [], harness := (true, "dab0c1935681a554b6f7e8828458f4ea42c1a44a09fd749215ddb48afe50b8f5"), looks := true }, kinds := [], alts := [], laidByText := true, laidKinds := [.sentinel, .sentinel, .sentinel, .sentinel, .sentinel, .sentinel, .sentinel, .sentinel, .sentinel, .sentinel, .sentinel], laidTests := true, laidLooks := .later }
def FnHostPTRCardSaid : Prop := Claim7.holds Tryd.pinned (.plain (OpenSpec.ofChange fnHostPTRSpec)) fnHostPTRCard

/-- THE TIED CARD OF 'laws.FnLateShort'. -/
def fnLateShortCard : Claim7 := { stood := { row := fnLateShortRow, standIns := [], harness := (true, "dab0c1935681a554b6f7e8828458f4ea42c1a44a09fd749215ddb48afe50b8f5"), looks := true }, kinds := [], alts := [], laidByText := true, laidKinds := [.sentinel, .sentinel, .sentinel, .sentinel, .sentinel, .sentinel, .sentinel, .sentinel, .sentinel, .sentinel, .sentinel], laidTests := true, laidLooks := .later }
def FnLateShortCardSaid : Prop := Claim7.holds Tryd.pinned (.plain (OpenSpec.ofChange fnLateShortSpec)) fnLateShortCard

/-- THE TIED CARD OF 'laws.FnNoLonger'. -/
def fnNoLongerCard : Claim7 := { stood := { row := fnNoLongerRow, standIns := [], harness := (true, "dab0c1935681a554b6f7e8828458f4ea42c1a44a09fd749215ddb48afe50b8f5"), looks := true }, kinds := [], alts := [], laidByText := true, laidKinds := [.sentinel, .sentinel, .sentinel, .sentinel, .sentinel, .sentinel, .sentinel, .sentinel, .sentinel, .sentinel, .sentinel], laidTests := true, laidLooks := .later }
def FnNoLongerCardSaid : Prop := Claim7.holds Tryd.pinned (.plain (OpenSpec.ofChange fnNoLongerSpec)) fnNoLongerCard

/-- THE TIED CARD OF 'laws.FnOwnerNS'. -/
def fnOwnerNSCard : Claim7 := { stood := { row := fnOwnerNSRow, standIns := [], harness := (true, "dab0c1935681a554b6f7e8828458f4ea42c1a44a09fd749215ddb48afe50b8f5"), looks := true }, kinds := [], alts := [], laidByText := true, laidKinds := [.sentinel, .sentinel, .sentinel, .sentinel, .sentinel, .sentinel, .sentinel, .sentinel, .sentinel, .sentinel, .sentinel], laidTests := true, laidLooks := .later }
def FnOwnerNSCardSaid : Prop := Claim7.holds Tryd.pinned (.plain (OpenSpec.ofChange fnOwnerNSSpec)) fnOwnerNSCard

/-- THE TIED CARD OF 'laws.FnOwnerPTR'. -/
def fnOwnerPTRCard : Claim7 := { stood := { row := fnOwnerPTRRow, standIns := [], harness := (true, "dab0c1935681a554b6f7e8828458f4ea42c1a44a09fd749215ddb48afe50b8f5"), looks := true }, kinds := [], alts := [], laidByText := true, laidKinds := [.sentinel, .sentinel, .sentinel, .sentinel, .sentinel, .sentinel, .sentinel, .sentinel, .sentinel, .sentinel, .sentinel], laidTests := true, laidLooks := .later }
def FnOwnerPTRCardSaid : Prop := Claim7.holds Tryd.pinned (.plain (OpenSpec.ofChange fnOwnerPTRSpec)) fnOwnerPTRCard

/-- THE TIED CARD OF 'laws.FnRefusedNS'. -/
def fnRefusedNSCard : Claim7 := { stood := { row := fnRefusedNSRow, standIns := [], harness := (true, "dab0c1935681a554b6f7e8828458f4ea42c1a44a09fd749215ddb48afe50b8f5"), looks := true }, kinds := [], alts := [], laidByText := true, laidKinds := [.sentinel, .sentinel, .sentinel, .sentinel, .sentinel, .sentinel, .sentinel, .sentinel, .sentinel, .sentinel, .sentinel], laidTests := true, laidLooks := .later }
def FnRefusedNSCardSaid : Prop := Claim7.holds Tryd.pinned (.plain (OpenSpec.ofChange fnRefusedNSSpec)) fnRefusedNSCard

/-- THE TIED CARD OF 'laws.FnRefusedPTR'. -/
def fnRefusedPTRCard : Claim7 := { stood := { row := fnRefusedPTRRow, standIns := [], harness := (true, "dab0c1935681a554b6f7e8828458f4ea42c1a44a09fd749215ddb48afe50b8f5"), looks := true }, kinds := [], alts := [], laidByText := true, laidKinds := [.sentinel, .sentinel, .sentinel, .sentinel, .sentinel, .sentinel, .sentinel, .sentinel, .sentinel, .sentinel, .sentinel], laidTests := true, laidLooks := .later }
def FnRefusedPTRCardSaid : Prop := Claim7.holds Tryd.pinned (.plain (OpenSpec.ofChange fnRefusedPTRSpec)) fnRefusedPTRCard

/-- THE TIED CARD OF 'laws.FnShortNS'. -/
def fnShortNSCard : Claim7 := { stood := { row := fnShortNSRow, standIns := [], harness := (true, "dab0c1935681a554b6f7e8828458f4ea42c1a44a09fd749215ddb48afe50b8f5"), looks := true }, kinds := [], alts := [], laidByText := true, laidKinds := [.sentinel, .sentinel, .sentinel, .sentinel, .sentinel, .sentinel, .sentinel, .sentinel, .sentinel, .sentinel, .sentinel], laidTests := true, laidLooks := .later }
def FnShortNSCardSaid : Prop := Claim7.holds Tryd.pinned (.plain (OpenSpec.ofChange fnShortNSSpec)) fnShortNSCard

/-- THE TIED CARD OF 'laws.FnShortPTR'. -/
def fnShortPTRCard : Claim7 := { stood := { row := fnShortPTRRow, standIns := [], harness := (true, "dab0c1935681a554b6f7e8828458f4ea42c1a44a09fd749215ddb48afe50b8f5"), looks := true }, kinds := [], alts := [], laidByText := true, laidKinds := [.sentinel, .sentinel, .sentinel, .sentinel, .sentinel, .sentinel, .sentinel, .sentinel, .sentinel, .sentinel, .sentinel], laidTests := true, laidLooks := .later }
def FnShortPTRCardSaid : Prop := Claim7.holds Tryd.pinned (.plain (OpenSpec.ofChange fnShortPTRSpec)) fnShortPTRCard

/-- THE TIED CARD OF 'laws.FnTypeNS'. -/
def fnTypeNSCard : Claim7 := { stood := { row := fnTypeNSRow, standIns := [], harness := (true, "dab0c1935681a554b6f7e8828458f4ea42c1a44a09fd749215ddb48afe50b8f5"), looks := true }, kinds := [], alts := [], laidByText := true, laidKinds := [.sentinel, .sentinel, .sentinel, .sentinel, .sentinel, .sentinel, .sentinel, .sentinel, .sentinel, .sentinel, .sentinel], laidTests := true, laidLooks := .later }
def FnTypeNSCardSaid : Prop := Claim7.holds Tryd.pinned (.plain (OpenSpec.ofChange fnTypeNSSpec)) fnTypeNSCard

/-- THE TIED CARD OF 'laws.FnTypePTR'. -/
def fnTypePTRCard : Claim7 := { stood := { row := fnTypePTRRow, standIns := [], harness := (true, "dab0c1935681a554b6f7e8828458f4ea42c1a44a09fd749215ddb48afe50b8f5"), looks := true }, kinds := [], alts := [], laidByText := true, laidKinds := [.sentinel, .sentinel, .sentinel, .sentinel, .sentinel, .sentinel, .sentinel, .sentinel, .sentinel, .sentinel, .sentinel], laidTests := true, laidLooks := .later }
def FnTypePTRCardSaid : Prop := Claim7.holds Tryd.pinned (.plain (OpenSpec.ofChange fnTypePTRSpec)) fnTypePTRCard

/-- THE SECOND FORM's CARD OF 'laws.FnBehindAsks'. -/
def fnBehindAsksUptoCard : Claim7 := { stood := { row := fnBehindAsksUptoRow, standIns := [], harness := (true, "dab0c1935681a554b6f7e8828458f4ea42c1a44a09fd749215ddb48afe50b8f5"), looks := true }, kinds := [], alts := [], laidByText := true, laidKinds := [.sentinel, .sentinel, .sentinel, .sentinel, .sentinel, .sentinel, .sentinel, .sentinel, .sentinel, .sentinel], laidTests := true, laidLooks := .later }
def FnBehindAsksUptoCardSaid : Prop := Claim7.holds Tryd.pinned (.plain (OpenSpec.upto fnBehindAsksSpec)) fnBehindAsksUptoCard

/-- THE SECOND FORM's CARD OF 'laws.FnHostPTR'. -/
def fnHostPTRUptoCard : Claim7 := { stood := { row := fnHostPTRUptoRow, standIns := [], harness := (true, "dab0c1935681a554b6f7e8828458f4ea42c1a44a09fd749215ddb48afe50b8f5"), looks := true }, kinds := [], alts := [], laidByText := true, laidKinds := [.sentinel, .sentinel, .sentinel, .sentinel, .sentinel, .sentinel, .sentinel, .sentinel, .sentinel, .sentinel, .sentinel], laidTests := true, laidLooks := .later }
def FnHostPTRUptoCardSaid : Prop := Claim7.holds Tryd.pinned (.plain (OpenSpec.upto fnHostPTRSpec)) fnHostPTRUptoCard

/-- THE SECOND FORM's CARD OF 'laws.FnLateShort'. -/
def fnLateShortUptoCard : Claim7 := { stood := { row := fnLateShortUptoRow, standIns := [], harness := (true, "dab0c1935681a554b6f7e8828458f4ea42c1a44a09fd749215ddb48afe50b8f5"), looks := true }, kinds := [], alts := [], laidByText := true, laidKinds := [.sentinel, .sentinel, .sentinel, .sentinel, .sentinel, .sentinel, .sentinel, .sentinel, .sentinel, .sentinel, .sentinel], laidTests := true, laidLooks := .later }
def FnLateShortUptoCardSaid : Prop := Claim7.holds Tryd.pinned (.plain (OpenSpec.upto fnLateShortSpec)) fnLateShortUptoCard

/-- THE SECOND FORM's CARD OF 'laws.FnNoLonger'. -/
def fnNoLongerUptoCard : Claim7 := { stood := { row := fnNoLongerUptoRow, standIns := [], harness := (true, "dab0c1935681a554b6f7e8828458f4ea42c1a44a09fd749215ddb48afe50b8f5"), looks := true }, kinds := [], alts := [], laidByText := true, laidKinds := [.sentinel, .sentinel, .sentinel, .sentinel, .sentinel, .sentinel, .sentinel, .sentinel, .sentinel, .sentinel, .sentinel], laidTests := true, laidLooks := .later }
def FnNoLongerUptoCardSaid : Prop := Claim7.holds Tryd.pinned (.plain (OpenSpec.upto fnNoLongerSpec)) fnNoLongerUptoCard

/-- THE SECOND FORM's CARD OF 'laws.FnOwnerNS'. -/
def fnOwnerNSUptoCard : Claim7 := { stood := { row := fnOwnerNSUptoRow, standIns := [], harness := (true, "dab0c1935681a554b6f7e8828458f4ea42c1a44a09fd749215ddb48afe50b8f5"), looks := true }, kinds := [], alts := [], laidByText := true, laidKinds := [.sentinel, .sentinel, .sentinel, .sentinel, .sentinel, .sentinel, .sentinel, .sentinel, .sentinel, .sentinel, .sentinel], laidTests := true, laidLooks := .later }
def FnOwnerNSUptoCardSaid : Prop := Claim7.holds Tryd.pinned (.plain (OpenSpec.upto fnOwnerNSSpec)) fnOwnerNSUptoCard

/-- THE SECOND FORM's CARD OF 'laws.FnOwnerPTR'. -/
def fnOwnerPTRUptoCard : Claim7 := { stood := { row := fnOwnerPTRUptoRow, standIns := [], harness := (true, "dab0c1935681a554b6f7e8828458f4ea42c1a44a09fd749215ddb48afe50b8f5"), looks := true }, kinds := [], alts := [], laidByText := true, laidKinds := [.sentinel, .sentinel, .sentinel, .sentinel, .sentinel, .sentinel, .sentinel, .sentinel, .sentinel, .sentinel, .sentinel], laidTests := true, laidLooks := .later }
def FnOwnerPTRUptoCardSaid : Prop := Claim7.holds Tryd.pinned (.plain (OpenSpec.upto fnOwnerPTRSpec)) fnOwnerPTRUptoCard

/-- THE SECOND FORM's CARD OF 'laws.FnRefusedNS'. -/
def fnRefusedNSUptoCard : Claim7 := { stood := { row := fnRefusedNSUptoRow, standIns := [], harness := (true, "dab0c1935681a554b6f7e8828458f4ea42c1a44a09fd749215ddb48afe50b8f5"), looks := true }, kinds := [], alts := [], laidByText := true, laidKinds := [.sentinel, .sentinel, .sentinel, .sentinel, .sentinel, .sentinel, .sentinel, .sentinel, .sentinel, .sentinel, .sentinel], laidTests := true, laidLooks := .later }
def FnRefusedNSUptoCardSaid : Prop := Claim7.holds Tryd.pinned (.plain (OpenSpec.upto fnRefusedNSSpec)) fnRefusedNSUptoCard

/-- THE SECOND FORM's CARD OF 'laws.FnRefusedPTR'. -/
def fnRefusedPTRUptoCard : Claim7 := { stood := { row := fnRefusedPTRUptoRow, standIns := [], harness := (true, "dab0c1935681a554b6f7e8828458f4ea42c1a44a09fd749215ddb48afe50b8f5"), looks := true }, kinds := [], alts := [], laidByText := true, laidKinds := [.sentinel, .sentinel, .sentinel, .sentinel, .sentinel, .sentinel, .sentinel, .sentinel, .sentinel, .sentinel, .sentinel], laidTests := true, laidLooks := .later }
def FnRefusedPTRUptoCardSaid : Prop := Claim7.holds Tryd.pinned (.plain (OpenSpec.upto fnRefusedPTRSpec)) fnRefusedPTRUptoCard

/-- THE SECOND FORM's CARD OF 'laws.FnShortNS'. -/
def fnShortNSUptoCard : Claim7 := { stood := { row := fnShortNSUptoRow, standIns := [], harness := (true, "dab0c1935681a554b6f7e8828458f4ea42c1a44a09fd749215ddb48afe50b8f5"), looks := true }, kinds := [], alts := [], laidByText := true, laidKinds := [.sentinel, .sentinel, .sentinel, .sentinel, .sentinel, .sentinel, .sentinel, .sentinel, .sentinel, .sentinel, .sentinel], laidTests := true, laidLooks := .later }
def FnShortNSUptoCardSaid : Prop := Claim7.holds Tryd.pinned (.plain (OpenSpec.upto fnShortNSSpec)) fnShortNSUptoCard

/-- THE SECOND FORM's CARD OF 'laws.FnShortPTR'. -/
def fnShortPTRUptoCard : Claim7 := { stood := { row := fnShortPTRUptoRow, standIns := [], harness := (true, "dab0c1935681a554b6f7e8828458f4ea42c1a44a09fd749215ddb48afe50b8f5"), looks := true }, kinds := [], alts := [], laidByText := true, laidKinds := [.sentinel, .sentinel, .sentinel, .sentinel, .sentinel, .sentinel, .sentinel, .sentinel, .sentinel, .sentinel, .sentinel], laidTests := true, laidLooks := .later }
def FnShortPTRUptoCardSaid : Prop := Claim7.holds Tryd.pinned (.plain (OpenSpec.upto fnShortPTRSpec)) fnShortPTRUptoCard

/-- THE SECOND FORM's CARD OF 'laws.FnTypeNS'. -/
def fnTypeNSUptoCard : Claim7 := { stood := { row := fnTypeNSUptoRow, standIns := [], harness := (true, "dab0c1935681a554b6f7e8828458f4ea42c1a44a09fd749215ddb48afe50b8f5"), looks := true }, kinds := [], alts := [], laidByText := true, laidKinds := [.sentinel, .sentinel, .sentinel, .sentinel, .sentinel, .sentinel, .sentinel, .sentinel, .sentinel, .sentinel, .sentinel], laidTests := true, laidLooks := .later }
def FnTypeNSUptoCardSaid : Prop := Claim7.holds Tryd.pinned (.plain (OpenSpec.upto fnTypeNSSpec)) fnTypeNSUptoCard

/-- THE SECOND FORM's CARD OF 'laws.FnTypePTR'. -/
def fnTypePTRUptoCard : Claim7 := { stood := { row := fnTypePTRUptoRow, standIns := [], harness := (true, "dab0c1935681a554b6f7e8828458f4ea42c1a44a09fd749215ddb48afe50b8f5"), looks := true }, kinds := [], alts := [], laidByText := true, laidKinds := [.sentinel, .sentinel, .sentinel, .sentinel, .sentinel, .sentinel, .sentinel, .sentinel, .sentinel, .sentinel, .sentinel], laidTests := true, laidLooks := .later }
def FnTypePTRUptoCardSaid : Prop := Claim7.holds Tryd.pinned (.plain (OpenSpec.upto fnTypePTRSpec)) fnTypePTRUptoCard
end Rows
end Go.Proofs.YtiopioofmkfpgaaDoor
