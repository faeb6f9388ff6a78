/-
  DERIVED. GIVEN WITH THE SEED: THE CARDS: each row of YtdiememgbnplkaaDoorRows.lean that lists a variable, with what it lists TIED to the program's text (the seventh form; the later family's looks); each row that meets fmt, with fmt's text TOLD by the authors' own Lean function (tested against real Go, not proved from fmt's source: count such statements apart). THE CARD IS WHAT COUNTS. Prove the row's statement (the work); the ties are given (YtdiememgbnplkaaDoorTie.lean); close each card by the builder's one call (the guide's Derived/Test/ToyasCard.lean, 'card_holds'). Laid BY PROGRAM, IN A SANDBOX (cutbox-door.mjs). By AI agents, Wed Nov 11 2026. No macro, syntax, notation, axiom, sorry.
-/
import Derived.Test.YtdiememgbnplkaaDoorRows
import GoSem.ClaimSeven
namespace Go.Proofs.YtdiememgbnplkaaDoor
namespace Rows

/-- THE TIED CARD OF 'laws.FnAsks'. -/
def fnAsksCard : Claim7 := { stood := { row := fnAsksRow, standIns := [], harness := (true, "a9178fd7b231b51d79977ffe9c90eefcdabe64ae6f37f57f11c337d35c75c11f"), looks := true }, kinds := [], alts := [], laidByText := true, laidKinds := [.sentinel, .sentinel, .sentinel, .sentinel, .sentinel, .sentinel, .sentinel, .sentinel, .sentinel, .sentinel], laidTests := true, laidLooks := .later }
def FnAsksCardSaid : Prop := Claim7.holds Tryd.pinned (.plain (OpenSpec.ofChange fnAsksSpec)) fnAsksCard

/-- THE TIED CARD OF 'laws.FnBehindAsks'. -/
def fnBehindAsksCard : Claim7 := { stood := { row := fnBehindAsksRow, standIns := [], harness := (true, "a9178fd7b231b51d79977ffe9c90eefcdabe64ae6f37f57f11c337d35c75c11f"), looks := true }, kinds := [], alts := [], laidByText := true, laidKinds := [.sentinel, .sentinel, .sentinel, .sentinel, .sentinel, .sentinel, .sentinel, .sentinel, .sentinel, .sentinel], laidTests := true, laidLooks := .later }
def FnBehindAsksCardSaid : Prop := Claim7.holds Tryd.pinned (.plain (OpenSpec.ofChange fnBehindAsksSpec)) fnBehindAsksCard

/-- THE TIED CARD OF 'laws.FnBitAuthentic'. -/
def fnBitAuthenticCard : Claim7 := { stood := { row := fnBitAuthenticRow, standIns := [], harness := (true, "a9178fd7b231b51d79977ffe9c90eefcdabe64ae6f37f57f11c337d35c75c11f"), looks := true }, kinds := [], alts := [], laidByText := true, laidKinds := [.sentinel, .sentinel, .sentinel, .sentinel, .sentinel, .sentinel, .sentinel, .sentinel, .sentinel, .sentinel], laidTests := true, laidLooks := .later }
def FnBitAuthenticCardSaid : Prop := Claim7.holds Tryd.pinned (.plain (OpenSpec.ofChange fnBitAuthenticSpec)) fnBitAuthenticCard

/-- THE TIED CARD OF 'laws.FnBitAuthority'. -/
def fnBitAuthorityCard : Claim7 := { stood := { row := fnBitAuthorityRow, standIns := [], harness := (true, "a9178fd7b231b51d79977ffe9c90eefcdabe64ae6f37f57f11c337d35c75c11f"), looks := true }, kinds := [], alts := [], laidByText := true, laidKinds := [.sentinel, .sentinel, .sentinel, .sentinel, .sentinel, .sentinel, .sentinel, .sentinel, .sentinel, .sentinel], laidTests := true, laidLooks := .later }
def FnBitAuthorityCardSaid : Prop := Claim7.holds Tryd.pinned (.plain (OpenSpec.ofChange fnBitAuthoritySpec)) fnBitAuthorityCard

/-- THE TIED CARD OF 'laws.FnBitDesired'. -/
def fnBitDesiredCard : Claim7 := { stood := { row := fnBitDesiredRow, standIns := [], harness := (true, "a9178fd7b231b51d79977ffe9c90eefcdabe64ae6f37f57f11c337d35c75c11f"), looks := true }, kinds := [], alts := [], laidByText := true, laidKinds := [.sentinel, .sentinel, .sentinel, .sentinel, .sentinel, .sentinel, .sentinel, .sentinel, .sentinel, .sentinel], laidTests := true, laidLooks := .later }
def FnBitDesiredCardSaid : Prop := Claim7.holds Tryd.pinned (.plain (OpenSpec.ofChange fnBitDesiredSpec)) fnBitDesiredCard

/-- THE TIED CARD OF 'laws.FnEarlyAsk'. -/
def fnEarlyAskCard : Claim7 := { stood := { row := fnEarlyAskRow, standIns := [], harness := (true, "a9178fd7b231b51d79977ffe9c90eefcdabe64ae6f37f57f11c337d35c75c11f"), looks := true }, kinds := [], alts := [], laidByText := true, laidKinds := [.sentinel, .sentinel, .sentinel, .sentinel, .sentinel, .sentinel, .sentinel, .sentinel, .sentinel, .sentinel], laidTests := true, laidLooks := .later }
def FnEarlyAskCardSaid : Prop := Claim7.holds Tryd.pinned (.plain (OpenSpec.ofChange fnEarlyAskSpec)) fnEarlyAskCard

/-- THE TIED CARD OF 'laws.FnHead'. -/
def fnHeadCard : Claim7 := { stood := { row := fnHeadRow, standIns := [], harness := (true, "a9178fd7b231b51d79977ffe9c90eefcdabe64ae6f37f57f11c337d35c75c11f"), looks := true }, kinds := [], alts := [], laidByText := true, laidKinds := [.sentinel, .sentinel, .sentinel, .sentinel, .sentinel, .sentinel, .sentinel, .sentinel, .sentinel, .sentinel], laidTests := true, laidLooks := .later }
def FnHeadCardSaid : Prop := Claim7.holds Tryd.pinned (.plain (OpenSpec.ofChange fnHeadSpec)) fnHeadCard

/-- THE TIED CARD OF 'laws.FnHeadSections'. -/
def fnHeadSectionsCard : Claim7 := { stood := { row := fnHeadSectionsRow, standIns := [], harness := (true, "a9178fd7b231b51d79977ffe9c90eefcdabe64ae6f37f57f11c337d35c75c11f"), looks := true }, kinds := [], alts := [], laidByText := true, laidKinds := [.sentinel, .sentinel, .sentinel, .sentinel, .sentinel, .sentinel, .sentinel, .sentinel, .sentinel, .sentinel], laidTests := true, laidLooks := .later }
def FnHeadSectionsCardSaid : Prop := Claim7.holds Tryd.pinned (.plain (OpenSpec.ofChange fnHeadSectionsSpec)) fnHeadSectionsCard

/-- THE TIED CARD OF 'laws.FnRefusedAsk'. -/
def fnRefusedAskCard : Claim7 := { stood := { row := fnRefusedAskRow, standIns := [], harness := (true, "a9178fd7b231b51d79977ffe9c90eefcdabe64ae6f37f57f11c337d35c75c11f"), looks := true }, kinds := [], alts := [], laidByText := true, laidKinds := [.sentinel, .sentinel, .sentinel, .sentinel, .sentinel, .sentinel, .sentinel, .sentinel, .sentinel, .sentinel], laidTests := true, laidLooks := .later }
def FnRefusedAskCardSaid : Prop := Claim7.holds Tryd.pinned (.plain (OpenSpec.ofChange fnRefusedAskSpec)) fnRefusedAskCard

/-- THE SECOND FORM's CARD OF 'laws.FnAsks'. -/
def fnAsksUptoCard : Claim7 := { stood := { row := fnAsksUptoRow, standIns := [], harness := (true, "a9178fd7b231b51d79977ffe9c90eefcdabe64ae6f37f57f11c337d35c75c11f"), looks := true }, kinds := [], alts := [], laidByText := true, laidKinds := [.sentinel, .sentinel, .sentinel, .sentinel, .sentinel, .sentinel, .sentinel, .sentinel, .sentinel, .sentinel], laidTests := true, laidLooks := .later }
def FnAsksUptoCardSaid : Prop := Claim7.holds Tryd.pinned (.plain (OpenSpec.upto fnAsksSpec)) fnAsksUptoCard

/-- THE SECOND FORM's CARD OF 'laws.FnBehindAsks'. -/
def fnBehindAsksUptoCard : Claim7 := { stood := { row := fnBehindAsksUptoRow, standIns := [], harness := (true, "a9178fd7b231b51d79977ffe9c90eefcdabe64ae6f37f57f11c337d35c75c11f"), looks := true }, kinds := [], alts := [], laidByText := true, laidKinds := [.sentinel, .sentinel, .sentinel, .sentinel, .sentinel, .sentinel, .sentinel, .sentinel, .sentinel, .sentinel], laidTests := true, laidLooks := .later }
def FnBehindAsksUptoCardSaid : Prop := Claim7.holds Tryd.pinned (.plain (OpenSpec.upto fnBehindAsksSpec)) fnBehindAsksUptoCard

/-- THE SECOND FORM's CARD OF 'laws.FnBitAuthentic'. -/
def fnBitAuthenticUptoCard : Claim7 := { stood := { row := fnBitAuthenticUptoRow, standIns := [], harness := (true, "a9178fd7b231b51d79977ffe9c90eefcdabe64ae6f37f57f11c337d35c75c11f"), looks := true }, kinds := [], alts := [], laidByText := true, laidKinds := [.sentinel, .sentinel, .sentinel, .sentinel, .sentinel, .sentinel, .sentinel, .sentinel, .sentinel, .sentinel], laidTests := true, laidLooks := .later }
def FnBitAuthenticUptoCardSaid : Prop := Claim7.holds Tryd.pinned (.plain (OpenSpec.upto fnBitAuthenticSpec)) fnBitAuthenticUptoCard

/-- THE SECOND FORM's CARD OF 'laws.FnBitAuthority'. -/
def fnBitAuthorityUptoCard : Claim7 := { stood := { row := fnBitAuthorityUptoRow, standIns := [], harness := (true, "a9178fd7b231b51d79977ffe9c90eefcdabe64ae6f37f57f11c337d35c75c11f"), looks := true }, kinds := [], alts := [], laidByText := true, laidKinds := [.sentinel, .sentinel, .sentinel, .sentinel, .sentinel, .sentinel, .sentinel, .sentinel, .sentinel, .sentinel], laidTests := true, laidLooks := .later }
def FnBitAuthorityUptoCardSaid : Prop := Claim7.holds Tryd.pinned (.plain (OpenSpec.upto fnBitAuthoritySpec)) fnBitAuthorityUptoCard

/-- THE SECOND FORM's CARD OF 'laws.FnBitDesired'. -/
def fnBitDesiredUptoCard : Claim7 := { stood := { row := fnBitDesiredUptoRow, standIns := [], harness := (true, "a9178fd7b231b51d79977ffe9c90eefcdabe64ae6f37f57f11c337d35c75c11f"), looks := true }, kinds := [], alts := [], laidByText := true, laidKinds := [.sentinel, .sentinel, .sentinel, .sentinel, .sentinel, .sentinel, .sentinel, .sentinel, .sentinel, .sentinel], laidTests := true, laidLooks := .later }
def FnBitDesiredUptoCardSaid : Prop := Claim7.holds Tryd.pinned (.plain (OpenSpec.upto fnBitDesiredSpec)) fnBitDesiredUptoCard

/-- THE SECOND FORM's CARD OF 'laws.FnEarlyAsk'. -/
def fnEarlyAskUptoCard : Claim7 := { stood := { row := fnEarlyAskUptoRow, standIns := [], harness := (true, "a9178fd7b231b51d79977ffe9c90eefcdabe64ae6f37f57f11c337d35c75c11f"), looks := true }, kinds := [], alts := [], laidByText := true, laidKinds := [.sentinel, .sentinel, .sentinel, .sentinel, .sentinel, .sentinel, .sentinel, .sentinel, .sentinel, .sentinel], laidTests := true, laidLooks := .later }
def FnEarlyAskUptoCardSaid : Prop := Claim7.holds Tryd.pinned (.plain (OpenSpec.upto fnEarlyAskSpec)) fnEarlyAskUptoCard

/-- THE SECOND FORM's CARD OF 'laws.FnHead'. -/
def fnHeadUptoCard : Claim7 := { stood := { row := fnHeadUptoRow, standIns := [], harness := (true, "a9178fd7b231b51d79977ffe9c90eefcdabe64ae6f37f57f11c337d35c75c11f"), looks := true }, kinds := [], alts := [], laidByText := true, laidKinds := [.sentinel, .sentinel, .sentinel, .sentinel, .sentinel, .sentinel, .sentinel, .sentinel, .sentinel, .sentinel], laidTests := true, laidLooks := .later }
def FnHeadUptoCardSaid : Prop := Claim7.holds Tryd.pinned (.plain (OpenSpec.upto fnHeadSpec)) fnHeadUptoCard

/-- THE SECOND FORM's CARD OF 'laws.FnHeadSections'. -/
def fnHeadSectionsUptoCard : Claim7 := { stood := { row := fnHeadSectionsUptoRow, standIns := [], harness := (true, "a9178fd7b231b51d79977ffe9c90eefcdabe64ae6f37f57f11c337d35c75c11f"), looks := true }, kinds := [], alts := [], laidByText := true, laidKinds := [.sentinel, .sentinel, .sentinel, .sentinel, .sentinel, .sentinel, .sentinel, .sentinel, .sentinel, .sentinel], laidTests := true, laidLooks := .later }
def FnHeadSectionsUptoCardSaid : Prop := Claim7.holds Tryd.pinned (.plain (OpenSpec.upto fnHeadSectionsSpec)) fnHeadSectionsUptoCard

/-- THE SECOND FORM's CARD OF 'laws.FnRefusedAsk'. -/
def fnRefusedAskUptoCard : Claim7 := { stood := { row := fnRefusedAskUptoRow, standIns := [], harness := (true, "a9178fd7b231b51d79977ffe9c90eefcdabe64ae6f37f57f11c337d35c75c11f"), looks := true }, kinds := [], alts := [], laidByText := true, laidKinds := [.sentinel, .sentinel, .sentinel, .sentinel, .sentinel, .sentinel, .sentinel, .sentinel, .sentinel, .sentinel], laidTests := true, laidLooks := .later }
def FnRefusedAskUptoCardSaid : Prop := Claim7.holds Tryd.pinned (.plain (OpenSpec.upto fnRefusedAskSpec)) fnRefusedAskUptoCard
end Rows
end Go.Proofs.YtdiememgbnplkaaDoor
