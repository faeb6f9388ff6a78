/-
  DERIVED. GIVEN WITH THE SEED: THE CARDS: each row of YtamobccbioafmaaDoorRows.lean that lists a variable, with what it lists TIED to the program's text (the seventh form; the later family's looks); each row that meets fmt, with fmt's text TOLD by the authors' own Lean function (tested against real Go, not proved from fmt's source: count such statements apart). THE CARD IS WHAT COUNTS. Prove the row's statement (the work); the ties are given (YtamobccbioafmaaDoorTie.lean); close each card by the builder's one call (the guide's Derived/Test/ToyasCard.lean, 'card_holds'). Laid BY PROGRAM, IN A SANDBOX (cutbox-door.mjs). By AI agents, Wed Nov 11 2026. No macro, syntax, notation, axiom, sorry.
-/
import Derived.Test.YtamobccbioafmaaDoorRows
import GoSem.ClaimSeven
namespace Go.Proofs.YtamobccbioafmaaDoor
namespace Rows

/-- THE TIED CARD OF 'laws.FnShortHTTPS'. -/
def fnShortHTTPSCard : Claim7 := { stood := { row := fnShortHTTPSRow, standIns := [], harness := (true, "e5222cd5698a3ecafa955ffb915cc210de58aa2a619e01542d349b886eaa3f75"), looks := true }, kinds := [], alts := [], laidByText := true, laidKinds := [.sentinel, .sentinel, .sentinel, .sentinel, .sentinel, .sentinel, .sentinel, .sentinel, .sentinel, .sentinel, .sentinel, .sentinel, .sentinel], laidTests := true, laidLooks := .later }
def FnShortHTTPSCardSaid : Prop := Claim7.holds Tryd.pinned (.plain (OpenSpec.ofChange fnShortHTTPSSpec)) fnShortHTTPSCard

/-- THE TIED CARD OF 'laws.FnTypeHTTPS'. -/
def fnTypeHTTPSCard : Claim7 := { stood := { row := fnTypeHTTPSRow, standIns := [], harness := (true, "e5222cd5698a3ecafa955ffb915cc210de58aa2a619e01542d349b886eaa3f75"), looks := true }, kinds := [], alts := [], laidByText := true, laidKinds := [.sentinel, .sentinel, .sentinel, .sentinel, .sentinel, .sentinel, .sentinel, .sentinel, .sentinel, .sentinel, .sentinel, .sentinel, .sentinel], laidTests := true, laidLooks := .later }
def FnTypeHTTPSCardSaid : Prop := Claim7.holds Tryd.pinned (.plain (OpenSpec.ofChange fnTypeHTTPSSpec)) fnTypeHTTPSCard

/-- THE TIED CARD OF 'laws.FnRefusedSVCB'. -/
def fnRefusedSVCBCard : Claim7 := { stood := { row := fnRefusedSVCBRow, standIns := [], harness := (true, "e5222cd5698a3ecafa955ffb915cc210de58aa2a619e01542d349b886eaa3f75"), looks := true }, kinds := [], alts := [], laidByText := true, laidKinds := [.sentinel, .sentinel, .sentinel, .sentinel, .sentinel, .sentinel, .sentinel, .sentinel, .sentinel, .sentinel, .sentinel, .sentinel, .sentinel], laidTests := true, laidLooks := .later }
def FnRefusedSVCBCardSaid : Prop := Claim7.holds Tryd.pinned (.plain (OpenSpec.ofChange fnRefusedSVCBSpec)) fnRefusedSVCBCard

/-- THE TIED CARD OF 'laws.FnShortSVCB'. -/
def fnShortSVCBCard : Claim7 := { stood := { row := fnShortSVCBRow, standIns := [], harness := (true, "e5222cd5698a3ecafa955ffb915cc210de58aa2a619e01542d349b886eaa3f75"), looks := true }, kinds := [], alts := [], laidByText := true, laidKinds := [.sentinel, .sentinel, .sentinel, .sentinel, .sentinel, .sentinel, .sentinel, .sentinel, .sentinel, .sentinel, .sentinel, .sentinel, .sentinel], laidTests := true, laidLooks := .later }
def FnShortSVCBCardSaid : Prop := Claim7.holds Tryd.pinned (.plain (OpenSpec.ofChange fnShortSVCBSpec)) fnShortSVCBCard

/-- THE TIED CARD OF 'laws.FnTypeSVCB'. -/
def fnTypeSVCBCard : Claim7 := { stood := { row := fnTypeSVCBRow, standIns := [], harness := (true, "e5222cd5698a3ecafa955ffb915cc210de58aa2a619e01542d349b886eaa3f75"), looks := true }, kinds := [], alts := [], laidByText := true, laidKinds := [.sentinel, .sentinel, .sentinel, .sentinel, .sentinel, .sentinel, .sentinel, .sentinel, .sentinel, .sentinel, .sentinel, .sentinel, .sentinel], laidTests := true, laidLooks := .later }
def FnTypeSVCBCardSaid : Prop := Claim7.holds Tryd.pinned (.plain (OpenSpec.ofChange fnTypeSVCBSpec)) fnTypeSVCBCard

/-- THE TIED CARD OF 'laws.FnWholeSVCB'. -/
def fnWholeSVCBCard : Claim7 := { stood := { row := fnWholeSVCBRow, standIns := [], harness := (true, "e5222cd5698a3ecafa955ffb915cc210de58aa2a619e01542d349b886eaa3f75"), looks := true }, kinds := [], alts := [], laidByText := true, laidKinds := [.sentinel, .sentinel, .sentinel, .sentinel, .sentinel, .sentinel, .sentinel, .sentinel, .sentinel, .sentinel, .sentinel, .sentinel, .sentinel], laidTests := true, laidLooks := .later }
def FnWholeSVCBCardSaid : Prop := Claim7.holds Tryd.pinned (.plain (OpenSpec.ofChange fnWholeSVCBSpec)) fnWholeSVCBCard

/-- THE TIED CARD OF 'laws.FnHostHTTPS'. -/
def fnHostHTTPSCard : Claim7 := { stood := { row := fnHostHTTPSRow, standIns := [], harness := (true, "e5222cd5698a3ecafa955ffb915cc210de58aa2a619e01542d349b886eaa3f75"), looks := true }, kinds := [], alts := [], laidByText := true, laidKinds := [.sentinel, .sentinel, .sentinel, .sentinel, .sentinel, .sentinel, .sentinel, .sentinel, .sentinel, .sentinel, .sentinel, .sentinel, .sentinel], laidTests := true, laidLooks := .later }
def FnHostHTTPSCardSaid : Prop := Claim7.holds Tryd.pinned (.plain (OpenSpec.ofChange fnHostHTTPSSpec)) fnHostHTTPSCard

/-- THE TIED CARD OF 'laws.FnRefusedHTTPS'. -/
def fnRefusedHTTPSCard : Claim7 := { stood := { row := fnRefusedHTTPSRow, standIns := [], harness := (true, "e5222cd5698a3ecafa955ffb915cc210de58aa2a619e01542d349b886eaa3f75"), looks := true }, kinds := [], alts := [], laidByText := true, laidKinds := [.sentinel, .sentinel, .sentinel, .sentinel, .sentinel, .sentinel, .sentinel, .sentinel, .sentinel, .sentinel, .sentinel, .sentinel, .sentinel], laidTests := true, laidLooks := .later }
def FnRefusedHTTPSCardSaid : Prop := Claim7.holds Tryd.pinned (.plain (OpenSpec.ofChange fnRefusedHTTPSSpec)) fnRefusedHTTPSCard

/-- THE SECOND FORM's CARD OF 'laws.FnShortHTTPS'. -/
def fnShortHTTPSUptoCard : Claim7 := { stood := { row := fnShortHTTPSUptoRow, standIns := [], harness := (true, "e5222cd5698a3ecafa955ffb915cc210de58aa2a619e01542d349b886eaa3f75"), looks := true }, kinds := [], alts := [], laidByText := true, laidKinds := [.sentinel, .sentinel, .sentinel, .sentinel, .sentinel, .sentinel, .sentinel, .sentinel, .sentinel, .sentinel, .sentinel, .sentinel, .sentinel], laidTests := true, laidLooks := .later }
def FnShortHTTPSUptoCardSaid : Prop := Claim7.holds Tryd.pinned (.plain (OpenSpec.upto fnShortHTTPSSpec)) fnShortHTTPSUptoCard

/-- THE SECOND FORM's CARD OF 'laws.FnTypeHTTPS'. -/
def fnTypeHTTPSUptoCard : Claim7 := { stood := { row := fnTypeHTTPSUptoRow, standIns := [], harness := (true, "e5222cd5698a3ecafa955ffb915cc210de58aa2a619e01542d349b886eaa3f75"), looks := true }, kinds := [], alts := [], laidByText := true, laidKinds := [.sentinel, .sentinel, .sentinel, .sentinel, .sentinel, .sentinel, .sentinel, .sentinel, .sentinel, .sentinel, .sentinel, .sentinel, .sentinel], laidTests := true, laidLooks := .later }
def FnTypeHTTPSUptoCardSaid : Prop := Claim7.holds Tryd.pinned (.plain (OpenSpec.upto fnTypeHTTPSSpec)) fnTypeHTTPSUptoCard

/-- THE SECOND FORM's CARD OF 'laws.FnRefusedSVCB'. -/
def fnRefusedSVCBUptoCard : Claim7 := { stood := { row := fnRefusedSVCBUptoRow, standIns := [], harness := (true, "e5222cd5698a3ecafa955ffb915cc210de58aa2a619e01542d349b886eaa3f75"), looks := true }, kinds := [], alts := [], laidByText := true, laidKinds := [.sentinel, .sentinel, .sentinel, .sentinel, .sentinel, .sentinel, .sentinel, .sentinel, .sentinel, .sentinel, .sentinel, .sentinel, .sentinel], laidTests := true, laidLooks := .later }
def FnRefusedSVCBUptoCardSaid : Prop := Claim7.holds Tryd.pinned (.plain (OpenSpec.upto fnRefusedSVCBSpec)) fnRefusedSVCBUptoCard

/-- THE SECOND FORM's CARD OF 'laws.FnShortSVCB'. -/
def fnShortSVCBUptoCard : Claim7 := { stood := { row := fnShortSVCBUptoRow, standIns := [], harness := (true, "e5222cd5698a3ecafa955ffb915cc210de58aa2a619e01542d349b886eaa3f75"), looks := true }, kinds := [], alts := [], laidByText := true, laidKinds := [.sentinel, .sentinel, .sentinel, .sentinel, .sentinel, .sentinel, .sentinel, .sentinel, .sentinel, .sentinel, .sentinel, .sentinel, .sentinel], laidTests := true, laidLooks := .later }
def FnShortSVCBUptoCardSaid : Prop := Claim7.holds Tryd.pinned (.plain (OpenSpec.upto fnShortSVCBSpec)) fnShortSVCBUptoCard

/-- THE SECOND FORM's CARD OF 'laws.FnTypeSVCB'. -/
def fnTypeSVCBUptoCard : Claim7 := { stood := { row := fnTypeSVCBUptoRow, standIns := [], harness := (true, "e5222cd5698a3ecafa955ffb915cc210de58aa2a619e01542d349b886eaa3f75"), looks := true }, kinds := [], alts := [], laidByText := true, laidKinds := [.sentinel, .sentinel, .sentinel, .sentinel, .sentinel, .sentinel, .sentinel, .sentinel, .sentinel, .sentinel, .sentinel, .sentinel, .sentinel], laidTests := true, laidLooks := .later }
def FnTypeSVCBUptoCardSaid : Prop := Claim7.holds Tryd.pinned (.plain (OpenSpec.upto fnTypeSVCBSpec)) fnTypeSVCBUptoCard

/-- THE SECOND FORM's CARD OF 'laws.FnWholeSVCB'. -/
def fnWholeSVCBUptoCard : Claim7 := { stood := { row := fnWholeSVCBUptoRow, standIns := [], harness := (true, "e5222cd5698a3ecafa955ffb915cc210de58aa2a619e01542d349b886eaa3f75"), looks := true }, kinds := [], alts := [], laidByText := true, laidKinds := [.sentinel, .sentinel, .sentinel, .sentinel, .sentinel, .sentinel, .sentinel, .sentinel, .sentinel, .sentinel, .sentinel, .sentinel, .sentinel], laidTests := true, laidLooks := .later }
def FnWholeSVCBUptoCardSaid : Prop := Claim7.holds Tryd.pinned (.plain (OpenSpec.upto fnWholeSVCBSpec)) fnWholeSVCBUptoCard

/-- THE SECOND FORM's CARD OF 'laws.FnHostHTTPS'. -/
def fnHostHTTPSUptoCard : Claim7 := { stood := { row := fnHostHTTPSUptoRow, standIns := [], harness := (true, "e5222cd5698a3ecafa955ffb915cc210de58aa2a619e01542d349b886eaa3f75"), looks := true }, kinds := [], alts := [], laidByText := true, laidKinds := [.sentinel, .sentinel, .sentinel, .sentinel, .sentinel, .sentinel, .sentinel, .sentinel, .sentinel, .sentinel, .sentinel, .sentinel, .sentinel], laidTests := true, laidLooks := .later }
def FnHostHTTPSUptoCardSaid : Prop := Claim7.holds Tryd.pinned (.plain (OpenSpec.upto fnHostHTTPSSpec)) fnHostHTTPSUptoCard

/-- THE SECOND FORM's CARD OF 'laws.FnRefusedHTTPS'. -/
def fnRefusedHTTPSUptoCard : Claim7 := { stood := { row := fnRefusedHTTPSUptoRow, standIns := [], harness := (true, "e5222cd5698a3ecafa955ffb915cc210de58aa2a619e01542d349b886eaa3f75"), looks := true }, kinds := [], alts := [], laidByText := true, laidKinds := [.sentinel, .sentinel, .sentinel, .sentinel, .sentinel, .sentinel, .sentinel, .sentinel, .sentinel, .sentinel, .sentinel, .sentinel, .sentinel], laidTests := true, laidLooks := .later }
def FnRefusedHTTPSUptoCardSaid : Prop := Claim7.holds Tryd.pinned (.plain (OpenSpec.upto fnRefusedHTTPSSpec)) fnRefusedHTTPSUptoCard
end Rows
end Go.Proofs.YtamobccbioafmaaDoor
