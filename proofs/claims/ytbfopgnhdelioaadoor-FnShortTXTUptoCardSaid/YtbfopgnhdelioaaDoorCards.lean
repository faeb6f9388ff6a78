/-
  DERIVED. GIVEN WITH THE SEED: THE CARDS: each row of YtbfopgnhdelioaaDoorRows.lean that lists a variable, with what it lists TIED to the program's text (the seventh form; the later family's looks); each row that meets fmt, with fmt's text TOLD by the authors' own Lean function (tested against real Go, not proved from fmt's source: count such statements apart). THE CARD IS WHAT COUNTS. Prove the row's statement (the work); the ties are given (YtbfopgnhdelioaaDoorTie.lean); close each card by the builder's one call (the guide's Derived/Test/ToyasCard.lean, 'card_holds'). Laid BY PROGRAM, IN A SANDBOX (cutbox-door.mjs). By AI agents, Wed Nov 11 2026. No macro, syntax, notation, axiom, sorry.
-/
import Derived.Test.YtbfopgnhdelioaaDoorRows
import GoSem.ClaimSeven
namespace Go.Proofs.YtbfopgnhdelioaaDoor
namespace Rows

/-- THE TIED CARD OF 'laws.FnLongText'. -/
def fnLongTextCard : Claim7 := { stood := { row := fnLongTextRow, standIns := [], harness := (true, "d066ebf7486d2f9f31248df053a47ab3193e442ee531a4451c365b1e5780d349"), looks := true }, kinds := [], alts := [], laidByText := true, laidKinds := [.sentinel, .sentinel, .sentinel, .sentinel, .sentinel, .sentinel, .sentinel, .sentinel, .sentinel, .sentinel, .sentinel, .sentinel], laidTests := true, laidLooks := .later }
def FnLongTextCardSaid : Prop := Claim7.holds Tryd.pinned (.plain (OpenSpec.ofChange fnLongTextSpec)) fnLongTextCard

/-- THE TIED CARD OF 'laws.FnShortTXT'. -/
def fnShortTXTCard : Claim7 := { stood := { row := fnShortTXTRow, standIns := [], harness := (true, "d066ebf7486d2f9f31248df053a47ab3193e442ee531a4451c365b1e5780d349"), looks := true }, kinds := [], alts := [], laidByText := true, laidKinds := [.sentinel, .sentinel, .sentinel, .sentinel, .sentinel, .sentinel, .sentinel, .sentinel, .sentinel, .sentinel, .sentinel, .sentinel], laidTests := true, laidLooks := .later }
def FnShortTXTCardSaid : Prop := Claim7.holds Tryd.pinned (.plain (OpenSpec.ofChange fnShortTXTSpec)) fnShortTXTCard

/-- THE SECOND FORM's CARD OF 'laws.FnLongText'. -/
def fnLongTextUptoCard : Claim7 := { stood := { row := fnLongTextUptoRow, standIns := [], harness := (true, "d066ebf7486d2f9f31248df053a47ab3193e442ee531a4451c365b1e5780d349"), looks := true }, kinds := [], alts := [], laidByText := true, laidKinds := [.sentinel, .sentinel, .sentinel, .sentinel, .sentinel, .sentinel, .sentinel, .sentinel, .sentinel, .sentinel, .sentinel, .sentinel], laidTests := true, laidLooks := .later }
def FnLongTextUptoCardSaid : Prop := Claim7.holds Tryd.pinned (.plain (OpenSpec.upto fnLongTextSpec)) fnLongTextUptoCard

/-- THE SECOND FORM's CARD OF 'laws.FnShortTXT'. -/
def fnShortTXTUptoCard : Claim7 := { stood := { row := fnShortTXTUptoRow, standIns := [], harness := (true, "d066ebf7486d2f9f31248df053a47ab3193e442ee531a4451c365b1e5780d349"), looks := true }, kinds := [], alts := [], laidByText := true, laidKinds := [.sentinel, .sentinel, .sentinel, .sentinel, .sentinel, .sentinel, .sentinel, .sentinel, .sentinel, .sentinel, .sentinel, .sentinel], laidTests := true, laidLooks := .later }
def FnShortTXTUptoCardSaid : Prop := Claim7.holds Tryd.pinned (.plain (OpenSpec.upto fnShortTXTSpec)) fnShortTXTUptoCard
end Rows
end Go.Proofs.YtbfopgnhdelioaaDoor
