/-
  NARROWER THAN 'FOR EVERY INPUT', by the rows' own cells (each row's printed sentence says how): FnName: ifaces, laid.
  DERIVED. THE GIVEN ROWS OF THIS SEAT. 1 by the template 'for every input the law returns true; each argument reads behind the call as it read before'; 0 by the template 'total and deterministic' (their statements: YtpephhdjhibidaaDoorTotals.lean).
  GIVEN WITH THE SEED: the statements are not yours to turn. If you find one false, say at which input.
  Laid BY PROGRAM, IN A SANDBOX (cutbox-rows.mjs): the forced cells as the released guide's own fill.sh prints them over the translation 7c898fcd0da245e5… (all of the seat's roots in one cut). By AI agents, Wed Nov 11 2026. No macro, syntax, notation, axiom, sorry.
-/
import Derived.Test.YtpephhdjhibidaaDoorChecked
import GoSem.Claim
import GoSem.ClaimJoined
import GoSem.ClaimMapViews
import Derived.JoinedTies
import Derived.KernelRfl
namespace Go.Proofs.YtpephhdjhibidaaDoor
/- THE CELL 'sum', in the pinned program and in every row, IS THE sha256 OF THE DUMP (.gsa) THAT YtpephhdjhibidaaDoorProg.lean LOADS. Nothing in Lean hashes anything: it is a label: what it is worth is what the hold of that sum in a sandbox is worth. -/
noncomputable def Tryd.pinned : Pinned := { name := "ytpephhdjhibidaadoor", sum := "7c898fcd0da245e5729fcf87b467ded58cebe86621321dc32f8f6a4946ba41ca", checked := Tryd.checked }
namespace Rows
def none {H : Type} : Left H := { results := [], args := [] }

/- WHAT THE LISTED PACKAGE-LEVEL VARIABLES READ AS WHEN THE CALL BEGINS. Each datum BY PROGRAM (the guide's laid-datum.mjs) off the statement by which the dump's own 'gosem.cut.vars' lays the variable. In a bare row this is a premise. The card (YtpephhdjhibidaaDoorCards.lean) ties it to the program's text. -/
def laid_loop_example_pub_messagesbuilt_pub_dnsmessage_errCalcLen {H : Type} : DataW H := .iface "*errors.errorString" (.ptr (.agg [.lit (.string [105, 110, 115, 117, 102, 102, 105, 99, 105, 101, 110, 116, 32, 100, 97, 116, 97, 32, 102, 111, 114, 32, 99, 97, 108, 99, 117, 108, 97, 116, 101, 100, 32, 108, 101, 110, 103, 116, 104, 32, 116, 121, 112, 101])]))

/-- 'laws.FnName': WHATEVER THE INPUT: true; the input reads as it did. -/
def fnNameSpec : ChangeSpec := { name := "fnName", vars := ["loop.example/pub-messagesbuilt/pub/dnsmessage.errCalcLen"], fn := fun _ => fun
  | [d, g1] => { results := [.lit (.bool true)], args := [d], vars := [g1] }
  | _ => none }
def fnNameRow : OpenClaim := { program := "ytpephhdjhibidaadoor", sum := "7c898fcd0da245e5729fcf87b467ded58cebe86621321dc32f8f6a4946ba41ca", func := "loop.example/pub-messagesbuilt/laws.FnName", spec := "fnName", named := ["loop.example/pub-messagesbuilt/pub/dnsmessage.errCalcLen"], ifaces := true, apart := false, laid := [("loop.example/pub-messagesbuilt/pub/dnsmessage.errCalcLen", laid_loop_example_pub_messagesbuilt_pub_dnsmessage_errCalcLen)] }
def FnNameSaid : Prop := fnNameRow.holds Tryd.pinned (OpenSpec.ofChange fnNameSpec)

/-- ITS FALSE NEIGHBOUR: 'it returns false'. Refute it at one input. -/
def fnNameWrong : ChangeSpec := { name := "fnName", vars := ["loop.example/pub-messagesbuilt/pub/dnsmessage.errCalcLen"], fn := fun _ => fun
  | [d, g1] => { results := [.lit (.bool false)], args := [d], vars := [g1] }
  | _ => none }
def FnNameWrongFalsely : Prop := fnNameRow.holds Tryd.pinned (OpenSpec.ofChange fnNameWrong)

/- THE SECOND FORM. 'bulk': how many values and letters a reading holds, each counted each time it is reached (what is shared counts as often as it is met; a slice's spare places count too). A statement '..UptoSaid' is the law's where the arguments, and the package variables that the reading takes, are together of bulk at most 1048576: NARROWER than '..Said'. Prove '..Said' where nothing that the law and all that it calls make is longer than what came in: it says more and counts as full. Else prove '..UptoSaid'. A law counts once. -/
mutual
def uptoBulk {H : Type} : DataW H → Nat
  | .lit (.string bytes) => bytes.length + 1
  | .lit _ => 1
  | .nil => 1
  | .ptr d => uptoBulk d + 1
  | .slice elems spare => uptoBulkAll elems + uptoBulkAll spare + 1
  | .agg parts => uptoBulkAll parts + 1
  | .iface _ d => uptoBulk d + 1
  | .map entries => uptoBulkEntries entries + 1
  | .held _ => 1
def uptoBulkAll {H : Type} : List (DataW H) → Nat
  | [] => 0
  | d :: r => uptoBulk d + uptoBulkAll r
def uptoBulkEntries {H : Type} : List (Lit × DataW H) → Nat
  | [] => 0
  | x :: r => uptoBulkEntry x + uptoBulkEntries r
def uptoBulkEntry {H : Type} : Lit × DataW H → Nat
  | (.string bytes, d) => bytes.length + uptoBulk d + 1
  | (_, d) => uptoBulk d + 1
 end
def uptoSmall : (H : Type) → List (DataW H) → Bool := fun _ ds => decide (uptoBulkAll ds ≤ 1048576)
def OpenSpec.upto (s : _root_.Go.ChangeSpec) : _root_.Go.OpenSpec := { _root_.Go.OpenSpec.ofChange s with cond := some uptoSmall }

/-- 'laws.FnName', WHERE WHAT IT READS IS OF BULK AT MOST 1048576: true; the input reads as it did. -/
def fnNameUptoRow : OpenClaim := { program := "ytpephhdjhibidaadoor", sum := "7c898fcd0da245e5729fcf87b467ded58cebe86621321dc32f8f6a4946ba41ca", func := "loop.example/pub-messagesbuilt/laws.FnName", spec := "fnName", named := ["loop.example/pub-messagesbuilt/pub/dnsmessage.errCalcLen"], ifaces := true, apart := false, laid := [("loop.example/pub-messagesbuilt/pub/dnsmessage.errCalcLen", laid_loop_example_pub_messagesbuilt_pub_dnsmessage_errCalcLen)], narrowed := true }
def FnNameUptoSaid : Prop := fnNameUptoRow.holds Tryd.pinned (OpenSpec.upto fnNameSpec)

end Rows
end Go.Proofs.YtpephhdjhibidaaDoor
