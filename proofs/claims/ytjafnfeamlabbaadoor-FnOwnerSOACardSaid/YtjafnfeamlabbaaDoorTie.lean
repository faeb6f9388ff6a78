/-
  DERIVED. GIVEN WITH THE SEED: THE PROGRAM's TIES (one call each: nine closed facts by the kernel) AND EACH ROW's TIE, after the 31st guide's Derived/Test/Toyas{Tie, Card}.lean. No idea stands in it: it is a product of the set-up. Laid BY PROGRAM, IN A SANDBOX (cutbox-door.mjs). By AI agents, Wed Nov 11 2026. No macro, syntax, notation, axiom, sorry.
-/
import Derived.Test.YtjafnfeamlabbaaDoorRows
import Derived.LaidByTextLater
import Derived.SevenTiedAt
import Derived.LaidSub
import Derived.LaidOnce
namespace Go.Proofs.YtjafnfeamlabbaaDoor
open Go
set_option maxRecDepth 100000
theorem seatTie1 : Tryd.prog.laidByTextLater [("loop.example/pub-messagesbuilt/pub/dnsmessage.ErrNotStarted", Rows.laid_loop_example_pub_messagesbuilt_pub_dnsmessage_ErrNotStarted), ("loop.example/pub-messagesbuilt/pub/dnsmessage.ErrSectionDone", Rows.laid_loop_example_pub_messagesbuilt_pub_dnsmessage_ErrSectionDone), ("loop.example/pub-messagesbuilt/pub/dnsmessage.errSegTooLong", Rows.laid_loop_example_pub_messagesbuilt_pub_dnsmessage_errSegTooLong), ("loop.example/pub-messagesbuilt/pub/dnsmessage.errNameTooLong", Rows.laid_loop_example_pub_messagesbuilt_pub_dnsmessage_errNameTooLong), ("loop.example/pub-messagesbuilt/pub/dnsmessage.errZeroSegLen", Rows.laid_loop_example_pub_messagesbuilt_pub_dnsmessage_errZeroSegLen), ("loop.example/pub-messagesbuilt/pub/dnsmessage.errResTooLong", Rows.laid_loop_example_pub_messagesbuilt_pub_dnsmessage_errResTooLong), ("loop.example/pub-messagesbuilt/pub/dnsmessage.errTooManyQuestions", Rows.laid_loop_example_pub_messagesbuilt_pub_dnsmessage_errTooManyQuestions), ("loop.example/pub-messagesbuilt/pub/dnsmessage.errTooManyAnswers", Rows.laid_loop_example_pub_messagesbuilt_pub_dnsmessage_errTooManyAnswers), ("loop.example/pub-messagesbuilt/pub/dnsmessage.errTooManyAuthorities", Rows.laid_loop_example_pub_messagesbuilt_pub_dnsmessage_errTooManyAuthorities), ("loop.example/pub-messagesbuilt/pub/dnsmessage.errTooManyAdditionals", Rows.laid_loop_example_pub_messagesbuilt_pub_dnsmessage_errTooManyAdditionals), ("loop.example/pub-messagesbuilt/pub/dnsmessage.errNonCanonicalName", Rows.laid_loop_example_pub_messagesbuilt_pub_dnsmessage_errNonCanonicalName)] [.sentinel, .sentinel, .sentinel, .sentinel, .sentinel, .sentinel, .sentinel, .sentinel, .sentinel, .sentinel, .sentinel] true :=
  Program.laidByTextLater_by_one 218 8 2 (by kernel_rfl) (by kernel_rfl) (by kernel_rfl) (by kernel_rfl) (by kernel_rfl) (by kernel_rfl) (fun _ _ => by kernel_rfl)
theorem noOwnUnsafe : Tryd.pinned.checked.prog.headLifts.contains "ownunsafe" = false := by kernel_rfl
theorem tie : Tryd.prog.laidByTextLater [("loop.example/pub-messagesbuilt/pub/dnsmessage.ErrNotStarted", Rows.laid_loop_example_pub_messagesbuilt_pub_dnsmessage_ErrNotStarted), ("loop.example/pub-messagesbuilt/pub/dnsmessage.ErrSectionDone", Rows.laid_loop_example_pub_messagesbuilt_pub_dnsmessage_ErrSectionDone), ("loop.example/pub-messagesbuilt/pub/dnsmessage.errSegTooLong", Rows.laid_loop_example_pub_messagesbuilt_pub_dnsmessage_errSegTooLong), ("loop.example/pub-messagesbuilt/pub/dnsmessage.errNameTooLong", Rows.laid_loop_example_pub_messagesbuilt_pub_dnsmessage_errNameTooLong), ("loop.example/pub-messagesbuilt/pub/dnsmessage.errZeroSegLen", Rows.laid_loop_example_pub_messagesbuilt_pub_dnsmessage_errZeroSegLen), ("loop.example/pub-messagesbuilt/pub/dnsmessage.errResTooLong", Rows.laid_loop_example_pub_messagesbuilt_pub_dnsmessage_errResTooLong), ("loop.example/pub-messagesbuilt/pub/dnsmessage.errTooManyQuestions", Rows.laid_loop_example_pub_messagesbuilt_pub_dnsmessage_errTooManyQuestions), ("loop.example/pub-messagesbuilt/pub/dnsmessage.errTooManyAnswers", Rows.laid_loop_example_pub_messagesbuilt_pub_dnsmessage_errTooManyAnswers), ("loop.example/pub-messagesbuilt/pub/dnsmessage.errTooManyAuthorities", Rows.laid_loop_example_pub_messagesbuilt_pub_dnsmessage_errTooManyAuthorities), ("loop.example/pub-messagesbuilt/pub/dnsmessage.errTooManyAdditionals", Rows.laid_loop_example_pub_messagesbuilt_pub_dnsmessage_errTooManyAdditionals), ("loop.example/pub-messagesbuilt/pub/dnsmessage.errNonCanonicalName", Rows.laid_loop_example_pub_messagesbuilt_pub_dnsmessage_errNonCanonicalName)] [.sentinel, .sentinel, .sentinel, .sentinel, .sentinel, .sentinel, .sentinel, .sentinel, .sentinel, .sentinel, .sentinel] true :=
  Program.laidByTextLater.sub seatTie1 ["loop.example/pub-messagesbuilt/pub/dnsmessage.ErrNotStarted", "loop.example/pub-messagesbuilt/pub/dnsmessage.ErrSectionDone", "loop.example/pub-messagesbuilt/pub/dnsmessage.errSegTooLong", "loop.example/pub-messagesbuilt/pub/dnsmessage.errNameTooLong", "loop.example/pub-messagesbuilt/pub/dnsmessage.errZeroSegLen", "loop.example/pub-messagesbuilt/pub/dnsmessage.errResTooLong", "loop.example/pub-messagesbuilt/pub/dnsmessage.errTooManyQuestions", "loop.example/pub-messagesbuilt/pub/dnsmessage.errTooManyAnswers", "loop.example/pub-messagesbuilt/pub/dnsmessage.errTooManyAuthorities", "loop.example/pub-messagesbuilt/pub/dnsmessage.errTooManyAdditionals", "loop.example/pub-messagesbuilt/pub/dnsmessage.errNonCanonicalName"] (by kernel_rfl) (by kernel_rfl)
theorem fnRefusedA_row_tie : Rows.fnRefusedARow.laidByTextAt .later Tryd.pinned [.sentinel, .sentinel, .sentinel, .sentinel, .sentinel, .sentinel, .sentinel, .sentinel, .sentinel, .sentinel, .sentinel] true :=
  OpenClaim.laidByTextAt_later rfl rfl tie noOwnUnsafe
theorem fnRefusedAAAA_row_tie : Rows.fnRefusedAAAARow.laidByTextAt .later Tryd.pinned [.sentinel, .sentinel, .sentinel, .sentinel, .sentinel, .sentinel, .sentinel, .sentinel, .sentinel, .sentinel, .sentinel] true :=
  OpenClaim.laidByTextAt_later rfl rfl tie noOwnUnsafe
theorem fnShortA_row_tie : Rows.fnShortARow.laidByTextAt .later Tryd.pinned [.sentinel, .sentinel, .sentinel, .sentinel, .sentinel, .sentinel, .sentinel, .sentinel, .sentinel, .sentinel, .sentinel] true :=
  OpenClaim.laidByTextAt_later rfl rfl tie noOwnUnsafe
theorem fnShortAAAA_row_tie : Rows.fnShortAAAARow.laidByTextAt .later Tryd.pinned [.sentinel, .sentinel, .sentinel, .sentinel, .sentinel, .sentinel, .sentinel, .sentinel, .sentinel, .sentinel, .sentinel] true :=
  OpenClaim.laidByTextAt_later rfl rfl tie noOwnUnsafe
theorem fnTypeA_row_tie : Rows.fnTypeARow.laidByTextAt .later Tryd.pinned [.sentinel, .sentinel, .sentinel, .sentinel, .sentinel, .sentinel, .sentinel, .sentinel, .sentinel, .sentinel, .sentinel] true :=
  OpenClaim.laidByTextAt_later rfl rfl tie noOwnUnsafe
theorem fnTypeAAAA_row_tie : Rows.fnTypeAAAARow.laidByTextAt .later Tryd.pinned [.sentinel, .sentinel, .sentinel, .sentinel, .sentinel, .sentinel, .sentinel, .sentinel, .sentinel, .sentinel, .sentinel] true :=
  OpenClaim.laidByTextAt_later rfl rfl tie noOwnUnsafe
theorem fnOwnerSOA_row_tie : Rows.fnOwnerSOARow.laidByTextAt .later Tryd.pinned [.sentinel, .sentinel, .sentinel, .sentinel, .sentinel, .sentinel, .sentinel, .sentinel, .sentinel, .sentinel, .sentinel] true :=
  OpenClaim.laidByTextAt_later rfl rfl tie noOwnUnsafe
theorem fnRefusedSOA_row_tie : Rows.fnRefusedSOARow.laidByTextAt .later Tryd.pinned [.sentinel, .sentinel, .sentinel, .sentinel, .sentinel, .sentinel, .sentinel, .sentinel, .sentinel, .sentinel, .sentinel] true :=
  OpenClaim.laidByTextAt_later rfl rfl tie noOwnUnsafe
theorem fnShortSOA_row_tie : Rows.fnShortSOARow.laidByTextAt .later Tryd.pinned [.sentinel, .sentinel, .sentinel, .sentinel, .sentinel, .sentinel, .sentinel, .sentinel, .sentinel, .sentinel, .sentinel] true :=
  OpenClaim.laidByTextAt_later rfl rfl tie noOwnUnsafe
theorem fnTypeSOA_row_tie : Rows.fnTypeSOARow.laidByTextAt .later Tryd.pinned [.sentinel, .sentinel, .sentinel, .sentinel, .sentinel, .sentinel, .sentinel, .sentinel, .sentinel, .sentinel, .sentinel] true :=
  OpenClaim.laidByTextAt_later rfl rfl tie noOwnUnsafe
theorem fnRefusedAUpto_row_tie : Rows.fnRefusedAUptoRow.laidByTextAt .later Tryd.pinned [.sentinel, .sentinel, .sentinel, .sentinel, .sentinel, .sentinel, .sentinel, .sentinel, .sentinel, .sentinel, .sentinel] true :=
  OpenClaim.laidByTextAt_later rfl rfl tie noOwnUnsafe
theorem fnRefusedAAAAUpto_row_tie : Rows.fnRefusedAAAAUptoRow.laidByTextAt .later Tryd.pinned [.sentinel, .sentinel, .sentinel, .sentinel, .sentinel, .sentinel, .sentinel, .sentinel, .sentinel, .sentinel, .sentinel] true :=
  OpenClaim.laidByTextAt_later rfl rfl tie noOwnUnsafe
theorem fnShortAUpto_row_tie : Rows.fnShortAUptoRow.laidByTextAt .later Tryd.pinned [.sentinel, .sentinel, .sentinel, .sentinel, .sentinel, .sentinel, .sentinel, .sentinel, .sentinel, .sentinel, .sentinel] true :=
  OpenClaim.laidByTextAt_later rfl rfl tie noOwnUnsafe
theorem fnShortAAAAUpto_row_tie : Rows.fnShortAAAAUptoRow.laidByTextAt .later Tryd.pinned [.sentinel, .sentinel, .sentinel, .sentinel, .sentinel, .sentinel, .sentinel, .sentinel, .sentinel, .sentinel, .sentinel] true :=
  OpenClaim.laidByTextAt_later rfl rfl tie noOwnUnsafe
theorem fnTypeAUpto_row_tie : Rows.fnTypeAUptoRow.laidByTextAt .later Tryd.pinned [.sentinel, .sentinel, .sentinel, .sentinel, .sentinel, .sentinel, .sentinel, .sentinel, .sentinel, .sentinel, .sentinel] true :=
  OpenClaim.laidByTextAt_later rfl rfl tie noOwnUnsafe
theorem fnTypeAAAAUpto_row_tie : Rows.fnTypeAAAAUptoRow.laidByTextAt .later Tryd.pinned [.sentinel, .sentinel, .sentinel, .sentinel, .sentinel, .sentinel, .sentinel, .sentinel, .sentinel, .sentinel, .sentinel] true :=
  OpenClaim.laidByTextAt_later rfl rfl tie noOwnUnsafe
theorem fnOwnerSOAUpto_row_tie : Rows.fnOwnerSOAUptoRow.laidByTextAt .later Tryd.pinned [.sentinel, .sentinel, .sentinel, .sentinel, .sentinel, .sentinel, .sentinel, .sentinel, .sentinel, .sentinel, .sentinel] true :=
  OpenClaim.laidByTextAt_later rfl rfl tie noOwnUnsafe
theorem fnRefusedSOAUpto_row_tie : Rows.fnRefusedSOAUptoRow.laidByTextAt .later Tryd.pinned [.sentinel, .sentinel, .sentinel, .sentinel, .sentinel, .sentinel, .sentinel, .sentinel, .sentinel, .sentinel, .sentinel] true :=
  OpenClaim.laidByTextAt_later rfl rfl tie noOwnUnsafe
theorem fnShortSOAUpto_row_tie : Rows.fnShortSOAUptoRow.laidByTextAt .later Tryd.pinned [.sentinel, .sentinel, .sentinel, .sentinel, .sentinel, .sentinel, .sentinel, .sentinel, .sentinel, .sentinel, .sentinel] true :=
  OpenClaim.laidByTextAt_later rfl rfl tie noOwnUnsafe
theorem fnTypeSOAUpto_row_tie : Rows.fnTypeSOAUptoRow.laidByTextAt .later Tryd.pinned [.sentinel, .sentinel, .sentinel, .sentinel, .sentinel, .sentinel, .sentinel, .sentinel, .sentinel, .sentinel, .sentinel] true :=
  OpenClaim.laidByTextAt_later rfl rfl tie noOwnUnsafe
end Go.Proofs.YtjafnfeamlabbaaDoor
