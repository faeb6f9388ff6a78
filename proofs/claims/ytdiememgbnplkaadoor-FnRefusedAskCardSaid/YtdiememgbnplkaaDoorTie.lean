/-
  DERIVED. GIVEN WITH THE SEED: THE PROGRAM's TIES (one call each: nine closed facts by the kernel) AND EACH ROW's TIE, after the 31st guide's Derived/Test/Toyas{Tie, Card}.lean. No idea stands in it: it is a product of the set-up. Laid BY PROGRAM, IN A SANDBOX (cutbox-door.mjs). By AI agents, Wed Nov 11 2026. No macro, syntax, notation, axiom, sorry.
-/
import Derived.Test.YtdiememgbnplkaaDoorRows
import Derived.LaidByTextLater
import Derived.SevenTiedAt
import Derived.LaidSub
import Derived.LaidOnce
namespace Go.Proofs.YtdiememgbnplkaaDoor
open Go
set_option maxRecDepth 100000
theorem seatTie1 : Tryd.prog.laidByTextLater [("loop.example/pub-messagesbuilt/pub/dnsmessage.ErrNotStarted", Rows.laid_loop_example_pub_messagesbuilt_pub_dnsmessage_ErrNotStarted), ("loop.example/pub-messagesbuilt/pub/dnsmessage.ErrSectionDone", Rows.laid_loop_example_pub_messagesbuilt_pub_dnsmessage_ErrSectionDone), ("loop.example/pub-messagesbuilt/pub/dnsmessage.errSegTooLong", Rows.laid_loop_example_pub_messagesbuilt_pub_dnsmessage_errSegTooLong), ("loop.example/pub-messagesbuilt/pub/dnsmessage.errNameTooLong", Rows.laid_loop_example_pub_messagesbuilt_pub_dnsmessage_errNameTooLong), ("loop.example/pub-messagesbuilt/pub/dnsmessage.errZeroSegLen", Rows.laid_loop_example_pub_messagesbuilt_pub_dnsmessage_errZeroSegLen), ("loop.example/pub-messagesbuilt/pub/dnsmessage.errTooManyQuestions", Rows.laid_loop_example_pub_messagesbuilt_pub_dnsmessage_errTooManyQuestions), ("loop.example/pub-messagesbuilt/pub/dnsmessage.errTooManyAnswers", Rows.laid_loop_example_pub_messagesbuilt_pub_dnsmessage_errTooManyAnswers), ("loop.example/pub-messagesbuilt/pub/dnsmessage.errTooManyAuthorities", Rows.laid_loop_example_pub_messagesbuilt_pub_dnsmessage_errTooManyAuthorities), ("loop.example/pub-messagesbuilt/pub/dnsmessage.errTooManyAdditionals", Rows.laid_loop_example_pub_messagesbuilt_pub_dnsmessage_errTooManyAdditionals), ("loop.example/pub-messagesbuilt/pub/dnsmessage.errNonCanonicalName", Rows.laid_loop_example_pub_messagesbuilt_pub_dnsmessage_errNonCanonicalName)] [.sentinel, .sentinel, .sentinel, .sentinel, .sentinel, .sentinel, .sentinel, .sentinel, .sentinel, .sentinel] true :=
  Program.laidByTextLater_by_one 199 8 2 (by kernel_rfl) (by kernel_rfl) (by kernel_rfl) (by kernel_rfl) (by kernel_rfl) (by kernel_rfl) (fun _ _ => by kernel_rfl)
theorem noOwnUnsafe : Tryd.pinned.checked.prog.headLifts.contains "ownunsafe" = false := by kernel_rfl
theorem tie : Tryd.prog.laidByTextLater [("loop.example/pub-messagesbuilt/pub/dnsmessage.ErrNotStarted", Rows.laid_loop_example_pub_messagesbuilt_pub_dnsmessage_ErrNotStarted), ("loop.example/pub-messagesbuilt/pub/dnsmessage.ErrSectionDone", Rows.laid_loop_example_pub_messagesbuilt_pub_dnsmessage_ErrSectionDone), ("loop.example/pub-messagesbuilt/pub/dnsmessage.errSegTooLong", Rows.laid_loop_example_pub_messagesbuilt_pub_dnsmessage_errSegTooLong), ("loop.example/pub-messagesbuilt/pub/dnsmessage.errNameTooLong", Rows.laid_loop_example_pub_messagesbuilt_pub_dnsmessage_errNameTooLong), ("loop.example/pub-messagesbuilt/pub/dnsmessage.errZeroSegLen", Rows.laid_loop_example_pub_messagesbuilt_pub_dnsmessage_errZeroSegLen), ("loop.example/pub-messagesbuilt/pub/dnsmessage.errTooManyQuestions", Rows.laid_loop_example_pub_messagesbuilt_pub_dnsmessage_errTooManyQuestions), ("loop.example/pub-messagesbuilt/pub/dnsmessage.errTooManyAnswers", Rows.laid_loop_example_pub_messagesbuilt_pub_dnsmessage_errTooManyAnswers), ("loop.example/pub-messagesbuilt/pub/dnsmessage.errTooManyAuthorities", Rows.laid_loop_example_pub_messagesbuilt_pub_dnsmessage_errTooManyAuthorities), ("loop.example/pub-messagesbuilt/pub/dnsmessage.errTooManyAdditionals", Rows.laid_loop_example_pub_messagesbuilt_pub_dnsmessage_errTooManyAdditionals), ("loop.example/pub-messagesbuilt/pub/dnsmessage.errNonCanonicalName", Rows.laid_loop_example_pub_messagesbuilt_pub_dnsmessage_errNonCanonicalName)] [.sentinel, .sentinel, .sentinel, .sentinel, .sentinel, .sentinel, .sentinel, .sentinel, .sentinel, .sentinel] true :=
  Program.laidByTextLater.sub seatTie1 ["loop.example/pub-messagesbuilt/pub/dnsmessage.ErrNotStarted", "loop.example/pub-messagesbuilt/pub/dnsmessage.ErrSectionDone", "loop.example/pub-messagesbuilt/pub/dnsmessage.errSegTooLong", "loop.example/pub-messagesbuilt/pub/dnsmessage.errNameTooLong", "loop.example/pub-messagesbuilt/pub/dnsmessage.errZeroSegLen", "loop.example/pub-messagesbuilt/pub/dnsmessage.errTooManyQuestions", "loop.example/pub-messagesbuilt/pub/dnsmessage.errTooManyAnswers", "loop.example/pub-messagesbuilt/pub/dnsmessage.errTooManyAuthorities", "loop.example/pub-messagesbuilt/pub/dnsmessage.errTooManyAdditionals", "loop.example/pub-messagesbuilt/pub/dnsmessage.errNonCanonicalName"] (by kernel_rfl) (by kernel_rfl)
theorem fnAsks_row_tie : Rows.fnAsksRow.laidByTextAt .later Tryd.pinned [.sentinel, .sentinel, .sentinel, .sentinel, .sentinel, .sentinel, .sentinel, .sentinel, .sentinel, .sentinel] true :=
  OpenClaim.laidByTextAt_later rfl rfl tie noOwnUnsafe
theorem fnBehindAsks_row_tie : Rows.fnBehindAsksRow.laidByTextAt .later Tryd.pinned [.sentinel, .sentinel, .sentinel, .sentinel, .sentinel, .sentinel, .sentinel, .sentinel, .sentinel, .sentinel] true :=
  OpenClaim.laidByTextAt_later rfl rfl tie noOwnUnsafe
theorem fnBitAuthentic_row_tie : Rows.fnBitAuthenticRow.laidByTextAt .later Tryd.pinned [.sentinel, .sentinel, .sentinel, .sentinel, .sentinel, .sentinel, .sentinel, .sentinel, .sentinel, .sentinel] true :=
  OpenClaim.laidByTextAt_later rfl rfl tie noOwnUnsafe
theorem fnBitAuthority_row_tie : Rows.fnBitAuthorityRow.laidByTextAt .later Tryd.pinned [.sentinel, .sentinel, .sentinel, .sentinel, .sentinel, .sentinel, .sentinel, .sentinel, .sentinel, .sentinel] true :=
  OpenClaim.laidByTextAt_later rfl rfl tie noOwnUnsafe
theorem fnBitDesired_row_tie : Rows.fnBitDesiredRow.laidByTextAt .later Tryd.pinned [.sentinel, .sentinel, .sentinel, .sentinel, .sentinel, .sentinel, .sentinel, .sentinel, .sentinel, .sentinel] true :=
  OpenClaim.laidByTextAt_later rfl rfl tie noOwnUnsafe
theorem fnEarlyAsk_row_tie : Rows.fnEarlyAskRow.laidByTextAt .later Tryd.pinned [.sentinel, .sentinel, .sentinel, .sentinel, .sentinel, .sentinel, .sentinel, .sentinel, .sentinel, .sentinel] true :=
  OpenClaim.laidByTextAt_later rfl rfl tie noOwnUnsafe
theorem fnHead_row_tie : Rows.fnHeadRow.laidByTextAt .later Tryd.pinned [.sentinel, .sentinel, .sentinel, .sentinel, .sentinel, .sentinel, .sentinel, .sentinel, .sentinel, .sentinel] true :=
  OpenClaim.laidByTextAt_later rfl rfl tie noOwnUnsafe
theorem fnHeadSections_row_tie : Rows.fnHeadSectionsRow.laidByTextAt .later Tryd.pinned [.sentinel, .sentinel, .sentinel, .sentinel, .sentinel, .sentinel, .sentinel, .sentinel, .sentinel, .sentinel] true :=
  OpenClaim.laidByTextAt_later rfl rfl tie noOwnUnsafe
theorem fnRefusedAsk_row_tie : Rows.fnRefusedAskRow.laidByTextAt .later Tryd.pinned [.sentinel, .sentinel, .sentinel, .sentinel, .sentinel, .sentinel, .sentinel, .sentinel, .sentinel, .sentinel] true :=
  OpenClaim.laidByTextAt_later rfl rfl tie noOwnUnsafe
theorem fnAsksUpto_row_tie : Rows.fnAsksUptoRow.laidByTextAt .later Tryd.pinned [.sentinel, .sentinel, .sentinel, .sentinel, .sentinel, .sentinel, .sentinel, .sentinel, .sentinel, .sentinel] true :=
  OpenClaim.laidByTextAt_later rfl rfl tie noOwnUnsafe
theorem fnBehindAsksUpto_row_tie : Rows.fnBehindAsksUptoRow.laidByTextAt .later Tryd.pinned [.sentinel, .sentinel, .sentinel, .sentinel, .sentinel, .sentinel, .sentinel, .sentinel, .sentinel, .sentinel] true :=
  OpenClaim.laidByTextAt_later rfl rfl tie noOwnUnsafe
theorem fnBitAuthenticUpto_row_tie : Rows.fnBitAuthenticUptoRow.laidByTextAt .later Tryd.pinned [.sentinel, .sentinel, .sentinel, .sentinel, .sentinel, .sentinel, .sentinel, .sentinel, .sentinel, .sentinel] true :=
  OpenClaim.laidByTextAt_later rfl rfl tie noOwnUnsafe
theorem fnBitAuthorityUpto_row_tie : Rows.fnBitAuthorityUptoRow.laidByTextAt .later Tryd.pinned [.sentinel, .sentinel, .sentinel, .sentinel, .sentinel, .sentinel, .sentinel, .sentinel, .sentinel, .sentinel] true :=
  OpenClaim.laidByTextAt_later rfl rfl tie noOwnUnsafe
theorem fnBitDesiredUpto_row_tie : Rows.fnBitDesiredUptoRow.laidByTextAt .later Tryd.pinned [.sentinel, .sentinel, .sentinel, .sentinel, .sentinel, .sentinel, .sentinel, .sentinel, .sentinel, .sentinel] true :=
  OpenClaim.laidByTextAt_later rfl rfl tie noOwnUnsafe
theorem fnEarlyAskUpto_row_tie : Rows.fnEarlyAskUptoRow.laidByTextAt .later Tryd.pinned [.sentinel, .sentinel, .sentinel, .sentinel, .sentinel, .sentinel, .sentinel, .sentinel, .sentinel, .sentinel] true :=
  OpenClaim.laidByTextAt_later rfl rfl tie noOwnUnsafe
theorem fnHeadUpto_row_tie : Rows.fnHeadUptoRow.laidByTextAt .later Tryd.pinned [.sentinel, .sentinel, .sentinel, .sentinel, .sentinel, .sentinel, .sentinel, .sentinel, .sentinel, .sentinel] true :=
  OpenClaim.laidByTextAt_later rfl rfl tie noOwnUnsafe
theorem fnHeadSectionsUpto_row_tie : Rows.fnHeadSectionsUptoRow.laidByTextAt .later Tryd.pinned [.sentinel, .sentinel, .sentinel, .sentinel, .sentinel, .sentinel, .sentinel, .sentinel, .sentinel, .sentinel] true :=
  OpenClaim.laidByTextAt_later rfl rfl tie noOwnUnsafe
theorem fnRefusedAskUpto_row_tie : Rows.fnRefusedAskUptoRow.laidByTextAt .later Tryd.pinned [.sentinel, .sentinel, .sentinel, .sentinel, .sentinel, .sentinel, .sentinel, .sentinel, .sentinel, .sentinel] true :=
  OpenClaim.laidByTextAt_later rfl rfl tie noOwnUnsafe
end Go.Proofs.YtdiememgbnplkaaDoor
