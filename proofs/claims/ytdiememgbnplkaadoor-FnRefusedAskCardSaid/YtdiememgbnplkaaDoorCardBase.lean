/-
  What the cards of this seat share.
-/
import Derived.Test.YtdiememgbnplkaaDoorCards
import Derived.Test.YtdiememgbnplkaaDoorTie
import Derived.Test.YtdiememgbnplkaaDoorOpen
namespace Go.Proofs.YtdiememgbnplkaaDoor
open Go
theorem own_ : ownKnob Tryd.prog.godebug = none := by kernel_rfl
theorem laidOut_ : laidOutB Tryd.prog = true := by kernel_rfl
end Go.Proofs.YtdiememgbnplkaaDoor
