/-
  Facts of the program's tables that the laws' walks use.
-/
import Derived.Test.YtdiememgbnplkaaDoorFnAsks
namespace Go.Proofs.YtdiememgbnplkaaDoor
open Go
set_option maxRecDepth 100000
theorem elt_25 : Elt Tryd.prog 25 41 3 24 (.agg #[.string ByteArray.empty, .int .u16 0, .int .u16 0]) := ⟨Tryd.underlying25, by decide, by kernel_rfl, by kernel_rfl, by decide⟩
theorem has_24 : Has Tryd.prog 24 := ⟨_, Tryd.func24, by kernel_rfl, rfl⟩
theorem places_41 : places Tryd.prog 41 = some [(0, 1), (1, 1), (2, 1)] := by kernel_rfl
end Go.Proofs.YtdiememgbnplkaaDoor
