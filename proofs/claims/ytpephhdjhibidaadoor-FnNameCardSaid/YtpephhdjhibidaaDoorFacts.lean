/-
  Closed facts of the program's tables.
-/
import Derived.Test.YtpephhdjhibidaaDoorMem4
import Derived.Test.YtpephhdjhibidaaDoorProg
namespace Go.Proofs.YtpephhdjhibidaaDoor
open Go
theorem follows_mixed : Tryd.prog.follows .mixedOrders = true := by kernel_rfl
theorem fa_28_0 : FieldAt Tryd.prog 28 0 0 := by unfold FieldAt; kernel_rfl
theorem fa_28_1 : FieldAt Tryd.prog 28 1 255 := by unfold FieldAt; kernel_rfl
theorem has_4 : Has Tryd.prog 4 := ⟨_, Tryd.func4, by kernel_rfl, rfl⟩
theorem has_5 : Has Tryd.prog 5 := ⟨_, Tryd.func5, by kernel_rfl, rfl⟩
theorem has_6 : Has Tryd.prog 6 := ⟨_, Tryd.func6, by kernel_rfl, rfl⟩
theorem has_7 : Has Tryd.prog 7 := ⟨_, Tryd.func7, by kernel_rfl, rfl⟩
theorem has_8 : Has Tryd.prog 8 := ⟨_, Tryd.func8, by kernel_rfl, rfl⟩
theorem has_9 : Has Tryd.prog 9 := ⟨_, Tryd.func9, by kernel_rfl, rfl⟩
theorem places_28 : places Tryd.prog 28 = some [(0, 255), (255, 1)] := by kernel_rfl
theorem sz_28 : (Tryd.prog.info? 28).map (·.size) = some 256 := by kernel_rfl
theorem sz_5 : (Tryd.prog.info? 5).map (·.size) = some 1 := by kernel_rfl
theorem zero_28 : (Tryd.prog.info? 28).bind (·.zero) = some (.agg (List.replicate 256 (Value.int .u8 0)).toArray) := by kernel_rfl
end Go.Proofs.YtpephhdjhibidaaDoor
