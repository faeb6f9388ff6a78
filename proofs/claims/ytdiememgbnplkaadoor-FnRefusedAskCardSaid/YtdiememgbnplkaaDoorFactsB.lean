/-
  Facts of the program's tables that the laws' walks use.
-/
import Derived.Test.YtdiememgbnplkaaDoorHead
namespace Go.Proofs.YtdiememgbnplkaaDoor
open Go
set_option maxRecDepth 100000
theorem elt_50 : Elt Tryd.prog 50 49 20 200 (.agg #[.int .i64 0, .string ByteArray.empty, .int .u16 0, .int .u16 0, .string ByteArray.empty, .int .u16 0, .int .u16 0, .int .u32 0, .int .u16 0, .int .i64 0, .slice none 0 0, .string ByteArray.empty, .string ByteArray.empty, .int .u32 0, .int .u32 0, .int .u32 0, .int .u32 0, .int .u32 0, .slice none 0 0, .slice none 0 0]) := ⟨Tryd.underlying50, by decide, by kernel_rfl, by kernel_rfl, by decide⟩
theorem elt_52 : Elt Tryd.prog 52 69 3 24 (.agg #[.string ByteArray.empty, .int .u16 0, .int .u16 0]) := ⟨Tryd.underlying52, by decide, by kernel_rfl, by kernel_rfl, by decide⟩
theorem elt_53 : Elt Tryd.prog 53 74 16 168 (.agg #[.string ByteArray.empty, .int .u16 0, .int .u16 0, .int .u32 0, .int .u16 0, .int .i64 0, .slice none 0 0, .string ByteArray.empty, .string ByteArray.empty, .int .u32 0, .int .u32 0, .int .u32 0, .int .u32 0, .int .u32 0, .slice none 0 0, .slice none 0 0]) := ⟨Tryd.underlying53, by decide, by kernel_rfl, by kernel_rfl, by decide⟩
theorem elt_72 : Elt Tryd.prog 72 134 2 32 (.agg #[.int .u16 0, .slice none 0 0]) := ⟨Tryd.underlying72, by decide, by kernel_rfl, by kernel_rfl, by decide⟩
theorem elt_81 : Elt Tryd.prog 81 64 1 24 (.slice none 0 0) := ⟨Tryd.underlying81, by decide, by kernel_rfl, by kernel_rfl, by decide⟩
theorem fa_47_10 : FieldAt Tryd.prog 47 10 10 := by unfold FieldAt; kernel_rfl
theorem fa_47_11 : FieldAt Tryd.prog 47 11 11 := by unfold FieldAt; kernel_rfl
theorem fa_47_12 : FieldAt Tryd.prog 47 12 12 := by unfold FieldAt; kernel_rfl
theorem fa_47_13 : FieldAt Tryd.prog 47 13 13 := by unfold FieldAt; kernel_rfl
theorem fa_47_14 : FieldAt Tryd.prog 47 14 14 := by unfold FieldAt; kernel_rfl
theorem fa_47_15 : FieldAt Tryd.prog 47 15 15 := by unfold FieldAt; kernel_rfl
theorem fa_47_6 : FieldAt Tryd.prog 47 6 6 := by unfold FieldAt; kernel_rfl
theorem fa_47_7 : FieldAt Tryd.prog 47 7 7 := by unfold FieldAt; kernel_rfl
theorem fa_47_8 : FieldAt Tryd.prog 47 8 8 := by unfold FieldAt; kernel_rfl
theorem fa_47_9 : FieldAt Tryd.prog 47 9 9 := by unfold FieldAt; kernel_rfl
theorem has_12 : Has Tryd.prog 12 := ⟨_, Tryd.func12, by kernel_rfl, rfl⟩
theorem has_19 : Has Tryd.prog 19 := ⟨_, Tryd.func19, by kernel_rfl, rfl⟩
theorem has_20 : Has Tryd.prog 20 := ⟨_, Tryd.func20, by kernel_rfl, rfl⟩
theorem has_23 : Has Tryd.prog 23 := ⟨_, Tryd.func23, by kernel_rfl, rfl⟩
theorem has_25 : Has Tryd.prog 25 := ⟨_, Tryd.func25, by kernel_rfl, rfl⟩
theorem has_31 : Has Tryd.prog 31 := ⟨_, Tryd.func31, by kernel_rfl, rfl⟩
theorem has_32 : Has Tryd.prog 32 := ⟨_, Tryd.func32, by kernel_rfl, rfl⟩
theorem has_52 : Has Tryd.prog 52 := ⟨_, Tryd.func52, by kernel_rfl, rfl⟩
theorem places_49 : places Tryd.prog 49 = some [(0, 1), (1, 3), (4, 16)] := by kernel_rfl
theorem places_55 : places Tryd.prog 55 = some [(0, 10), (10, 1), (11, 1), (12, 1), (13, 1)] := by kernel_rfl
theorem places_74 : places Tryd.prog 74 = some [(0, 1), (1, 1), (2, 1), (3, 1), (4, 1), (5, 1), (6, 1), (7, 1), (8, 1), (9, 1), (10, 1), (11, 1), (12, 1), (13, 1), (14, 1), (15, 1)] := by kernel_rfl
theorem sz_133 : (Tryd.prog.info? 133).map (·.size) = some 2 := by kernel_rfl
theorem sz_4 : (Tryd.prog.info? 4).map (·.size) = some 1 := by kernel_rfl
theorem sz_55 : (Tryd.prog.info? 55).map (·.size) = some 14 := by kernel_rfl
theorem sz_64 : (Tryd.prog.info? 64).map (·.size) = some 1 := by kernel_rfl
theorem zero_133 : (Tryd.prog.info? 133).bind (·.zero) = some (.agg #[.int .u16 0, .slice none 0 0]) := by kernel_rfl
theorem zero_24 : (Tryd.prog.info? 24).bind (·.zero) = some (.agg #[.int .u16 0, .bool false, .int .u16 0, .bool false, .bool false, .bool false, .bool false, .bool false, .bool false, .int .u16 0]) := by kernel_rfl
theorem zero_41 : (Tryd.prog.info? 41).bind (·.zero) = some (.agg #[.string ByteArray.empty, .int .u16 0, .int .u16 0]) := by kernel_rfl
theorem zero_47 : (Tryd.prog.info? 47).bind (·.zero) = some (.agg #[.string ByteArray.empty, .int .u16 0, .int .u16 0, .int .u32 0, .int .u16 0, .int .i64 0, .slice none 0 0, .string ByteArray.empty, .string ByteArray.empty, .int .u32 0, .int .u32 0, .int .u32 0, .int .u32 0, .int .u32 0, .slice none 0 0, .slice none 0 0]) := by kernel_rfl
theorem zero_55 : (Tryd.prog.info? 55).bind (·.zero) = some (.agg #[.int .u16 0, .bool false, .int .u16 0, .bool false, .bool false, .bool false, .bool false, .bool false, .bool false, .int .u16 0, .slice none 0 0, .slice none 0 0, .slice none 0 0, .slice none 0 0]) := by kernel_rfl
end Go.Proofs.YtdiememgbnplkaaDoor
