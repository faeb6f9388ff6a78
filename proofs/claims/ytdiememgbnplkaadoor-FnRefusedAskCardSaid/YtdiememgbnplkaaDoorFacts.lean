/-
  Closed facts of the program's tables.
-/
import Derived.Test.YtdiememgbnplkaaDoorMem4
import Derived.Test.YtdiememgbnplkaaDoorProg
namespace Go.Proofs.YtdiememgbnplkaaDoor
open Go
theorem follows_mixed : Tryd.prog.follows .mixedOrders = true := by kernel_rfl
theorem elt_115 : Elt Tryd.prog 115 29 1 24 (.slice none 0 0) := ⟨Tryd.underlying115, by decide, by kernel_rfl, by kernel_rfl, by decide⟩
theorem elt_29 : Elt Tryd.prog 29 5 1 1 (.int .u8 0) := ⟨Tryd.underlying29, by decide, by kernel_rfl, by kernel_rfl, by decide⟩
theorem elt_35 : Elt Tryd.prog 35 3 1 8 (.int .i64 0) := ⟨Tryd.underlying35, by decide, by kernel_rfl, by kernel_rfl, by decide⟩
theorem elt_71 : Elt Tryd.prog 71 53 1 24 (.slice none 0 0) := ⟨Tryd.underlying71, by decide, by kernel_rfl, by kernel_rfl, by decide⟩
theorem fa_103_0 : FieldAt Tryd.prog 103 0 0 := by unfold FieldAt; kernel_rfl
theorem fa_103_1 : FieldAt Tryd.prog 103 1 255 := by unfold FieldAt; kernel_rfl
theorem fa_107_0 : FieldAt Tryd.prog 107 0 0 := by unfold FieldAt; kernel_rfl
theorem fa_107_1 : FieldAt Tryd.prog 107 1 256 := by unfold FieldAt; kernel_rfl
theorem fa_107_2 : FieldAt Tryd.prog 107 2 257 := by unfold FieldAt; kernel_rfl
theorem fa_24_0 : FieldAt Tryd.prog 24 0 0 := by unfold FieldAt; kernel_rfl
theorem fa_24_1 : FieldAt Tryd.prog 24 1 1 := by unfold FieldAt; kernel_rfl
theorem fa_24_2 : FieldAt Tryd.prog 24 2 2 := by unfold FieldAt; kernel_rfl
theorem fa_24_3 : FieldAt Tryd.prog 24 3 3 := by unfold FieldAt; kernel_rfl
theorem fa_24_4 : FieldAt Tryd.prog 24 4 4 := by unfold FieldAt; kernel_rfl
theorem fa_24_5 : FieldAt Tryd.prog 24 5 5 := by unfold FieldAt; kernel_rfl
theorem fa_24_6 : FieldAt Tryd.prog 24 6 6 := by unfold FieldAt; kernel_rfl
theorem fa_24_7 : FieldAt Tryd.prog 24 7 7 := by unfold FieldAt; kernel_rfl
theorem fa_24_8 : FieldAt Tryd.prog 24 8 8 := by unfold FieldAt; kernel_rfl
theorem fa_24_9 : FieldAt Tryd.prog 24 9 9 := by unfold FieldAt; kernel_rfl
theorem fa_33_0 : FieldAt Tryd.prog 33 0 0 := by unfold FieldAt; kernel_rfl
theorem fa_33_1 : FieldAt Tryd.prog 33 1 1 := by unfold FieldAt; kernel_rfl
theorem fa_33_2 : FieldAt Tryd.prog 33 2 2 := by unfold FieldAt; kernel_rfl
theorem fa_33_3 : FieldAt Tryd.prog 33 3 3 := by unfold FieldAt; kernel_rfl
theorem fa_33_4 : FieldAt Tryd.prog 33 4 4 := by unfold FieldAt; kernel_rfl
theorem fa_33_5 : FieldAt Tryd.prog 33 5 5 := by unfold FieldAt; kernel_rfl
theorem fa_33_6 : FieldAt Tryd.prog 33 6 6 := by unfold FieldAt; kernel_rfl
theorem fa_33_7 : FieldAt Tryd.prog 33 7 7 := by unfold FieldAt; kernel_rfl
theorem fa_33_8 : FieldAt Tryd.prog 33 8 8 := by unfold FieldAt; kernel_rfl
theorem fa_33_9 : FieldAt Tryd.prog 33 9 9 := by unfold FieldAt; kernel_rfl
theorem fa_37_0 : FieldAt Tryd.prog 37 0 0 := by unfold FieldAt; kernel_rfl
theorem fa_37_1 : FieldAt Tryd.prog 37 1 1 := by unfold FieldAt; kernel_rfl
theorem fa_37_2 : FieldAt Tryd.prog 37 2 2 := by unfold FieldAt; kernel_rfl
theorem fa_41_0 : FieldAt Tryd.prog 41 0 0 := by unfold FieldAt; kernel_rfl
theorem fa_41_1 : FieldAt Tryd.prog 41 1 1 := by unfold FieldAt; kernel_rfl
theorem fa_41_2 : FieldAt Tryd.prog 41 2 2 := by unfold FieldAt; kernel_rfl
theorem fa_47_0 : FieldAt Tryd.prog 47 0 0 := by unfold FieldAt; kernel_rfl
theorem fa_47_1 : FieldAt Tryd.prog 47 1 1 := by unfold FieldAt; kernel_rfl
theorem fa_47_2 : FieldAt Tryd.prog 47 2 2 := by unfold FieldAt; kernel_rfl
theorem fa_47_3 : FieldAt Tryd.prog 47 3 3 := by unfold FieldAt; kernel_rfl
theorem fa_47_4 : FieldAt Tryd.prog 47 4 4 := by unfold FieldAt; kernel_rfl
theorem fa_49_0 : FieldAt Tryd.prog 49 0 0 := by unfold FieldAt; kernel_rfl
theorem fa_49_1 : FieldAt Tryd.prog 49 1 1 := by unfold FieldAt; kernel_rfl
theorem fa_49_2 : FieldAt Tryd.prog 49 2 4 := by unfold FieldAt; kernel_rfl
theorem fa_55_0 : FieldAt Tryd.prog 55 0 0 := by unfold FieldAt; kernel_rfl
theorem fa_55_1 : FieldAt Tryd.prog 55 1 10 := by unfold FieldAt; kernel_rfl
theorem fa_55_2 : FieldAt Tryd.prog 55 2 11 := by unfold FieldAt; kernel_rfl
theorem fa_55_3 : FieldAt Tryd.prog 55 3 12 := by unfold FieldAt; kernel_rfl
theorem fa_55_4 : FieldAt Tryd.prog 55 4 13 := by unfold FieldAt; kernel_rfl
theorem fa_69_0 : FieldAt Tryd.prog 69 0 0 := by unfold FieldAt; kernel_rfl
theorem fa_69_1 : FieldAt Tryd.prog 69 1 1 := by unfold FieldAt; kernel_rfl
theorem fa_69_2 : FieldAt Tryd.prog 69 2 2 := by unfold FieldAt; kernel_rfl
theorem fa_74_0 : FieldAt Tryd.prog 74 0 0 := by unfold FieldAt; kernel_rfl
theorem fa_86_0 : FieldAt Tryd.prog 86 0 0 := by unfold FieldAt; kernel_rfl
theorem fa_86_1 : FieldAt Tryd.prog 86 1 1 := by unfold FieldAt; kernel_rfl
theorem fa_86_2 : FieldAt Tryd.prog 86 2 2 := by unfold FieldAt; kernel_rfl
theorem fa_86_3 : FieldAt Tryd.prog 86 3 3 := by unfold FieldAt; kernel_rfl
theorem fa_86_4 : FieldAt Tryd.prog 86 4 4 := by unfold FieldAt; kernel_rfl
theorem fa_86_5 : FieldAt Tryd.prog 86 5 5 := by unfold FieldAt; kernel_rfl
theorem fa_89_0 : FieldAt Tryd.prog 89 0 0 := by unfold FieldAt; kernel_rfl
theorem fa_89_1 : FieldAt Tryd.prog 89 1 1 := by unfold FieldAt; kernel_rfl
theorem fa_89_2 : FieldAt Tryd.prog 89 2 2 := by unfold FieldAt; kernel_rfl
theorem fa_89_3 : FieldAt Tryd.prog 89 3 8 := by unfold FieldAt; kernel_rfl
theorem fa_89_4 : FieldAt Tryd.prog 89 4 9 := by unfold FieldAt; kernel_rfl
theorem fa_94_0 : FieldAt Tryd.prog 94 0 0 := by unfold FieldAt; kernel_rfl
theorem fa_94_1 : FieldAt Tryd.prog 94 1 1 := by unfold FieldAt; kernel_rfl
theorem fa_94_2 : FieldAt Tryd.prog 94 2 2 := by unfold FieldAt; kernel_rfl
theorem fa_94_3 : FieldAt Tryd.prog 94 3 3 := by unfold FieldAt; kernel_rfl
theorem fa_94_4 : FieldAt Tryd.prog 94 4 4 := by unfold FieldAt; kernel_rfl
theorem fa_94_5 : FieldAt Tryd.prog 94 5 5 := by unfold FieldAt; kernel_rfl
theorem fa_94_6 : FieldAt Tryd.prog 94 6 6 := by unfold FieldAt; kernel_rfl
theorem fa_94_7 : FieldAt Tryd.prog 94 7 7 := by unfold FieldAt; kernel_rfl
theorem fa_94_8 : FieldAt Tryd.prog 94 8 8 := by unfold FieldAt; kernel_rfl
theorem fa_94_9 : FieldAt Tryd.prog 94 9 9 := by unfold FieldAt; kernel_rfl
theorem has_13 : Has Tryd.prog 13 := ⟨_, Tryd.func13, by kernel_rfl, rfl⟩
theorem has_15 : Has Tryd.prog 15 := ⟨_, Tryd.func15, by kernel_rfl, rfl⟩
theorem has_16 : Has Tryd.prog 16 := ⟨_, Tryd.func16, by kernel_rfl, rfl⟩
theorem has_17 : Has Tryd.prog 17 := ⟨_, Tryd.func17, by kernel_rfl, rfl⟩
theorem has_18 : Has Tryd.prog 18 := ⟨_, Tryd.func18, by kernel_rfl, rfl⟩
theorem has_21 : Has Tryd.prog 21 := ⟨_, Tryd.func21, by kernel_rfl, rfl⟩
theorem has_22 : Has Tryd.prog 22 := ⟨_, Tryd.func22, by kernel_rfl, rfl⟩
theorem has_26 : Has Tryd.prog 26 := ⟨_, Tryd.func26, by kernel_rfl, rfl⟩
theorem has_27 : Has Tryd.prog 27 := ⟨_, Tryd.func27, by kernel_rfl, rfl⟩
theorem has_28 : Has Tryd.prog 28 := ⟨_, Tryd.func28, by kernel_rfl, rfl⟩
theorem has_29 : Has Tryd.prog 29 := ⟨_, Tryd.func29, by kernel_rfl, rfl⟩
theorem has_30 : Has Tryd.prog 30 := ⟨_, Tryd.func30, by kernel_rfl, rfl⟩
theorem has_33 : Has Tryd.prog 33 := ⟨_, Tryd.func33, by kernel_rfl, rfl⟩
theorem has_34 : Has Tryd.prog 34 := ⟨_, Tryd.func34, by kernel_rfl, rfl⟩
theorem has_35 : Has Tryd.prog 35 := ⟨_, Tryd.func35, by kernel_rfl, rfl⟩
theorem has_36 : Has Tryd.prog 36 := ⟨_, Tryd.func36, by kernel_rfl, rfl⟩
theorem has_37 : Has Tryd.prog 37 := ⟨_, Tryd.func37, by kernel_rfl, rfl⟩
theorem has_38 : Has Tryd.prog 38 := ⟨_, Tryd.func38, by kernel_rfl, rfl⟩
theorem has_39 : Has Tryd.prog 39 := ⟨_, Tryd.func39, by kernel_rfl, rfl⟩
theorem has_40 : Has Tryd.prog 40 := ⟨_, Tryd.func40, by kernel_rfl, rfl⟩
theorem has_41 : Has Tryd.prog 41 := ⟨_, Tryd.func41, by kernel_rfl, rfl⟩
theorem has_42 : Has Tryd.prog 42 := ⟨_, Tryd.func42, by kernel_rfl, rfl⟩
theorem has_43 : Has Tryd.prog 43 := ⟨_, Tryd.func43, by kernel_rfl, rfl⟩
theorem has_44 : Has Tryd.prog 44 := ⟨_, Tryd.func44, by kernel_rfl, rfl⟩
theorem has_45 : Has Tryd.prog 45 := ⟨_, Tryd.func45, by kernel_rfl, rfl⟩
theorem has_46 : Has Tryd.prog 46 := ⟨_, Tryd.func46, by kernel_rfl, rfl⟩
theorem has_47 : Has Tryd.prog 47 := ⟨_, Tryd.func47, by kernel_rfl, rfl⟩
theorem has_48 : Has Tryd.prog 48 := ⟨_, Tryd.func48, by kernel_rfl, rfl⟩
theorem has_49 : Has Tryd.prog 49 := ⟨_, Tryd.func49, by kernel_rfl, rfl⟩
theorem has_57 : Has Tryd.prog 57 := ⟨_, Tryd.func57, by kernel_rfl, rfl⟩
theorem has_58 : Has Tryd.prog 58 := ⟨_, Tryd.func58, by kernel_rfl, rfl⟩
theorem has_59 : Has Tryd.prog 59 := ⟨_, Tryd.func59, by kernel_rfl, rfl⟩
theorem has_60 : Has Tryd.prog 60 := ⟨_, Tryd.func60, by kernel_rfl, rfl⟩
theorem has_61 : Has Tryd.prog 61 := ⟨_, Tryd.func61, by kernel_rfl, rfl⟩
theorem has_62 : Has Tryd.prog 62 := ⟨_, Tryd.func62, by kernel_rfl, rfl⟩
theorem has_63 : Has Tryd.prog 63 := ⟨_, Tryd.func63, by kernel_rfl, rfl⟩
theorem has_64 : Has Tryd.prog 64 := ⟨_, Tryd.func64, by kernel_rfl, rfl⟩
theorem has_65 : Has Tryd.prog 65 := ⟨_, Tryd.func65, by kernel_rfl, rfl⟩
theorem has_66 : Has Tryd.prog 66 := ⟨_, Tryd.func66, by kernel_rfl, rfl⟩
theorem places_103 : places Tryd.prog 103 = some [(0, 255), (255, 1)] := by kernel_rfl
theorem places_107 : places Tryd.prog 107 = some [(0, 256), (256, 1), (257, 1)] := by kernel_rfl
theorem places_111 : places Tryd.prog 111 = some [(0, 256), (256, 1), (257, 1), (258, 1), (259, 1)] := by kernel_rfl
theorem places_139 : places Tryd.prog 139 = some [(0, 1), (1, 1)] := by kernel_rfl
theorem places_37 : places Tryd.prog 37 = some [(0, 1), (1, 1), (2, 1)] := by kernel_rfl
theorem places_89 : places Tryd.prog 89 = some [(0, 1), (1, 1), (2, 6), (8, 1), (9, 1)] := by kernel_rfl
theorem places_94 : places Tryd.prog 94 = some [(0, 1), (1, 1), (2, 1), (3, 1), (4, 1), (5, 1), (6, 1), (7, 1), (8, 1), (9, 1)] := by kernel_rfl
theorem sz_103 : (Tryd.prog.info? 103).map (·.size) = some 256 := by kernel_rfl
theorem sz_107 : (Tryd.prog.info? 107).map (·.size) = some 258 := by kernel_rfl
theorem sz_111 : (Tryd.prog.info? 111).map (·.size) = some 260 := by kernel_rfl
theorem sz_22 : (Tryd.prog.info? 22).map (·.size) = some 1 := by kernel_rfl
theorem sz_24 : (Tryd.prog.info? 24).map (·.size) = some 10 := by kernel_rfl
theorem sz_29 : (Tryd.prog.info? 29).map (·.size) = some 1 := by kernel_rfl
theorem sz_3 : (Tryd.prog.info? 3).map (·.size) = some 1 := by kernel_rfl
theorem sz_33 : (Tryd.prog.info? 33).map (·.size) = some 10 := by kernel_rfl
theorem sz_35 : (Tryd.prog.info? 35).map (·.size) = some 1 := by kernel_rfl
theorem sz_37 : (Tryd.prog.info? 37).map (·.size) = some 3 := by kernel_rfl
theorem sz_41 : (Tryd.prog.info? 41).map (·.size) = some 3 := by kernel_rfl
theorem sz_47 : (Tryd.prog.info? 47).map (·.size) = some 16 := by kernel_rfl
theorem sz_49 : (Tryd.prog.info? 49).map (·.size) = some 20 := by kernel_rfl
theorem sz_5 : (Tryd.prog.info? 5).map (·.size) = some 1 := by kernel_rfl
theorem sz_53 : (Tryd.prog.info? 53).map (·.size) = some 1 := by kernel_rfl
theorem sz_69 : (Tryd.prog.info? 69).map (·.size) = some 3 := by kernel_rfl
theorem sz_74 : (Tryd.prog.info? 74).map (·.size) = some 16 := by kernel_rfl
theorem sz_84 : (Tryd.prog.info? 84).map (·.size) = some 1 := by kernel_rfl
theorem sz_87 : (Tryd.prog.info? 87).map (·.size) = some 1 := by kernel_rfl
theorem sz_89 : (Tryd.prog.info? 89).map (·.size) = some 10 := by kernel_rfl
theorem sz_94 : (Tryd.prog.info? 94).map (·.size) = some 10 := by kernel_rfl
theorem zero_103 : (Tryd.prog.info? 103).bind (·.zero) = some (.agg (List.replicate 256 (Value.int .u8 0)).toArray) := by kernel_rfl
theorem zero_107 : (Tryd.prog.info? 107).bind (·.zero) = some (.agg (List.replicate 256 (Value.int .u8 0) ++ List.replicate 2 (Value.int .u16 0)).toArray) := by kernel_rfl
theorem zero_111 : (Tryd.prog.info? 111).bind (·.zero) = some (.agg (List.replicate 256 (Value.int .u8 0) ++ List.replicate 2 (Value.int .u16 0) ++ List.replicate 1 (Value.int .u32 0) ++ List.replicate 1 (Value.int .u16 0)).toArray) := by kernel_rfl
theorem zero_126 : (Tryd.prog.info? 126).bind (·.zero) = some (.agg #[.int .u8 0, .int .u8 0, .int .u8 0, .int .u8 0, .int .u8 0, .int .u8 0, .int .u8 0, .int .u8 0, .int .u8 0, .int .u8 0, .int .u8 0, .int .u8 0]) := by kernel_rfl
theorem zero_139 : (Tryd.prog.info? 139).bind (·.zero) = some (.agg #[.string ByteArray.empty, .nilIface]) := by kernel_rfl
theorem zero_33 : (Tryd.prog.info? 33).bind (·.zero) = some (.agg #[.int .u16 0, .bool false, .int .u16 0, .bool false, .bool false, .bool false, .bool false, .bool false, .bool false, .int .u16 0]) := by kernel_rfl
theorem zero_37 : (Tryd.prog.info? 37).bind (·.zero) = some (.agg #[.slice none 0 0, .slice none 0 0, .int .i64 0]) := by kernel_rfl
theorem zero_49 : (Tryd.prog.info? 49).bind (·.zero) = some (.agg #[.int .i64 0, .string ByteArray.empty, .int .u16 0, .int .u16 0, .string ByteArray.empty, .int .u16 0, .int .u16 0, .int .u32 0, .int .u16 0, .int .i64 0, .slice none 0 0, .string ByteArray.empty, .string ByteArray.empty, .int .u32 0, .int .u32 0, .int .u32 0, .int .u32 0, .int .u32 0, .slice none 0 0, .slice none 0 0]) := by kernel_rfl
theorem zero_69 : (Tryd.prog.info? 69).bind (·.zero) = some (.agg #[.string ByteArray.empty, .int .u16 0, .int .u16 0]) := by kernel_rfl
theorem zero_74 : (Tryd.prog.info? 74).bind (·.zero) = some (.agg #[.string ByteArray.empty, .int .u16 0, .int .u16 0, .int .u32 0, .int .u16 0, .int .i64 0, .slice none 0 0, .string ByteArray.empty, .string ByteArray.empty, .int .u32 0, .int .u32 0, .int .u32 0, .int .u32 0, .int .u32 0, .slice none 0 0, .slice none 0 0]) := by kernel_rfl
theorem zero_89 : (Tryd.prog.info? 89).bind (·.zero) = some (.agg #[.slice none 0 0, .int .u8 0, .int .u16 0, .int .u16 0, .int .u16 0, .int .u16 0, .int .u16 0, .int .u16 0, .int .i64 0, .map none]) := by kernel_rfl
theorem zero_94 : (Tryd.prog.info? 94).bind (·.zero) = some (.agg #[.int .u16 0, .bool false, .int .u16 0, .bool false, .bool false, .bool false, .bool false, .bool false, .bool false, .int .u16 0]) := by kernel_rfl
end Go.Proofs.YtdiememgbnplkaaDoor
