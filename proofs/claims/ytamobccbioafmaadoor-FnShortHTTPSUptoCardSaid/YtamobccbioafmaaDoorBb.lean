/-
  Closed facts of the program's tables.
-/
import Derived.Test.YtamobccbioafmaaDoorBa
import Derived.Test.YtamobccbioafmaaDoorProg
import Derived.WalkKit
namespace Go.Proofs.YtamobccbioafmaaDoor
open Go
theorem follows_mixed : Tryd.prog.follows .mixedOrders = true := by kernel_rfl
theorem elt_162 : Elt Tryd.prog 162 31 1 24 (.slice none 0 0) := ⟨Tryd.underlying162, by decide, by kernel_rfl, by kernel_rfl, by decide⟩
theorem elt_31 : Elt Tryd.prog 31 5 1 1 (.int .u8 0) := ⟨Tryd.underlying31, by decide, by kernel_rfl, by kernel_rfl, by decide⟩
theorem elt_45 : Elt Tryd.prog 45 3 1 8 (.int .i64 0) := ⟨Tryd.underlying45, by decide, by kernel_rfl, by kernel_rfl, by decide⟩
theorem elt_83 : Elt Tryd.prog 83 38 1 24 (.slice none 0 0) := ⟨Tryd.underlying83, by decide, by kernel_rfl, by kernel_rfl, by decide⟩
theorem fa_110_0 : FieldAt Tryd.prog 110 0 0 := by unfold FieldAt; kernel_rfl
theorem fa_110_1 : FieldAt Tryd.prog 110 1 1 := by unfold FieldAt; kernel_rfl
theorem fa_110_2 : FieldAt Tryd.prog 110 2 2 := by unfold FieldAt; kernel_rfl
theorem fa_110_3 : FieldAt Tryd.prog 110 3 3 := by unfold FieldAt; kernel_rfl
theorem fa_110_4 : FieldAt Tryd.prog 110 4 4 := by unfold FieldAt; kernel_rfl
theorem fa_110_5 : FieldAt Tryd.prog 110 5 5 := by unfold FieldAt; kernel_rfl
theorem fa_113_0 : FieldAt Tryd.prog 113 0 0 := by unfold FieldAt; kernel_rfl
theorem fa_113_1 : FieldAt Tryd.prog 113 1 1 := by unfold FieldAt; kernel_rfl
theorem fa_113_2 : FieldAt Tryd.prog 113 2 2 := by unfold FieldAt; kernel_rfl
theorem fa_113_3 : FieldAt Tryd.prog 113 3 8 := by unfold FieldAt; kernel_rfl
theorem fa_113_4 : FieldAt Tryd.prog 113 4 9 := by unfold FieldAt; kernel_rfl
theorem fa_118_0 : FieldAt Tryd.prog 118 0 0 := by unfold FieldAt; kernel_rfl
theorem fa_118_1 : FieldAt Tryd.prog 118 1 1 := by unfold FieldAt; kernel_rfl
theorem fa_118_2 : FieldAt Tryd.prog 118 2 2 := by unfold FieldAt; kernel_rfl
theorem fa_118_3 : FieldAt Tryd.prog 118 3 3 := by unfold FieldAt; kernel_rfl
theorem fa_118_4 : FieldAt Tryd.prog 118 4 4 := by unfold FieldAt; kernel_rfl
theorem fa_118_5 : FieldAt Tryd.prog 118 5 5 := by unfold FieldAt; kernel_rfl
theorem fa_118_6 : FieldAt Tryd.prog 118 6 6 := by unfold FieldAt; kernel_rfl
theorem fa_118_7 : FieldAt Tryd.prog 118 7 7 := by unfold FieldAt; kernel_rfl
theorem fa_118_8 : FieldAt Tryd.prog 118 8 8 := by unfold FieldAt; kernel_rfl
theorem fa_118_9 : FieldAt Tryd.prog 118 9 9 := by unfold FieldAt; kernel_rfl
theorem fa_124_0 : FieldAt Tryd.prog 124 0 0 := by unfold FieldAt; kernel_rfl
theorem fa_124_1 : FieldAt Tryd.prog 124 1 256 := by unfold FieldAt; kernel_rfl
theorem fa_124_2 : FieldAt Tryd.prog 124 2 257 := by unfold FieldAt; kernel_rfl
theorem fa_24_0 : FieldAt Tryd.prog 24 0 0 := by unfold FieldAt; kernel_rfl
theorem fa_24_1 : FieldAt Tryd.prog 24 1 1 := by unfold FieldAt; kernel_rfl
theorem fa_24_2 : FieldAt Tryd.prog 24 2 2 := by unfold FieldAt; kernel_rfl
theorem fa_24_3 : FieldAt Tryd.prog 24 3 3 := by unfold FieldAt; kernel_rfl
theorem fa_24_4 : FieldAt Tryd.prog 24 4 4 := by unfold FieldAt; kernel_rfl
theorem fa_24_5 : FieldAt Tryd.prog 24 5 5 := by unfold FieldAt; kernel_rfl
theorem fa_24_6 : FieldAt Tryd.prog 24 6 6 := by unfold FieldAt; kernel_rfl
theorem fa_24_7 : FieldAt Tryd.prog 24 7 7 := by unfold FieldAt; kernel_rfl
theorem fa_24_8 : FieldAt Tryd.prog 24 8 8 := by unfold FieldAt; kernel_rfl
theorem fa_24_9 : FieldAt Tryd.prog 24 9 9 := by unfold FieldAt; kernel_rfl
theorem fa_35_0 : FieldAt Tryd.prog 35 0 0 := by unfold FieldAt; kernel_rfl
theorem fa_35_1 : FieldAt Tryd.prog 35 1 1 := by unfold FieldAt; kernel_rfl
theorem fa_35_2 : FieldAt Tryd.prog 35 2 2 := by unfold FieldAt; kernel_rfl
theorem fa_35_3 : FieldAt Tryd.prog 35 3 3 := by unfold FieldAt; kernel_rfl
theorem fa_35_4 : FieldAt Tryd.prog 35 4 4 := by unfold FieldAt; kernel_rfl
theorem fa_36_0 : FieldAt Tryd.prog 36 0 0 := by unfold FieldAt; kernel_rfl
theorem fa_36_1 : FieldAt Tryd.prog 36 1 1 := by unfold FieldAt; kernel_rfl
theorem fa_36_2 : FieldAt Tryd.prog 36 2 2 := by unfold FieldAt; kernel_rfl
theorem fa_36_3 : FieldAt Tryd.prog 36 3 3 := by unfold FieldAt; kernel_rfl
theorem fa_36_4 : FieldAt Tryd.prog 36 4 4 := by unfold FieldAt; kernel_rfl
theorem fa_36_5 : FieldAt Tryd.prog 36 5 5 := by unfold FieldAt; kernel_rfl
theorem fa_36_6 : FieldAt Tryd.prog 36 6 6 := by unfold FieldAt; kernel_rfl
theorem fa_36_7 : FieldAt Tryd.prog 36 7 7 := by unfold FieldAt; kernel_rfl
theorem fa_36_8 : FieldAt Tryd.prog 36 8 8 := by unfold FieldAt; kernel_rfl
theorem fa_36_9 : FieldAt Tryd.prog 36 9 9 := by unfold FieldAt; kernel_rfl
theorem fa_40_0 : FieldAt Tryd.prog 40 0 0 := by unfold FieldAt; kernel_rfl
theorem fa_40_1 : FieldAt Tryd.prog 40 1 10 := by unfold FieldAt; kernel_rfl
theorem fa_40_2 : FieldAt Tryd.prog 40 2 11 := by unfold FieldAt; kernel_rfl
theorem fa_40_3 : FieldAt Tryd.prog 40 3 12 := by unfold FieldAt; kernel_rfl
theorem fa_40_4 : FieldAt Tryd.prog 40 4 13 := by unfold FieldAt; kernel_rfl
theorem fa_47_0 : FieldAt Tryd.prog 47 0 0 := by unfold FieldAt; kernel_rfl
theorem fa_47_1 : FieldAt Tryd.prog 47 1 1 := by unfold FieldAt; kernel_rfl
theorem fa_47_2 : FieldAt Tryd.prog 47 2 2 := by unfold FieldAt; kernel_rfl
theorem fa_63_0 : FieldAt Tryd.prog 63 0 0 := by unfold FieldAt; kernel_rfl
theorem fa_63_1 : FieldAt Tryd.prog 63 1 255 := by unfold FieldAt; kernel_rfl
theorem fa_82_0 : FieldAt Tryd.prog 82 0 0 := by unfold FieldAt; kernel_rfl
theorem fa_82_1 : FieldAt Tryd.prog 82 1 1 := by unfold FieldAt; kernel_rfl
theorem fa_82_2 : FieldAt Tryd.prog 82 2 2 := by unfold FieldAt; kernel_rfl
theorem fa_86_0 : FieldAt Tryd.prog 86 0 0 := by unfold FieldAt; kernel_rfl
theorem fa_91_0 : FieldAt Tryd.prog 91 0 0 := by unfold FieldAt; kernel_rfl
theorem fa_91_1 : FieldAt Tryd.prog 91 1 1 := by unfold FieldAt; kernel_rfl
theorem fa_91_2 : FieldAt Tryd.prog 91 2 2 := by unfold FieldAt; kernel_rfl
theorem fa_93_0 : FieldAt Tryd.prog 93 0 0 := by unfold FieldAt; kernel_rfl
theorem fa_93_1 : FieldAt Tryd.prog 93 1 1 := by unfold FieldAt; kernel_rfl
theorem fa_93_2 : FieldAt Tryd.prog 93 2 4 := by unfold FieldAt; kernel_rfl
theorem has_23 : Has Tryd.prog 23 := ⟨_, Tryd.func23, by kernel_rfl, rfl⟩
theorem has_33 : Has Tryd.prog 33 := ⟨_, Tryd.func33, by kernel_rfl, rfl⟩
theorem has_34 : Has Tryd.prog 34 := ⟨_, Tryd.func34, by kernel_rfl, rfl⟩
theorem has_35 : Has Tryd.prog 35 := ⟨_, Tryd.func35, by kernel_rfl, rfl⟩
theorem has_36 : Has Tryd.prog 36 := ⟨_, Tryd.func36, by kernel_rfl, rfl⟩
theorem has_37 : Has Tryd.prog 37 := ⟨_, Tryd.func37, by kernel_rfl, rfl⟩
theorem has_38 : Has Tryd.prog 38 := ⟨_, Tryd.func38, by kernel_rfl, rfl⟩
theorem has_47 : Has Tryd.prog 47 := ⟨_, Tryd.func47, by kernel_rfl, rfl⟩
theorem has_48 : Has Tryd.prog 48 := ⟨_, Tryd.func48, by kernel_rfl, rfl⟩
theorem has_49 : Has Tryd.prog 49 := ⟨_, Tryd.func49, by kernel_rfl, rfl⟩
theorem has_50 : Has Tryd.prog 50 := ⟨_, Tryd.func50, by kernel_rfl, rfl⟩
theorem has_51 : Has Tryd.prog 51 := ⟨_, Tryd.func51, by kernel_rfl, rfl⟩
theorem has_52 : Has Tryd.prog 52 := ⟨_, Tryd.func52, by kernel_rfl, rfl⟩
theorem has_53 : Has Tryd.prog 53 := ⟨_, Tryd.func53, by kernel_rfl, rfl⟩
theorem has_54 : Has Tryd.prog 54 := ⟨_, Tryd.func54, by kernel_rfl, rfl⟩
theorem has_55 : Has Tryd.prog 55 := ⟨_, Tryd.func55, by kernel_rfl, rfl⟩
theorem has_56 : Has Tryd.prog 56 := ⟨_, Tryd.func56, by kernel_rfl, rfl⟩
theorem has_57 : Has Tryd.prog 57 := ⟨_, Tryd.func57, by kernel_rfl, rfl⟩
theorem has_58 : Has Tryd.prog 58 := ⟨_, Tryd.func58, by kernel_rfl, rfl⟩
theorem has_65 : Has Tryd.prog 65 := ⟨_, Tryd.func65, by kernel_rfl, rfl⟩
theorem has_66 : Has Tryd.prog 66 := ⟨_, Tryd.func66, by kernel_rfl, rfl⟩
theorem has_67 : Has Tryd.prog 67 := ⟨_, Tryd.func67, by kernel_rfl, rfl⟩
theorem has_70 : Has Tryd.prog 70 := ⟨_, Tryd.func70, by kernel_rfl, rfl⟩
theorem has_73 : Has Tryd.prog 73 := ⟨_, Tryd.func73, by kernel_rfl, rfl⟩
theorem has_78 : Has Tryd.prog 78 := ⟨_, Tryd.func78, by kernel_rfl, rfl⟩
theorem has_79 : Has Tryd.prog 79 := ⟨_, Tryd.func79, by kernel_rfl, rfl⟩
theorem has_80 : Has Tryd.prog 80 := ⟨_, Tryd.func80, by kernel_rfl, rfl⟩
theorem has_81 : Has Tryd.prog 81 := ⟨_, Tryd.func81, by kernel_rfl, rfl⟩
theorem has_82 : Has Tryd.prog 82 := ⟨_, Tryd.func82, by kernel_rfl, rfl⟩
theorem has_89 : Has Tryd.prog 89 := ⟨_, Tryd.func89, by kernel_rfl, rfl⟩
theorem has_90 : Has Tryd.prog 90 := ⟨_, Tryd.func90, by kernel_rfl, rfl⟩
theorem has_91 : Has Tryd.prog 91 := ⟨_, Tryd.func91, by kernel_rfl, rfl⟩
theorem has_92 : Has Tryd.prog 92 := ⟨_, Tryd.func92, by kernel_rfl, rfl⟩
theorem places_113 : places Tryd.prog 113 = some [(0, 1), (1, 1), (2, 6), (8, 1), (9, 1)] := by kernel_rfl
theorem places_118 : places Tryd.prog 118 = some [(0, 1), (1, 1), (2, 1), (3, 1), (4, 1), (5, 1), (6, 1), (7, 1), (8, 1), (9, 1)] := by kernel_rfl
theorem places_124 : places Tryd.prog 124 = some [(0, 256), (256, 1), (257, 1)] := by kernel_rfl
theorem places_157 : places Tryd.prog 157 = some [(0, 1), (1, 1)] := by kernel_rfl
theorem places_47 : places Tryd.prog 47 = some [(0, 1), (1, 1), (2, 1)] := by kernel_rfl
theorem places_63 : places Tryd.prog 63 = some [(0, 255), (255, 1)] := by kernel_rfl
theorem places_67 : places Tryd.prog 67 = some [(0, 256), (256, 1), (257, 1), (258, 1), (259, 1)] := by kernel_rfl
theorem sz_108 : (Tryd.prog.info? 108).map (·.size) = some 1 := by kernel_rfl
theorem sz_111 : (Tryd.prog.info? 111).map (·.size) = some 1 := by kernel_rfl
theorem sz_113 : (Tryd.prog.info? 113).map (·.size) = some 10 := by kernel_rfl
theorem sz_118 : (Tryd.prog.info? 118).map (·.size) = some 10 := by kernel_rfl
theorem sz_124 : (Tryd.prog.info? 124).map (·.size) = some 258 := by kernel_rfl
theorem sz_22 : (Tryd.prog.info? 22).map (·.size) = some 1 := by kernel_rfl
theorem sz_24 : (Tryd.prog.info? 24).map (·.size) = some 10 := by kernel_rfl
theorem sz_3 : (Tryd.prog.info? 3).map (·.size) = some 1 := by kernel_rfl
theorem sz_31 : (Tryd.prog.info? 31).map (·.size) = some 1 := by kernel_rfl
theorem sz_35 : (Tryd.prog.info? 35).map (·.size) = some 16 := by kernel_rfl
theorem sz_36 : (Tryd.prog.info? 36).map (·.size) = some 10 := by kernel_rfl
theorem sz_38 : (Tryd.prog.info? 38).map (·.size) = some 1 := by kernel_rfl
theorem sz_45 : (Tryd.prog.info? 45).map (·.size) = some 1 := by kernel_rfl
theorem sz_47 : (Tryd.prog.info? 47).map (·.size) = some 3 := by kernel_rfl
theorem sz_5 : (Tryd.prog.info? 5).map (·.size) = some 1 := by kernel_rfl
theorem sz_63 : (Tryd.prog.info? 63).map (·.size) = some 256 := by kernel_rfl
theorem sz_67 : (Tryd.prog.info? 67).map (·.size) = some 260 := by kernel_rfl
theorem sz_82 : (Tryd.prog.info? 82).map (·.size) = some 3 := by kernel_rfl
theorem sz_86 : (Tryd.prog.info? 86).map (·.size) = some 16 := by kernel_rfl
theorem sz_91 : (Tryd.prog.info? 91).map (·.size) = some 3 := by kernel_rfl
theorem sz_93 : (Tryd.prog.info? 93).map (·.size) = some 20 := by kernel_rfl
theorem zero_113 : (Tryd.prog.info? 113).bind (·.zero) = some (.agg #[.slice none 0 0, .int .u8 0, .int .u16 0, .int .u16 0, .int .u16 0, .int .u16 0, .int .u16 0, .int .u16 0, .int .i64 0, .map none]) := by kernel_rfl
theorem zero_118 : (Tryd.prog.info? 118).bind (·.zero) = some (.agg #[.int .u16 0, .bool false, .int .u16 0, .bool false, .bool false, .bool false, .bool false, .bool false, .bool false, .int .u16 0]) := by kernel_rfl
theorem zero_124 : (Tryd.prog.info? 124).bind (·.zero) = some (.agg (List.replicate 256 (Value.int .u8 0) ++ List.replicate 2 (Value.int .u16 0)).toArray) := by kernel_rfl
theorem zero_148 : (Tryd.prog.info? 148).bind (·.zero) = some (.agg #[.int .u8 0, .int .u8 0, .int .u8 0, .int .u8 0, .int .u8 0, .int .u8 0, .int .u8 0, .int .u8 0, .int .u8 0, .int .u8 0, .int .u8 0, .int .u8 0]) := by kernel_rfl
theorem zero_157 : (Tryd.prog.info? 157).bind (·.zero) = some (.agg #[.string ByteArray.empty, .nilIface]) := by kernel_rfl
theorem zero_36 : (Tryd.prog.info? 36).bind (·.zero) = some (.agg #[.int .u16 0, .bool false, .int .u16 0, .bool false, .bool false, .bool false, .bool false, .bool false, .bool false, .int .u16 0]) := by kernel_rfl
theorem zero_47 : (Tryd.prog.info? 47).bind (·.zero) = some (.agg #[.slice none 0 0, .slice none 0 0, .int .i64 0]) := by kernel_rfl
theorem zero_63 : (Tryd.prog.info? 63).bind (·.zero) = some (.agg (List.replicate 256 (Value.int .u8 0)).toArray) := by kernel_rfl
theorem zero_67 : (Tryd.prog.info? 67).bind (·.zero) = some (.agg (List.replicate 256 (Value.int .u8 0) ++ List.replicate 2 (Value.int .u16 0) ++ List.replicate 1 (Value.int .u32 0) ++ List.replicate 1 (Value.int .u16 0)).toArray) := by kernel_rfl
theorem zero_82 : (Tryd.prog.info? 82).bind (·.zero) = some (.agg #[.string ByteArray.empty, .int .u16 0, .int .u16 0]) := by kernel_rfl
theorem zero_86 : (Tryd.prog.info? 86).bind (·.zero) = some (.agg #[.string ByteArray.empty, .int .u16 0, .int .u16 0, .int .u32 0, .int .u16 0, .int .i64 0, .slice none 0 0, .string ByteArray.empty, .string ByteArray.empty, .int .u32 0, .int .u32 0, .int .u32 0, .int .u32 0, .int .u32 0, .slice none 0 0, .slice none 0 0]) := by kernel_rfl
theorem zero_93 : (Tryd.prog.info? 93).bind (·.zero) = some (.agg #[.int .i64 0, .string ByteArray.empty, .int .u16 0, .int .u16 0, .string ByteArray.empty, .int .u16 0, .int .u16 0, .int .u32 0, .int .u16 0, .int .i64 0, .slice none 0 0, .string ByteArray.empty, .string ByteArray.empty, .int .u32 0, .int .u32 0, .int .u32 0, .int .u32 0, .int .u32 0, .slice none 0 0, .slice none 0 0]) := by kernel_rfl
end Go.Proofs.YtamobccbioafmaaDoor

/-
  Small facts of numbers and lists.
-/
namespace Go.Proofs.YtamobccbioafmaaDoor
open Go
theorem u8_wrap (x : Nat) : IntKind.u8.wrap (x : Int) = ((UInt8.ofNat x).toNat : Int) := by
  simp [IntKind.wrap, IntKind.bits, IntKind.signed]
theorem shr8 (x : Nat) : ((x : Int).fdiv (2 ^ min (8 : Int).toNat IntKind.u16.bits)) = ((x / 256 : Nat) : Int) := by
  simp [IntKind.bits]
  rw [Int.fdiv_eq_ediv_of_nonneg _ (by omega)]
theorem shr16 (x : Nat) : ((x : Int).fdiv (2 ^ min (16 : Int).toNat IntKind.u32.bits)) = ((x / 65536 : Nat) : Int) := by
  simp [IntKind.bits]
  rw [Int.fdiv_eq_ediv_of_nonneg _ (by omega)]
theorem u16_wrap (x : Nat) : IntKind.u16.wrap (x : Int) = ((x % 65536 : Nat) : Int) := by
  simp [IntKind.wrap, IntKind.bits, IntKind.signed]
theorem i64_wrap (x : Nat) (h : x ≤ 9223372036854775807) : IntKind.i64.wrap (x : Int) = (x : Int) := IntWalk.i64_in _ (by omega)
theorem i64_succ (x : Nat) (h : x < 9223372036854775807) : IntKind.i64.wrap ((x : Int) + 1) = ((x + 1 : Nat) : Int) := by
  rw [← i64_wrap (x + 1) (by omega)]
  rfl
theorem take_snoc {α : Type} (l : List α) (k : Nat) (c : α) (h : l[k]? = some c) : l.take (k + 1) = l.take k ++ [c] := by
  rw [List.take_add_one, h]
  rfl
theorem dot_iff (c : UInt8) : (((c.toNat : Int) != 46) = true) ↔ c ≠ 46 := by
  have h1 : ((c.toNat : Int) = 46) ↔ c = 46 := by
    constructor
    · intro h
      have h2 : c.toNat = 46 := by omega
      exact UInt8.toNat_inj.1 h2
    · rintro rfl; rfl
  simp [bne, h1]
theorem dot_iff' (c : UInt8) : (((c.toNat : Int) != 46) = false) ↔ c = 46 := by
  have := dot_iff c
  cases h : ((c.toNat : Int) != 46) with
  | true => simp [h] at this; simp [this]
  | false => simp [h] at this; simp [this]
theorem dotE (c : UInt8) : (((c.toNat : Int) == 46) = true) ↔ c = 46 := by
  have := dot_iff' c
  cases h : ((c.toNat : Int) == 46) with
  | true => simp [bne, h] at this; simp [this]
  | false => simp [bne, h] at this; simp [this]
theorem dotE' (c : UInt8) : (((c.toNat : Int) == 46) = false) ↔ ¬ c = 46 := by
  have := dotE c
  cases h : ((c.toNat : Int) == 46) with
  | true => simp [h] at this; simp [this]
  | false => simp [h] at this; simp [this]
theorem not_not_of {p : Prop} (h : p) : ¬ ¬ p := fun g => g h
theorem str_get (s : ByteArray) (k : Nat) (h : k < s.size) : ∃ c, s.data.toList[k]? = some c := ⟨s.data.toList[k]'(by simpa using h), List.getElem?_eq_getElem _⟩
theorem str_len (s : ByteArray) : s.data.toList.length = s.size := by simp

theorem toList_eq (s : ByteArray) : s.toList = s.data.toList := ByteArray.toList_eq s
end Go.Proofs.YtamobccbioafmaaDoor

/-
  Plain functions on lists of bytes: how numbers and names are written.
-/
namespace Go.Proofs.YtamobccbioafmaaDoor

def be16 (x : Nat) : List UInt8 := [UInt8.ofNat (x / 256), UInt8.ofNat x]
def be32 (x : Nat) : List UInt8 := be16 (x / 65536) ++ be16 (x % 65536)
theorem be16_len (x : Nat) : (be16 x).length = 2 := rfl
theorem be32_len (x : Nat) : (be32 x).length = 4 := rfl

/-- one letter of a name, as Wire takes it: what is written, and the label under way -/
def wstep (st : List UInt8 × List UInt8) (c : UInt8) : List UInt8 × List UInt8 :=
  if c ≠ 46 then (st.1, st.2 ++ [c])
  else if st.2.length > 0 then (st.1 ++ [UInt8.ofNat st.2.length] ++ st.2, []) else (st.1, [])
def wst (s : List UInt8) : List UInt8 × List UInt8 := s.foldl wstep ([], [])
def wire (s : List UInt8) : List UInt8 := (wst s).1 ++ [0]

theorem wst_snoc (s : List UInt8) (c : UInt8) : wst (s ++ [c]) = wstep (wst s) c := by simp [wst]
theorem wst_len : ∀ (s : List UInt8) (st : List UInt8 × List UInt8), (s.foldl wstep st).1.length + (s.foldl wstep st).2.length ≤ st.1.length + st.2.length + 2 * s.length
  | [], st => by simp
  | c :: r, st => by
    have := wst_len r (wstep st c)
    have h2 : (wstep st c).1.length + (wstep st c).2.length ≤ st.1.length + st.2.length + 2 := by
      unfold wstep
      split
      · simp; omega
      · split
        · simp; omega
        · simp; omega
    simp only [List.foldl_cons, List.length_cons]
    omega
theorem wst_le (s : List UInt8) : (wst s).1.length + (wst s).2.length ≤ 2 * s.length := by
  have := wst_len s ([], [])
  simpa [wst] using this

/-- NameOk, letter by letter: the length of the label under way; none: a label is empty or too long -/
def nokStep (st : Option Nat) (c : UInt8) : Option Nat :=
  match st with
  | none => none
  | some n => if c ≠ 46 then some (n + 1) else if n = 0 ∨ n > 63 then none else some 0
def nok (s : List UInt8) : Option Nat := s.foldl nokStep (some 0)
def nameOk (s : List UInt8) : Bool := s == [46] || (nok s == some 0 && decide (1 < s.length) && decide (s.length ≤ 254))
theorem nok_snoc (s : List UInt8) (c : UInt8) : nok (s ++ [c]) = nokStep (nok s) c := by simp [nok]
theorem nok_none (s t : List UInt8) (h : nok s = none) : nok (s ++ t) = none := by
  unfold nok at *
  rw [List.foldl_append, h]
  induction t with
  | nil => rfl
  | cons c t ih => simpa [nokStep] using ih
theorem nok_le (s : List UInt8) : ∀ n, nok s = some n → n ≤ s.length := by
  have key : ∀ (s : List UInt8) (st : Option Nat) (k : Nat), (∀ n, st = some n → n ≤ k) → ∀ n, s.foldl nokStep st = some n → n ≤ k + s.length := by
    intro s
    induction s with
    | nil => intro st k h n hn; simpa using h n hn
    | cons c r ih =>
      intro st k h n hn
      have := ih (nokStep st c) (k + 1) (fun n hn => by
        unfold nokStep at hn
        split at hn
        · cases hn
        · have := h _ rfl
          split at hn
          · simp at hn; omega
          · split at hn
            · cases hn
            · simp at hn; omega) n hn
      simp only [List.length_cons]
      omega
  intro n hn
  have := key s (some 0) 0 (fun n h => by simp at h; omega) n hn
  omega

/-- LongLabel, letter by letter -/
def llStep (st : Nat × Bool) (c : UInt8) : Nat × Bool := ((if c = 46 then 0 else st.1 + 1), st.2 || decide ((if c = 46 then 0 else st.1 + 1) > 63))
def ll (s : List UInt8) : Nat × Bool := s.foldl llStep (0, false)
def longLabel (s : List UInt8) : Bool := (ll s).2 && ((ll s).1 == 0) && decide (s.length ≤ 254)
theorem ll_snoc (s : List UInt8) (c : UInt8) : ll (s ++ [c]) = llStep (ll s) c := by simp [ll]
theorem ll_le (s : List UInt8) : (ll s).1 ≤ s.length := by
  have key : ∀ (s : List UInt8) (st : Nat × Bool), (s.foldl llStep st).1 ≤ st.1 + s.length := by
    intro s
    induction s with
    | nil => intro st; simp
    | cons c r ih =>
      intro st
      have := ih (llStep st c)
      have h2 : (llStep st c).1 ≤ st.1 + 1 := by
        unfold llStep
        by_cases h : c = 46 <;> simp [h]
      simp only [List.foldl_cons, List.length_cons]
      omega
  simpa [ll] using key s (0, false)

/-- Lower -/
def lower (s : List UInt8) : Bool := s.all fun c => !(decide (65 ≤ c) && decide (c ≤ 90))

/-- a header -/
structure Hd where
  id : Nat
  qr : Bool
  op : Nat
  aa : Bool
  tc : Bool
  rd : Bool
  ra : Bool
  ad : Bool
  cd : Bool
  code : Nat
def Hd.wf (h : Hd) : Prop := h.id < 65536 ∧ h.op < 65536 ∧ h.code < 65536
def Hd.ok (h : Hd) : Bool := decide (h.op < 16) && decide (h.code < 16)
def flagN (b : Bool) (x : Nat) : Nat := if b then x else 0
def Hd.bits (h : Hd) : Nat := (flagN h.qr 32768 ||| h.op * 2048 % 65536 ||| flagN h.aa 1024 ||| flagN h.tc 512 ||| flagN h.rd 256) ||| (flagN h.ra 128 ||| flagN h.ad 32 ||| flagN h.cd 16 ||| h.code)
theorem flagN_lt (b : Bool) (x : Nat) (h : x < 65536) : flagN b x < 65536 := by unfold flagN; split <;> omega
theorem or_lt (x y : Nat) (hx : x < 65536) (hy : y < 65536) : x ||| y < 65536 := Nat.or_lt_two_pow (n := 16) hx hy
def headWire (h : Hd) (ns : List Nat) : List UInt8 := be16 h.id ++ be16 h.bits ++ (ns.map fun n => be16 (n % 65536)).flatten

/-! ### Name.pack -/
/-- what packing a name gives: the bytes and the table behind it; or a refusal, with the table behind it -/
inductive PkRes where
  | ok (ys : List UInt8) (m : List (List UInt8 × Nat))
  | err (m : List (List UInt8 × Nat))
def ptrB (p : Nat) : List UInt8 := [UInt8.ofNat (p / 256 ||| 192), UInt8.ofNat p]
/-- letter by letter: lab: the label under way; ys: what is written; on: is there a table; m: the table; base: where the name begins -/
def pk (base : Nat) (on : Bool) : List UInt8 → List UInt8 → List UInt8 → List (List UInt8 × Nat) → PkRes
  | [], _, ys, m => .ok (ys ++ [0]) m
  | c :: r, lab, ys, m =>
    if c = 46 then
      if lab.length ≥ 64 then .err m
      else if lab.length = 0 then .err m
      else pk base on r [] (ys ++ [UInt8.ofNat lab.length] ++ lab) m
    else if lab = [] ∧ on = true then
      match m.lookup (c :: r) with
      | some p => .ok (ys ++ ptrB p) m
      | none => if base + ys.length ≤ 16383 then pk base on r (lab ++ [c]) ys (m ++ [(c :: r, base + ys.length)]) else pk base on r (lab ++ [c]) ys m
    else pk base on r (lab ++ [c]) ys m
/-- a name as a whole -/
def packN (base : Nat) (on : Bool) (s : List UInt8) (m : List (List UInt8 × Nat)) : PkRes :=
  if s = [46] then .ok [0] m else pk base on s [] [] m
end Go.Proofs.YtamobccbioafmaaDoor

/-
  Contracts of the reference's small functions: Two, Four, Joined, Wire.
-/
namespace Go.Proofs.YtamobccbioafmaaDoor
open Go
set_option maxRecDepth 100000

theorem two_spec (x : Nat) : Spec Tryd.prog 67 [.int .u16 x] [] (fun _ => True) (RetB 5 (be16 x)) := by
  refine Spec.of Tryd.func67 rfl Tryd.ntmps67 rfl fun w0 _ => ?_
  refine CodeJ.seq ?_
  refine CodeJ.region ?_
  refine OpsJ.yld rfl rfl rfl (Yld.assign rfl rfl) ?_
  refine OpsJ.nil ?_
  refine ExJ.thenN ?_
  refine CodeJ.seq ?_
  refine CodeJ.region ?_
  refine OpsJ.yld rfl rfl rfl (Yld.move rfl rfl) ?_
  refine OpsJ.yld rfl rfl rfl (Yld.shr rfl rfl rfl (by decide)) ?_
  refine OpsJ.yld rfl rfl rfl (Yld.convInt rfl Tryd.underlying22 Tryd.underlying5 rfl) ?_
  refine OpsJ.yld rfl rfl rfl (Yld.move rfl rfl) ?_
  refine OpsJ.yld rfl rfl rfl (Yld.convInt rfl Tryd.underlying22 Tryd.underlying5 rfl) ?_
  rw [shr8, u8_wrap, u8_wrap]
  refine OpsJ.op rfl ?_
  refine OpJ.buildSlice (xs := [.tmp 5, .tmp 7]) elt_31 rfl rfl rfl rfl rfl rfl (by rfl) (by decide) fun s8 hs8 => ?_
  refine OpsJ.yld rfl rfl rfl (Yld.assign rfl rfl) ?_
  refine OpsJ.nil ?_
  refine ExJ.thenN ?_
  refine CodeJ.ret ?_
  exact ExJ.retB Tryd.results67 rfl fun w hI => hI

theorem packUint16_spec (x : Nat) (v v' : Value) (bs bs' : List UInt8) (hl : bs'.length + 2 ≤ 175921860444160) :
    Spec Tryd.prog 92 [v', .int .u16 x] [appB 5 v bs v' bs'] (fun _ => True) (RetA 5 v bs (bs' ++ be16 x)) := by
  refine Spec.of Tryd.func92 rfl Tryd.ntmps92 rfl fun w0 _ => ?_
  refine CodeJ.seq ?_
  refine CodeJ.region ?_
  refine OpsJ.yld rfl rfl rfl (Yld.assign rfl rfl) ?_
  refine OpsJ.nil ?_
  refine ExJ.thenN ?_
  refine CodeJ.seq ?_
  refine CodeJ.region ?_
  refine OpsJ.yld rfl rfl rfl (Yld.move rfl rfl) ?_
  refine OpsJ.yld rfl rfl rfl (Yld.move rfl rfl) ?_
  refine OpsJ.yld rfl rfl rfl (Yld.shr rfl rfl rfl (by decide)) ?_
  refine OpsJ.yld rfl rfl rfl (Yld.convInt rfl Tryd.underlying22 Tryd.underlying5 rfl) ?_
  refine OpsJ.yld rfl rfl rfl (Yld.move rfl rfl) ?_
  refine OpsJ.yld rfl rfl rfl (Yld.convInt rfl Tryd.underlying22 Tryd.underlying5 rfl) ?_
  rw [shr8, u8_wrap, u8_wrap]
  refine OpsJ.op rfl ?_
  refine OpJ.buildSlice (xs := [.tmp 8, .tmp 10]) elt_31 rfl rfl rfl rfl rfl rfl (by rfl) (by decide) fun s11 hs11 => ?_
  refine OpsJ.op rfl ?_
  refine OpJ.appendB (i := 1) (news := be16 x) elt_31 rfl rfl rfl rfl rfl rfl (fun w hI => Bytes.src (Inv.bytes (k := 0) rfl w hI) Tryd.underlying31) hl fun p12 c12 => ?_
  refine OpsJ.yld rfl rfl rfl (Yld.assign rfl rfl) ?_
  refine OpsJ.nil ?_
  refine ExJ.thenN ?_
  refine CodeJ.ret ?_
  exact ExJ.ret1 Tryd.results92 rfl ⟨_, _, rfl, rfl⟩ fun w hI => hI.pick (is := [1]) (by decide) rfl
theorem joined_spec (v : Value) (pss : List (List UInt8)) (hl : pss.flatten.length ≤ 175921860444160) (hn : pss.length < 9223372036854775807) :
    Spec Tryd.prog 66 [v] [] (fun w => Parts w v pss) (RetB 5 pss.flatten) := by
  refine Spec.of Tryd.func66 rfl Tryd.ntmps66 rfl fun w0 hp => ?_
  obtain ⟨b, c, vs, rfl, hvl, hc, ho⟩ := hp
  refine CodeJ.seq ?_
  refine CodeJ.region ?_
  refine OpsJ.yld rfl rfl rfl (Yld.assign rfl rfl) ?_
  refine OpsJ.nil ?_
  refine ExJ.thenN ?_
  refine CodeJ.seq ?_
  refine CodeJ.region ?_
  refine OpsJ.op rfl ?_
  refine OpJ.buildSlice (xs := []) elt_31 rfl rfl rfl rfl rfl rfl (by rfl) (by decide) fun out hout => ?_
  refine OpsJ.yld rfl rfl rfl (Yld.assign rfl rfl) ?_
  refine OpsJ.nil ?_
  refine ExJ.thenN ?_
  refine CodeJ.seq ?_
  refine CodeJ.seq ?_
  refine CodeJ.region ?_
  refine OpsJ.yld rfl rfl rfl (Yld.move rfl rfl) ?_
  refine OpsJ.yld rfl rfl rfl (Yld.lenSlice rfl rfl rfl Tryd.underlying162 rfl) ?_
  refine OpsJ.yld rfl rfl rfl (Yld.move rfl rfl) ?_
  refine OpsJ.nil ?_
  refine ExJ.thenN ?_
  refine CodeJ.block ?_
  refine CodeJ.loopP (fun L H m => ∃ (k : Nat) (p : Option Addr) (q : Nat), k ≤ vs.length ∧ L = [(3, .slice p (pss.take k).flatten.length q), (7, .slice (some ⟨b, 0, none⟩) vs.length c), (8, .int .i64 vs.length), (9, .int .i64 k)] ∧ H = [ownB 5 (.slice p (pss.take k).flatten.length q) (pss.take k).flatten] ∧ m = vs.length - k) ⟨0, _, _, Nat.zero_le _, rfl, rfl, rfl⟩ ⟨rfl, rfl, rfl, rfl, trivial⟩ (fun w hI => hI) ?_
  rintro _ _ _ ⟨k, p, q, hk, rfl, rfl, rfl⟩
  refine CodeJ.seq ?_
  refine CodeJ.region ?_
  refine OpsJ.yld rfl rfl rfl (Yld.intBin rfl rfl rfl rfl) ?_
  refine OpsJ.nil ?_
  refine ExJ.thenN ?_
  refine CodeJ.seq ?_
  refine CodeJ.condP rfl (fun c10 => ?_) (fun c10 => ?_)
  · have hk' : k < vs.length := by omega
    have hk2 : k < pss.length := by omega
    obtain ⟨ps, hps⟩ : ∃ ps, pss[k]? = some ps := ⟨pss[k], List.getElem?_eq_getElem hk2⟩
    obtain ⟨u, hpv⟩ : ∃ u, vs[k]? = some u := ⟨vs[k], List.getElem?_eq_getElem hk'⟩
    have hown := ho k u ps hpv hps
    have hpt : (pss.take (k + 1)).flatten = (pss.take k).flatten ++ ps := by
      rw [List.take_add_one, hps]
      simp
    have hroom : (pss.take k).flatten.length + ps.length ≤ 175921860444160 := by
      have h1 : (pss.take (k + 1)).flatten.length ≤ pss.flatten.length := by
        conv => rhs; rw [← List.take_append_drop (k + 1) pss, List.flatten_append, List.length_append]
        omega
      rw [hpt, List.length_append] at h1
      omega
    refine CodeJ.skip ?_
    refine ExJ.thenN ?_
    refine CodeJ.seq ?_
    refine CodeJ.block ?_
    refine CodeJ.seq ?_
    refine CodeJ.region ?_
    refine OpsJ.yld rfl rfl rfl (Yld.indexAddr rfl Tryd.underlying162 sz_31 rfl rfl hk') ?_
    refine OpsJ.yld rfl rfl rfl (Yld.load1 (v := u) rfl Tryd.underlying31 rfl rfl (fun w hI => hI.old (hc.one hpv) (by simp [fp]))) ?_
    refine OpsJ.yld rfl rfl rfl (Yld.assign rfl rfl) ?_
    refine OpsJ.nil ?_
    refine ExJ.thenN ?_
    refine CodeJ.region ?_
    refine OpsJ.yld rfl rfl rfl (Yld.move rfl rfl) ?_
    refine OpsJ.yld rfl rfl rfl (Yld.move rfl rfl) ?_
    refine OpsJ.op rfl ?_
    refine OpJ.appendO (i := 0) (news := ps) elt_31 rfl rfl rfl rfl rfl rfl (fun w hI => Bytes.src (hown.keep hI.keep (by simp [fp])) Tryd.underlying31) hroom fun p15 c15 => ?_
    refine OpsJ.yld rfl rfl rfl (Yld.assign rfl rfl) ?_
    refine OpsJ.nil ?_
    refine ExJ.blockN ?_
    refine ExJ.thenN ?_
    refine CodeJ.region ?_
    refine OpsJ.yld rfl rfl rfl (Yld.intBin rfl rfl rfl rfl) ?_
    rw [i64_succ k (by omega)]
    refine OpsJ.yld rfl rfl rfl (Yld.move rfl rfl) ?_
    refine OpsJ.nil ?_
    exact ExJ.againP ⟨k + 1, p15, c15, by omega, rfl, rfl, rfl⟩ (by omega) ⟨by rw [hpt]; rfl, rfl, rfl, rfl, trivial⟩ fun w hI => by rw [hpt]; exact hI
  · obtain rfl : k = vs.length := by omega
    have ht : pss.take vs.length = pss := List.take_of_length_le (by omega)
    rw [ht]
    refine CodeJ.exit ?_
    refine ExJ.thenX ?_
    refine ExJ.thenX ?_
    refine ExJ.blockHit ?_
    refine ExJ.thenN ?_
    refine CodeJ.seq ?_
    refine CodeJ.region ?_
    refine OpsJ.yld rfl rfl rfl (Yld.move rfl rfl) ?_
    refine OpsJ.yld rfl rfl rfl (Yld.assign rfl rfl) ?_
    refine OpsJ.nil ?_
    refine ExJ.thenN ?_
    refine CodeJ.ret ?_
    exact ExJ.retB Tryd.results66 rfl fun w hI => hI
end Go.Proofs.YtamobccbioafmaaDoor

/-
  Contracts of the reference's functions on names and headers.
-/
namespace Go.Proofs.YtamobccbioafmaaDoor
open Go
set_option maxRecDepth 100000

theorem four_spec (x : Nat) : Spec Tryd.prog 68 [.int .u32 x] [] (fun _ => True) (RetB 5 (be16 (x / 65536 % 65536) ++ be16 (x % 65536))) := by
  refine Spec.of Tryd.func68 rfl Tryd.ntmps68 rfl fun w0 _ => ?_
  refine CodeJ.seq ?_
  refine CodeJ.region ?_
  refine OpsJ.yld rfl rfl rfl (Yld.assign rfl rfl) ?_
  refine OpsJ.nil ?_
  refine ExJ.thenN ?_
  refine CodeJ.seq ?_
  refine CodeJ.region ?_
  refine OpsJ.yld rfl rfl rfl (Yld.move rfl rfl) ?_
  refine OpsJ.yld rfl rfl rfl (Yld.shr rfl rfl rfl (by decide)) ?_
  refine OpsJ.yld rfl rfl rfl (Yld.convInt rfl Tryd.underlying30 Tryd.underlying22 rfl) ?_
  rw [shr16, u16_wrap]
  refine OpsJ.op rfl ?_
  refine OpJ.call (two_spec _) has_67 rfl rfl rfl rfl rfl [] [] (by decide) rfl rfl (fun _ _ => trivial) ?_
  rintro _ _ ⟨p6, c6, rfl, rfl⟩
  refine OpsJ.yld rfl rfl rfl (Yld.move rfl rfl) ?_
  refine OpsJ.yld rfl rfl rfl (Yld.convInt rfl Tryd.underlying30 Tryd.underlying22 rfl) ?_
  rw [u16_wrap]
  refine OpsJ.op rfl ?_
  refine OpJ.call (two_spec _) has_67 rfl rfl rfl rfl rfl [] [0] (by decide) rfl rfl (fun _ _ => trivial) ?_
  rintro _ _ ⟨p9, c9, rfl, rfl⟩
  refine OpsJ.op rfl ?_
  refine OpJ.buildSlice (xs := [.tmp 6, .tmp 9]) elt_162 rfl rfl rfl rfl rfl rfl (by rfl) (by decide) fun parts hparts => ?_
  refine OpsJ.op rfl ?_
  refine OpJ.call (joined_spec _ [be16 (x / 65536 % 65536), be16 (x % 65536)] (by simp [be16_len]) (by simp)) has_66 rfl rfl rfl rfl rfl [] [0, 1, 2] (by decide) rfl rfl (Inv.parts (i := 0) rfl rfl ⟨Inv.bytes (k := 2) rfl, Inv.bytes (k := 1) rfl, trivial⟩) ?_
  rintro _ _ ⟨p11, c11, rfl, rfl⟩
  refine OpsJ.yld rfl rfl rfl (Yld.assign rfl rfl) ?_
  refine OpsJ.nil ?_
  refine ExJ.thenN ?_
  refine CodeJ.ret ?_
  exact ExJ.retB Tryd.results68 rfl fun w hI => hI.pick (is := [0]) (by decide) rfl

theorem wire_spec (s : ByteArray) (hs : s.size ≤ 17592186044416) : Spec Tryd.prog 65 [.string s] [] (fun _ => True) (RetB 5 (wire s.data.toList)) := by
  refine Spec.of Tryd.func65 rfl Tryd.ntmps65 rfl fun w0 _ => ?_
  refine CodeJ.seq ?_
  refine CodeJ.region ?_
  refine OpsJ.yld rfl rfl rfl (Yld.assign rfl rfl) ?_
  refine OpsJ.nil ?_
  refine ExJ.thenN ?_
  refine CodeJ.seq ?_
  refine CodeJ.region ?_
  refine OpsJ.op rfl ?_
  refine OpJ.buildSlice (xs := []) elt_31 rfl rfl rfl rfl rfl rfl (by rfl) (by decide) fun out hout => ?_
  refine OpsJ.yld rfl rfl rfl (Yld.assign rfl rfl) ?_
  refine OpsJ.nil ?_
  refine ExJ.thenN ?_
  refine CodeJ.seq ?_
  refine CodeJ.region ?_
  refine OpsJ.op rfl ?_
  refine OpJ.buildSlice (xs := []) elt_31 rfl rfl rfl rfl rfl rfl (by rfl) (by decide) fun label hlabel => ?_
  refine OpsJ.yld rfl rfl rfl (Yld.assign rfl rfl) ?_
  refine OpsJ.nil ?_
  refine ExJ.thenN ?_
  refine CodeJ.seq ?_
  refine CodeJ.seq ?_
  refine CodeJ.region ?_
  refine OpsJ.yld rfl rfl rfl (Yld.move rfl rfl) ?_
  refine OpsJ.yld rfl rfl rfl (Yld.lenString rfl rfl rfl Tryd.underlying9 rfl) ?_
  refine OpsJ.yld rfl rfl rfl (Yld.move rfl rfl) ?_
  refine OpsJ.nil ?_
  refine ExJ.thenN ?_
  refine CodeJ.block ?_
  refine CodeJ.loopP (fun L H m => ∃ (k : Nat) (o l : List UInt8) (p p' : Option Addr) (q q' : Nat), k ≤ s.size ∧ wst (s.data.toList.take k) = (o, l) ∧ L = [(0, .string s), (3, .slice p o.length q), (4, .slice p' l.length q'), (9, .int .i64 s.size), (10, .int .i64 k)] ∧ H = [ownB 5 (.slice p o.length q) o, ownB 5 (.slice p' l.length q') l] ∧ m = s.size - k) ⟨0, [], [], _, _, _, _, Nat.zero_le _, rfl, rfl, rfl, rfl⟩ ⟨rfl, rfl, rfl, rfl, rfl, trivial⟩ (fun w hI => hI.pick (is := [1, 0]) (by decide) rfl) ?_
  rintro _ _ _ ⟨k, o, l, p, p', q, q', hk, hst, rfl, rfl, rfl⟩
  refine CodeJ.seq ?_
  refine CodeJ.region ?_
  refine OpsJ.yld rfl rfl rfl (Yld.intBin rfl rfl rfl rfl) ?_
  refine OpsJ.nil ?_
  refine ExJ.thenN ?_
  refine CodeJ.seq ?_
  refine CodeJ.condP rfl (fun c11 => ?_) (fun c11 => ?_)
  · have hk' : k < s.size := by omega
    obtain ⟨c, hc⟩ := str_get s k hk'
    have hnx : wst (s.data.toList.take (k + 1)) = wstep (o, l) c := by rw [take_snoc _ _ _ hc, wst_snoc, hst]
    have hle := wst_le (s.data.toList.take k)
    rw [hst] at hle
    simp only [List.length_take, str_len] at hle
    refine CodeJ.skip ?_
    refine ExJ.thenN ?_
    refine CodeJ.seq ?_
    refine CodeJ.block ?_
    refine CodeJ.seq ?_
    refine CodeJ.region ?_
    refine OpsJ.yld rfl rfl rfl (Yld.move rfl rfl) ?_
    refine OpsJ.yld rfl rfl rfl (Yld.assign rfl rfl) ?_
    refine OpsJ.nil ?_
    refine ExJ.thenN ?_
    refine CodeJ.seq ?_
    refine CodeJ.seq ?_
    refine CodeJ.region ?_
    refine OpsJ.yld rfl rfl rfl (Yld.move rfl rfl) ?_
    refine OpsJ.yld rfl rfl rfl (Yld.move rfl rfl) ?_
    refine OpsJ.yld rfl rfl rfl (Yld.index rfl Tryd.underlying9 rfl rfl hc) ?_
    refine OpsJ.yld rfl rfl rfl (Yld.intBin rfl rfl rfl rfl) ?_
    refine OpsJ.nil ?_
    refine ExJ.thenN ?_
    refine CodeJ.cond rfl (fun c16 => ?_) (fun c16 => ?_)
    · have hdot : c ≠ 46 := (dot_iff c).1 c16
      refine CodeJ.seq ?_
      refine CodeJ.region ?_
      refine OpsJ.yld rfl rfl rfl (Yld.move rfl rfl) ?_
      refine OpsJ.yld rfl rfl rfl (Yld.move rfl rfl) ?_
      refine OpsJ.yld rfl rfl rfl (Yld.move rfl rfl) ?_
      refine OpsJ.yld rfl rfl rfl (Yld.index rfl Tryd.underlying9 rfl rfl hc) ?_
      refine OpsJ.op rfl ?_
      refine OpJ.buildSlice (xs := [.tmp 20]) elt_31 rfl rfl rfl rfl rfl rfl (by rfl) (by decide) fun one hone => ?_
      refine OpsJ.op rfl ?_
      refine OpJ.appendO (i := 2) (news := [c]) elt_31 rfl rfl rfl rfl rfl rfl (fun w hI => Bytes.src (Inv.bytes (k := 0) rfl w hI) Tryd.underlying31) (by simp; omega) fun p22 c22 => ?_
      refine OpsJ.yld rfl rfl rfl (Yld.assign rfl rfl) ?_
      refine OpsJ.nil ?_
      refine ExJ.thenN ?_
      refine CodeJ.exit ?_
      refine ExJ.thenX ?_
      refine ExJ.blockHit ?_
      refine ExJ.thenN ?_
      refine CodeJ.region ?_
      refine OpsJ.yld rfl rfl rfl (Yld.intBin rfl rfl rfl rfl) ?_
      rw [i64_succ k (by omega)]
      refine OpsJ.yld rfl rfl rfl (Yld.move rfl rfl) ?_
      refine OpsJ.nil ?_
      exact ExJ.againP ⟨k + 1, o, l ++ [c], p, p22, q, c22, by omega, by rw [hnx, wstep, if_pos hdot], rfl, rfl, rfl⟩ (by omega) ⟨rfl, rfl, rfl, rfl, rfl, trivial⟩ fun w hI => hI.pick (is := [1, 2]) (by decide) rfl
    · have hdot : c = 46 := (dot_iff' c).1 c16
      refine CodeJ.skip ?_
      refine ExJ.thenN ?_
      refine CodeJ.seq ?_
      refine CodeJ.seq ?_
      refine CodeJ.region ?_
      refine OpsJ.yld rfl rfl rfl (Yld.move rfl rfl) ?_
      refine OpsJ.yld rfl rfl rfl (Yld.lenSlice rfl rfl rfl Tryd.underlying31 rfl) ?_
      refine OpsJ.yld rfl rfl rfl (Yld.intBin rfl rfl rfl rfl) ?_
      refine OpsJ.nil ?_
      refine ExJ.thenN ?_
      refine CodeJ.condP rfl (fun c25 => ?_) (fun c25 => ?_)
      · have hlen : l.length > 0 := by omega
        refine CodeJ.region ?_
        refine OpsJ.yld rfl rfl rfl (Yld.move rfl rfl) ?_
        refine OpsJ.yld rfl rfl rfl (Yld.move rfl rfl) ?_
        refine OpsJ.yld rfl rfl rfl (Yld.lenSlice rfl rfl rfl Tryd.underlying31 rfl) ?_
        refine OpsJ.yld rfl rfl rfl (Yld.convInt rfl Tryd.underlying3 Tryd.underlying5 rfl) ?_
        rw [u8_wrap]
        refine OpsJ.op rfl ?_
        refine OpJ.buildSlice (xs := [.tmp 29]) elt_31 rfl rfl rfl rfl rfl rfl (by rfl) (by decide) fun one hone => ?_
        refine OpsJ.op rfl ?_
        refine OpJ.appendO (i := 1) (news := [UInt8.ofNat l.length]) elt_31 rfl rfl rfl rfl rfl rfl (fun w hI => Bytes.src (Inv.bytes (k := 0) rfl w hI) Tryd.underlying31) (by simp; omega) fun p31 c31 => ?_
        refine OpsJ.yld rfl rfl rfl (Yld.move rfl rfl) ?_
        refine OpsJ.op rfl ?_
        refine OpJ.appendO (i := 1) elt_31 rfl rfl rfl rfl rfl rfl (fun w hI => Bytes.src (Inv.bytes (k := 2) rfl w hI) Tryd.underlying31) (by simp; omega) fun p33 c33 => ?_
        refine OpsJ.yld rfl rfl rfl (Yld.assign rfl rfl) ?_
        refine OpsJ.nil ?_
        refine ExJ.thenN ?_
        refine CodeJ.region ?_
        refine OpsJ.op rfl ?_
        refine OpJ.buildSlice (xs := []) elt_31 rfl rfl rfl rfl rfl rfl (by rfl) (by decide) fun lab2 hlab2 => ?_
        refine OpsJ.yld rfl rfl rfl (Yld.assign rfl rfl) ?_
        refine OpsJ.nil ?_
        refine ExJ.blockN ?_
        refine ExJ.thenN ?_
        refine CodeJ.region ?_
        refine OpsJ.yld rfl rfl rfl (Yld.intBin rfl rfl rfl rfl) ?_
        rw [i64_succ k (by omega)]
        refine OpsJ.yld rfl rfl rfl (Yld.move rfl rfl) ?_
        refine OpsJ.nil ?_
        exact ExJ.againP ⟨k + 1, o ++ [UInt8.ofNat l.length] ++ l, [], p33, _, c33, _, by omega, by rw [hnx, wstep, if_neg (not_not_of hdot), if_pos hlen], rfl, rfl, rfl⟩ (by omega) ⟨rfl, rfl, rfl, rfl, rfl, trivial⟩ fun w hI => hI.pick (is := [2, 0]) (by decide) rfl
      · have hlen : ¬ l.length > 0 := by omega
        refine CodeJ.skip ?_
        refine ExJ.thenN ?_
        refine CodeJ.region ?_
        refine OpsJ.op rfl ?_
        refine OpJ.buildSlice (xs := []) elt_31 rfl rfl rfl rfl rfl rfl (by rfl) (by decide) fun lab2 hlab2 => ?_
        refine OpsJ.yld rfl rfl rfl (Yld.assign rfl rfl) ?_
        refine OpsJ.nil ?_
        refine ExJ.blockN ?_
        refine ExJ.thenN ?_
        refine CodeJ.region ?_
        refine OpsJ.yld rfl rfl rfl (Yld.intBin rfl rfl rfl rfl) ?_
        rw [i64_succ k (by omega)]
        refine OpsJ.yld rfl rfl rfl (Yld.move rfl rfl) ?_
        refine OpsJ.nil ?_
        exact ExJ.againP ⟨k + 1, o, [], p, _, q, _, by omega, by rw [hnx, wstep, if_neg (not_not_of hdot), if_neg hlen], rfl, rfl, rfl⟩ (by omega) ⟨rfl, rfl, rfl, rfl, rfl, trivial⟩ fun w hI => hI.pick (is := [1, 0]) (by decide) rfl
  · obtain rfl : k = s.size := by omega
    have hw : wire s.data.toList = o ++ [0] := by
      have ht : s.data.toList.take s.size = s.data.toList := List.take_of_length_le (by simp)
      rw [wire, ← ht, hst]
    have hle := wst_le (s.data.toList.take s.size)
    rw [hst] at hle
    simp only [List.length_take, str_len] at hle
    refine CodeJ.exit ?_
    refine ExJ.thenX ?_
    refine ExJ.thenX ?_
    refine ExJ.blockHit ?_
    refine ExJ.thenN ?_
    refine CodeJ.seq ?_
    refine CodeJ.region ?_
    refine OpsJ.yld rfl rfl rfl (Yld.move rfl rfl) ?_
    refine OpsJ.op rfl ?_
    refine OpJ.buildSlice (xs := [.const (Go.Value.int Go.IntKind.u8 0)]) elt_31 rfl rfl rfl rfl rfl rfl (by rfl) (by decide) fun zer hzer => ?_
    refine OpsJ.op rfl ?_
    refine OpJ.appendO (i := 1) (news := [0]) elt_31 rfl rfl rfl rfl rfl rfl (fun w hI => Bytes.src (Inv.bytes (k := 0) rfl w hI) Tryd.underlying31) (by simp; omega) fun p38 c38 => ?_
    refine OpsJ.yld rfl rfl rfl (Yld.assign rfl rfl) ?_
    refine OpsJ.nil ?_
    refine ExJ.thenN ?_
    refine CodeJ.ret ?_
    rw [hw]
    exact ExJ.retB Tryd.results65 rfl fun w hI => hI.pick (is := [1]) (by decide) rfl

theorem flag_spec (b : Bool) (x : Nat) : Spec Tryd.prog 70 [.bool b, .int .u16 x] [] (fun _ => True) (fun r H' => r = .int .u16 (flagN b x) ∧ H' = []) := by
  refine Spec.of Tryd.func70 rfl Tryd.ntmps70 rfl fun w0 _ => ?_
  refine CodeJ.seq ?_
  refine CodeJ.region ?_
  refine OpsJ.yld rfl rfl rfl (Yld.assign rfl rfl) ?_
  refine OpsJ.nil ?_
  refine ExJ.thenN ?_
  refine CodeJ.seq ?_
  refine CodeJ.seq ?_
  refine CodeJ.region ?_
  refine OpsJ.yld rfl rfl rfl (Yld.move rfl rfl) ?_
  refine OpsJ.nil ?_
  refine ExJ.thenN ?_
  refine CodeJ.cond rfl (fun c5 => ?_) (fun c5 => ?_)
  · subst c5
    refine CodeJ.seq ?_
    refine CodeJ.region ?_
    refine OpsJ.yld rfl rfl rfl (Yld.move rfl rfl) ?_
    refine OpsJ.yld rfl rfl rfl (Yld.assign rfl rfl) ?_
    refine OpsJ.nil ?_
    refine ExJ.thenN ?_
    refine CodeJ.ret ?_
    refine ExJ.thenR ?_
    exact ExJ.ret1 Tryd.results70 rfl ⟨rfl, rfl⟩ fun w hI => hI
  · subst c5
    refine CodeJ.skip ?_
    refine ExJ.thenN ?_
    refine CodeJ.seq ?_
    refine CodeJ.region ?_
    refine OpsJ.yld rfl rfl rfl (Yld.assign rfl rfl) ?_
    refine OpsJ.nil ?_
    refine ExJ.thenN ?_
    refine CodeJ.ret ?_
    exact ExJ.ret1 Tryd.results70 rfl ⟨rfl, rfl⟩ fun w hI => hI

def headV (h : Hd) : Value := .agg #[.int .u16 h.id, .bool h.qr, .int .u16 h.op, .bool h.aa, .bool h.tc, .bool h.rd, .bool h.ra, .bool h.ad, .bool h.cd, .int .u16 h.code]

theorem headOk_spec (h : Hd) : Spec Tryd.prog 35 [headV h] [] (fun _ => True) (fun r H' => r = .bool h.ok ∧ H' = []) := by
  refine Spec.of Tryd.func35 rfl Tryd.ntmps35 rfl fun w0 _ => ?_
  refine CodeJ.seq ?_
  refine CodeJ.region ?_
  refine OpsJ.op rfl ?_
  refine OpJ.box rfl rfl rfl rfl fun b1 hb1 => ?_
  refine OpsJ.yld rfl rfl rfl (Yld.assign rfl rfl) ?_
  refine OpsJ.nil ?_
  refine ExJ.thenN ?_
  refine CodeJ.seq ?_
  refine CodeJ.region ?_
  refine OpsJ.yld rfl rfl rfl (Yld.fieldAddr fa_36_2 rfl rfl) ?_
  refine OpsJ.yld rfl rfl rfl (Yld.load1 rfl Tryd.underlying22 rfl rfl (fun w hI => Inv.cell1 hI (i := 0) rfl rfl)) ?_
  refine OpsJ.yld rfl rfl rfl (Yld.intBin rfl rfl rfl rfl) ?_
  refine OpsJ.yld rfl rfl rfl (Yld.move rfl rfl) ?_
  refine OpsJ.splitP (s := 6) rfl (fun g6 => ?_) (fun g6 => ?_)
  · have hop : h.op < 16 := by omega
    refine OpsJ.opT rfl rfl rfl ?_
    refine OpJ.yld rfl rfl (Yld.fieldAddr fa_36_9 rfl rfl) ?_
    refine OpsJ.opT rfl rfl rfl ?_
    refine OpJ.yld rfl rfl (Yld.load1 rfl Tryd.underlying22 rfl rfl (fun w hI => Inv.cell1 hI (i := 0) rfl rfl)) ?_
    refine OpsJ.opT rfl rfl rfl ?_
    refine OpJ.yld rfl rfl (Yld.intBin rfl rfl rfl rfl) ?_
    refine OpsJ.yld rfl rfl rfl (Yld.pickT rfl rfl rfl) ?_
    refine OpsJ.yld rfl rfl rfl (Yld.assign rfl rfl) ?_
    refine OpsJ.nil ?_
    refine ExJ.thenN ?_
    refine CodeJ.ret ?_
    exact ExJ.ret1 Tryd.results35 rfl ⟨by simp [Hd.ok, hop]; omega, rfl⟩ fun w hI => hI.pick (is := []) (by decide) rfl
  · have hop : ¬ h.op < 16 := by omega
    refine OpsJ.opF rfl rfl rfl rfl rfl rfl ?_
    refine OpsJ.opF rfl rfl rfl rfl rfl rfl ?_
    refine OpsJ.opF rfl rfl rfl rfl rfl rfl ?_
    refine OpsJ.yld rfl rfl rfl (Yld.pickF rfl rfl rfl) ?_
    refine OpsJ.yld rfl rfl rfl (Yld.assign rfl rfl) ?_
    refine OpsJ.nil ?_
    refine ExJ.thenN ?_
    refine CodeJ.ret ?_
    exact ExJ.ret1 Tryd.results35 rfl ⟨by simp [Hd.ok, hop], rfl⟩ fun w hI => hI.pick (is := []) (by decide) rfl


theorem nameOk_spec (s : ByteArray) (hs : s.size ≤ 140737488355328) : Spec Tryd.prog 23 [.string s] [] (fun _ => True) (fun r H' => r = .bool (nameOk s.data.toList) ∧ H' = []) := by
  refine Spec.of Tryd.func23 rfl Tryd.ntmps23 rfl fun w0 _ => ?_
  refine CodeJ.seq ?_
  refine CodeJ.region ?_
  refine OpsJ.yld rfl rfl rfl (Yld.assign rfl rfl) ?_
  refine OpsJ.nil ?_
  refine ExJ.thenN ?_
  refine CodeJ.seq ?_
  refine CodeJ.seq ?_
  refine CodeJ.region ?_
  refine OpsJ.yld rfl rfl rfl (Yld.move rfl rfl) ?_
  refine OpsJ.yld rfl rfl rfl (Yld.strEq rfl rfl rfl) ?_
  refine OpsJ.nil ?_
  refine ExJ.thenN ?_
  refine CodeJ.cond rfl (fun c6 => ?_) (fun c6 => ?_)
  · have h1 : s.data.toList = [46] := by simpa [toList_eq] using c6
    refine CodeJ.seq ?_
    refine CodeJ.region ?_
    refine OpsJ.yld rfl rfl rfl (Yld.assign rfl rfl) ?_
    refine OpsJ.nil ?_
    refine ExJ.thenN ?_
    refine CodeJ.ret ?_
    refine ExJ.thenR ?_
    exact ExJ.ret1 Tryd.results23 rfl ⟨by simp [nameOk, h1], rfl⟩ fun w hI => hI
  · have h1 : (s.data.toList == [46]) = false := by simpa [toList_eq] using c6
    refine CodeJ.skip ?_
    refine ExJ.thenN ?_
    refine CodeJ.seq ?_
    refine CodeJ.region ?_
    refine OpsJ.yld rfl rfl rfl (Yld.assign rfl rfl) ?_
    refine OpsJ.nil ?_
    refine ExJ.thenN ?_
    refine CodeJ.seq ?_
    refine CodeJ.seq ?_
    refine CodeJ.region ?_
    refine OpsJ.yld rfl rfl rfl (Yld.move rfl rfl) ?_
    refine OpsJ.yld rfl rfl rfl (Yld.lenString rfl rfl rfl Tryd.underlying9 rfl) ?_
    refine OpsJ.yld rfl rfl rfl (Yld.move rfl rfl) ?_
    refine OpsJ.nil ?_
    refine ExJ.thenN ?_
    refine CodeJ.block ?_
    refine CodeJ.loopP (fun L H m => ∃ (k c : Nat), k ≤ s.size ∧ nok (s.data.toList.take k) = some c ∧ L = [(0, .string s), (3, .int .i64 c), (8, .int .i64 s.size), (9, .int .i64 k)] ∧ H = [] ∧ m = s.size - k) ⟨0, 0, Nat.zero_le _, rfl, rfl, rfl, rfl⟩ ⟨rfl, rfl, rfl, rfl, trivial⟩ (fun w hI => hI) ?_
    rintro _ _ _ ⟨k, c, hk, hst, rfl, rfl, rfl⟩
    refine CodeJ.seq ?_
    refine CodeJ.region ?_
    refine OpsJ.yld rfl rfl rfl (Yld.intBin rfl rfl rfl rfl) ?_
    refine OpsJ.nil ?_
    refine ExJ.thenN ?_
    refine CodeJ.seq ?_
    refine CodeJ.condP rfl (fun c10 => ?_) (fun c10 => ?_)
    · have hk' : k < s.size := by omega
      obtain ⟨x, hx⟩ := str_get s k hk'
      have hnx : nok (s.data.toList.take (k + 1)) = nokStep (some c) x := by rw [take_snoc _ _ _ hx, nok_snoc, hst]
      have hle := nok_le _ _ hst
      simp only [List.length_take, str_len] at hle
      refine CodeJ.skip ?_
      refine ExJ.thenN ?_
      refine CodeJ.seq ?_
      refine CodeJ.block ?_
      refine CodeJ.seq ?_
      refine CodeJ.region ?_
      refine OpsJ.yld rfl rfl rfl (Yld.move rfl rfl) ?_
      refine OpsJ.yld rfl rfl rfl (Yld.assign rfl rfl) ?_
      refine OpsJ.nil ?_
      refine ExJ.thenN ?_
      refine CodeJ.seq ?_
      refine CodeJ.seq ?_
      refine CodeJ.region ?_
      refine OpsJ.yld rfl rfl rfl (Yld.move rfl rfl) ?_
      refine OpsJ.yld rfl rfl rfl (Yld.move rfl rfl) ?_
      refine OpsJ.yld rfl rfl rfl (Yld.index rfl Tryd.underlying9 rfl rfl hx) ?_
      refine OpsJ.yld rfl rfl rfl (Yld.intBin rfl rfl rfl rfl) ?_
      refine OpsJ.nil ?_
      refine ExJ.thenN ?_
      refine CodeJ.cond rfl (fun c15 => ?_) (fun c15 => ?_)
      · have hdot : x ≠ 46 := (dot_iff x).1 c15
        refine CodeJ.seq ?_
        refine CodeJ.region ?_
        refine OpsJ.yld rfl rfl rfl (Yld.move rfl rfl) ?_
        refine OpsJ.yld rfl rfl rfl (Yld.intBin rfl rfl rfl rfl) ?_
        rw [i64_succ c (by omega)]
        refine OpsJ.yld rfl rfl rfl (Yld.assign rfl rfl) ?_
        refine OpsJ.nil ?_
        refine ExJ.thenN ?_
        refine CodeJ.exit ?_
        refine ExJ.thenX ?_
        refine ExJ.blockHit ?_
        refine ExJ.thenN ?_
        refine CodeJ.region ?_
        refine OpsJ.yld rfl rfl rfl (Yld.intBin rfl rfl rfl rfl) ?_
        rw [i64_succ k (by omega)]
        refine OpsJ.yld rfl rfl rfl (Yld.move rfl rfl) ?_
        refine OpsJ.nil ?_
        exact ExJ.againP ⟨k + 1, c + 1, by omega, by rw [hnx, nokStep, if_pos hdot], rfl, rfl, rfl⟩ (by omega) ⟨rfl, rfl, rfl, rfl, trivial⟩ fun w hI => hI
      · have hdot : x = 46 := (dot_iff' x).1 c15
        refine CodeJ.skip ?_
        refine ExJ.thenN ?_
        refine CodeJ.seq ?_
        refine CodeJ.seq ?_
        refine CodeJ.region ?_
        refine OpsJ.yld rfl rfl rfl (Yld.move rfl rfl) ?_
        refine OpsJ.yld rfl rfl rfl (Yld.intBin rfl rfl rfl rfl) ?_
        refine OpsJ.yld rfl rfl rfl (Yld.move rfl rfl) ?_
        refine OpsJ.splitB (s := 20) rfl (fun g20 => ?_) (fun g20 => ?_)
        · have hc0 : c = 0 := by simpa using g20
          have hbad : nok s.data.toList = none := by
            rw [← List.take_append_drop (k + 1) s.data.toList]
            exact nok_none _ _ (by simp [hnx, nokStep, hdot, hc0])
          refine OpsJ.opF rfl rfl rfl rfl rfl rfl ?_
          refine OpsJ.opF rfl rfl rfl rfl rfl rfl ?_
          refine OpsJ.yld rfl rfl rfl (Yld.pickT rfl rfl rfl) ?_
          refine OpsJ.nil ?_
          refine ExJ.thenN ?_
          refine CodeJ.condT rfl ?_
          refine CodeJ.seq ?_
          refine CodeJ.region ?_
          refine OpsJ.yld rfl rfl rfl (Yld.assign rfl rfl) ?_
          refine OpsJ.nil ?_
          refine ExJ.thenN ?_
          refine CodeJ.ret ?_
          refine ExJ.thenR ?_
          refine ExJ.blockR ?_
          refine ExJ.thenR ?_
          refine ExJ.thenR ?_
          refine ExJ.blockR ?_
          refine ExJ.thenR ?_
          exact ExJ.ret1 Tryd.results23 rfl ⟨by simp [nameOk, h1, hbad], rfl⟩ fun w hI => hI
        · have hc0 : ¬ c = 0 := by simpa using g20
          refine OpsJ.opT rfl rfl rfl ?_
          refine OpJ.yld rfl rfl (Yld.move rfl rfl) ?_
          refine OpsJ.opT rfl rfl rfl ?_
          refine OpJ.yld rfl rfl (Yld.intBin rfl rfl rfl rfl) ?_
          refine OpsJ.yld rfl rfl rfl (Yld.pickF rfl rfl rfl) ?_
          refine OpsJ.nil ?_
          refine ExJ.thenN ?_
          refine CodeJ.condP rfl (fun c23 => ?_) (fun c23 => ?_)
          · have hc63 : 63 < c := by omega
            have hbad : nok s.data.toList = none := by
              rw [← List.take_append_drop (k + 1) s.data.toList]
              exact nok_none _ _ (by simp [hnx, nokStep, hdot, hc63])
            refine CodeJ.seq ?_
            refine CodeJ.region ?_
            refine OpsJ.yld rfl rfl rfl (Yld.assign rfl rfl) ?_
            refine OpsJ.nil ?_
            refine ExJ.thenN ?_
            refine CodeJ.ret ?_
            refine ExJ.thenR ?_
            refine ExJ.blockR ?_
            refine ExJ.thenR ?_
            refine ExJ.thenR ?_
            refine ExJ.blockR ?_
            refine ExJ.thenR ?_
            exact ExJ.ret1 Tryd.results23 rfl ⟨by simp [nameOk, h1, hbad], rfl⟩ fun w hI => hI
          · have hc63 : ¬ 63 < c := by omega
            refine CodeJ.skip ?_
            refine ExJ.thenN ?_
            refine CodeJ.region ?_
            refine OpsJ.yld rfl rfl rfl (Yld.assign rfl rfl) ?_
            refine OpsJ.nil ?_
            refine ExJ.blockN ?_
            refine ExJ.thenN ?_
            refine CodeJ.region ?_
            refine OpsJ.yld rfl rfl rfl (Yld.intBin rfl rfl rfl rfl) ?_
            rw [i64_succ k (by omega)]
            refine OpsJ.yld rfl rfl rfl (Yld.move rfl rfl) ?_
            refine OpsJ.nil ?_
            exact ExJ.againP ⟨k + 1, 0, by omega, by simp [hnx, nokStep, hdot, hc0, hc63], rfl, rfl, rfl⟩ (by omega) ⟨rfl, rfl, rfl, rfl, trivial⟩ fun w hI => hI
    · obtain rfl : k = s.size := by omega
      have hn : nok s.data.toList = some c := by
        have ht : s.data.toList.take s.size = s.data.toList := List.take_of_length_le (by simp)
        rw [← ht, hst]
      refine CodeJ.exit ?_
      refine ExJ.thenX ?_
      refine ExJ.thenX ?_
      refine ExJ.blockHit ?_
      refine ExJ.thenN ?_
      refine CodeJ.seq ?_
      refine CodeJ.region ?_
      refine OpsJ.yld rfl rfl rfl (Yld.move rfl rfl) ?_
      refine OpsJ.yld rfl rfl rfl (Yld.intBin rfl rfl rfl rfl) ?_
      refine OpsJ.yld rfl rfl rfl (Yld.move rfl rfl) ?_
      refine OpsJ.splitB (s := 27) rfl (fun g27 => ?_) (fun g27 => ?_)
      · have hc0 : c = 0 := by simpa using g27
        refine OpsJ.opT rfl rfl rfl ?_
        refine OpJ.yld rfl rfl (Yld.move rfl rfl) ?_
        refine OpsJ.opT rfl rfl rfl ?_
        refine OpJ.yld rfl rfl (Yld.lenString rfl rfl rfl Tryd.underlying9 rfl) ?_
        refine OpsJ.opT rfl rfl rfl ?_
        refine OpJ.yld rfl rfl (Yld.intBin rfl rfl rfl rfl) ?_
        refine OpsJ.yld rfl rfl rfl (Yld.pickT rfl rfl rfl) ?_
        refine OpsJ.yld rfl rfl rfl (Yld.move rfl rfl) ?_
        refine OpsJ.splitP (s := 32) rfl (fun g32 => ?_) (fun g32 => ?_)
        · have hl1 : 1 < s.size := by omega
          refine OpsJ.opT rfl rfl rfl ?_
          refine OpJ.yld rfl rfl (Yld.move rfl rfl) ?_
          refine OpsJ.opT rfl rfl rfl ?_
          refine OpJ.yld rfl rfl (Yld.lenString rfl rfl rfl Tryd.underlying9 rfl) ?_
          refine OpsJ.opT rfl rfl rfl ?_
          refine OpJ.yld rfl rfl (Yld.intBin rfl rfl rfl rfl) ?_
          refine OpsJ.yld rfl rfl rfl (Yld.pickT rfl rfl rfl) ?_
          refine OpsJ.yld rfl rfl rfl (Yld.assign rfl rfl) ?_
          refine OpsJ.nil ?_
          refine ExJ.thenN ?_
          refine CodeJ.ret ?_
          exact ExJ.ret1 Tryd.results23 rfl ⟨by simp [nameOk, h1, hn, hc0, hl1]; omega, rfl⟩ fun w hI => hI
        · have hl1 : ¬ 1 < s.size := by omega
          refine OpsJ.opF rfl rfl rfl rfl rfl rfl ?_
          refine OpsJ.opF rfl rfl rfl rfl rfl rfl ?_
          refine OpsJ.opF rfl rfl rfl rfl rfl rfl ?_
          refine OpsJ.yld rfl rfl rfl (Yld.pickF rfl rfl rfl) ?_
          refine OpsJ.yld rfl rfl rfl (Yld.assign rfl rfl) ?_
          refine OpsJ.nil ?_
          refine ExJ.thenN ?_
          refine CodeJ.ret ?_
          exact ExJ.ret1 Tryd.results23 rfl ⟨by simp [nameOk, h1, hn, hc0, hl1], rfl⟩ fun w hI => hI
      · have hc0 : ¬ c = 0 := by simpa using g27
        refine OpsJ.opF rfl rfl rfl rfl rfl rfl ?_
        refine OpsJ.opF rfl rfl rfl rfl rfl rfl ?_
        refine OpsJ.opF rfl rfl rfl rfl rfl rfl ?_
        refine OpsJ.yld rfl rfl rfl (Yld.pickF rfl rfl rfl) ?_
        refine OpsJ.yld rfl rfl rfl (Yld.move rfl rfl) ?_
        refine OpsJ.opF rfl rfl rfl rfl rfl rfl ?_
        refine OpsJ.opF rfl rfl rfl rfl rfl rfl ?_
        refine OpsJ.opF rfl rfl rfl rfl rfl rfl ?_
        refine OpsJ.yld rfl rfl rfl (Yld.pickF rfl rfl rfl) ?_
        refine OpsJ.yld rfl rfl rfl (Yld.assign rfl rfl) ?_
        refine OpsJ.nil ?_
        refine ExJ.thenN ?_
        refine CodeJ.ret ?_
        exact ExJ.ret1 Tryd.results23 rfl ⟨by simp [nameOk, h1, hn, hc0], rfl⟩ fun w hI => hI

theorem longLabel_spec (s : ByteArray) (hs : s.size ≤ 140737488355328) : Spec Tryd.prog 19 [.string s] [] (fun _ => True) (fun r H' => r = .bool (longLabel s.data.toList) ∧ H' = []) := by
  refine Spec.of Tryd.func19 rfl Tryd.ntmps19 rfl fun w0 _ => ?_
  refine CodeJ.seq ?_
  refine CodeJ.region ?_
  refine OpsJ.yld rfl rfl rfl (Yld.assign rfl rfl) ?_
  refine OpsJ.nil ?_
  refine ExJ.thenN ?_
  refine CodeJ.seq ?_
  refine CodeJ.region ?_
  refine OpsJ.yld rfl rfl rfl (Yld.assign rfl rfl) ?_
  refine OpsJ.nil ?_
  refine ExJ.thenN ?_
  refine CodeJ.seq ?_
  refine CodeJ.region ?_
  refine OpsJ.yld rfl rfl rfl (Yld.assign rfl rfl) ?_
  refine OpsJ.nil ?_
  refine ExJ.thenN ?_
  refine CodeJ.seq ?_
  refine CodeJ.seq ?_
  refine CodeJ.region ?_
  refine OpsJ.yld rfl rfl rfl (Yld.move rfl rfl) ?_
  refine OpsJ.yld rfl rfl rfl (Yld.lenString rfl rfl rfl Tryd.underlying9 rfl) ?_
  refine OpsJ.yld rfl rfl rfl (Yld.move rfl rfl) ?_
  refine OpsJ.nil ?_
  refine ExJ.thenN ?_
  refine CodeJ.block ?_
  refine CodeJ.loopP (fun L H m => ∃ (k c : Nat) (b : Bool), k ≤ s.size ∧ ll (s.data.toList.take k) = (c, b) ∧ L = [(0, .string s), (3, .int .i64 c), (4, .bool b), (7, .int .i64 s.size), (8, .int .i64 k)] ∧ H = [] ∧ m = s.size - k) ⟨0, 0, false, Nat.zero_le _, rfl, rfl, rfl, rfl⟩ ⟨rfl, rfl, rfl, rfl, rfl, trivial⟩ (fun w hI => hI) ?_
  rintro _ _ _ ⟨k, c, b, hk, hst, rfl, rfl, rfl⟩
  refine CodeJ.seq ?_
  refine CodeJ.region ?_
  refine OpsJ.yld rfl rfl rfl (Yld.intBin rfl rfl rfl rfl) ?_
  refine OpsJ.nil ?_
  refine ExJ.thenN ?_
  refine CodeJ.seq ?_
  refine CodeJ.condP rfl (fun c9 => ?_) (fun c9 => ?_)
  · have hk' : k < s.size := by omega
    obtain ⟨x, hx⟩ := str_get s k hk'
    have hnx : ll (s.data.toList.take (k + 1)) = llStep (c, b) x := by rw [take_snoc _ _ _ hx, ll_snoc, hst]
    have hle := ll_le (s.data.toList.take k)
    rw [hst] at hle
    simp only [List.length_take, str_len] at hle
    refine CodeJ.skip ?_
    refine ExJ.thenN ?_
    refine CodeJ.seq ?_
    refine CodeJ.block ?_
    refine CodeJ.seq ?_
    refine CodeJ.region ?_
    refine OpsJ.yld rfl rfl rfl (Yld.move rfl rfl) ?_
    refine OpsJ.yld rfl rfl rfl (Yld.assign rfl rfl) ?_
    refine OpsJ.nil ?_
    refine ExJ.thenN ?_
    refine CodeJ.seq ?_
    refine CodeJ.region ?_
    refine OpsJ.yld rfl rfl rfl (Yld.move rfl rfl) ?_
    refine OpsJ.yld rfl rfl rfl (Yld.intBin rfl rfl rfl rfl) ?_
    rw [i64_succ c (by omega)]
    refine OpsJ.yld rfl rfl rfl (Yld.assign rfl rfl) ?_
    refine OpsJ.nil ?_
    refine ExJ.thenN ?_
    refine CodeJ.seq ?_
    refine CodeJ.seq ?_
    refine CodeJ.region ?_
    refine OpsJ.yld rfl rfl rfl (Yld.move rfl rfl) ?_
    refine OpsJ.yld rfl rfl rfl (Yld.move rfl rfl) ?_
    refine OpsJ.yld rfl rfl rfl (Yld.index rfl Tryd.underlying9 rfl rfl hx) ?_
    refine OpsJ.yld rfl rfl rfl (Yld.intBin rfl rfl rfl rfl) ?_
    refine OpsJ.nil ?_
    refine ExJ.thenN ?_
    refine CodeJ.cond rfl (fun c16 => ?_) (fun c16 => ?_)
    · have hdot : x = 46 := (dotE x).1 c16
      refine CodeJ.region ?_
      refine OpsJ.yld rfl rfl rfl (Yld.assign rfl rfl) ?_
      refine OpsJ.nil ?_
      refine ExJ.thenN ?_
      refine CodeJ.region ?_
      refine OpsJ.yld rfl rfl rfl (Yld.move rfl rfl) ?_
      refine OpsJ.yld rfl rfl rfl (Yld.move rfl rfl) ?_
      refine OpsJ.splitB (s := 18) rfl (fun g18 => ?_) (fun g18 => ?_)
      · have hb : b = true := g18
        refine OpsJ.opF rfl rfl rfl rfl rfl rfl ?_
        refine OpsJ.opF rfl rfl rfl rfl rfl rfl ?_
        refine OpsJ.yld rfl rfl rfl (Yld.pickT rfl rfl rfl) ?_
        refine OpsJ.yld rfl rfl rfl (Yld.assign rfl rfl) ?_
        refine OpsJ.nil ?_
        refine ExJ.blockN ?_
        refine ExJ.thenN ?_
        refine CodeJ.region ?_
        refine OpsJ.yld rfl rfl rfl (Yld.intBin rfl rfl rfl rfl) ?_
        rw [i64_succ k (by omega)]
        refine OpsJ.yld rfl rfl rfl (Yld.move rfl rfl) ?_
        refine OpsJ.nil ?_
        exact ExJ.againP ⟨k + 1, 0, true, by omega, by simp [hnx, llStep, hdot, hb], rfl, rfl, rfl⟩ (by omega) ⟨rfl, rfl, rfl, rfl, rfl, trivial⟩ fun w hI => hI
      · have hb : b = false := g18
        refine OpsJ.opT rfl rfl rfl ?_
        refine OpJ.yld rfl rfl (Yld.move rfl rfl) ?_
        refine OpsJ.opT rfl rfl rfl ?_
        refine OpJ.yld rfl rfl (Yld.intBin rfl rfl rfl rfl) ?_
        refine OpsJ.yld rfl rfl rfl (Yld.pickF rfl rfl rfl) ?_
        refine OpsJ.yld rfl rfl rfl (Yld.assign rfl rfl) ?_
        refine OpsJ.nil ?_
        refine ExJ.blockN ?_
        refine ExJ.thenN ?_
        refine CodeJ.region ?_
        refine OpsJ.yld rfl rfl rfl (Yld.intBin rfl rfl rfl rfl) ?_
        rw [i64_succ k (by omega)]
        refine OpsJ.yld rfl rfl rfl (Yld.move rfl rfl) ?_
        refine OpsJ.nil ?_
        exact ExJ.againP ⟨k + 1, 0, false, by omega, by simp [hnx, llStep, hdot, hb], rfl, rfl, rfl⟩ (by omega) ⟨rfl, rfl, rfl, rfl, rfl, trivial⟩ fun w hI => hI
    · have hdot : ¬ x = 46 := (dotE' x).1 c16
      refine CodeJ.skip ?_
      refine ExJ.thenN ?_
      refine CodeJ.region ?_
      refine OpsJ.yld rfl rfl rfl (Yld.move rfl rfl) ?_
      refine OpsJ.yld rfl rfl rfl (Yld.move rfl rfl) ?_
      refine OpsJ.splitB (s := 18) rfl (fun g18 => ?_) (fun g18 => ?_)
      · have hb : b = true := g18
        refine OpsJ.opF rfl rfl rfl rfl rfl rfl ?_
        refine OpsJ.opF rfl rfl rfl rfl rfl rfl ?_
        refine OpsJ.yld rfl rfl rfl (Yld.pickT rfl rfl rfl) ?_
        refine OpsJ.yld rfl rfl rfl (Yld.assign rfl rfl) ?_
        refine OpsJ.nil ?_
        refine ExJ.blockN ?_
        refine ExJ.thenN ?_
        refine CodeJ.region ?_
        refine OpsJ.yld rfl rfl rfl (Yld.intBin rfl rfl rfl rfl) ?_
        rw [i64_succ k (by omega)]
        refine OpsJ.yld rfl rfl rfl (Yld.move rfl rfl) ?_
        refine OpsJ.nil ?_
        exact ExJ.againP ⟨k + 1, c + 1, true, by omega, by simp [hnx, llStep, hdot, hb], rfl, rfl, rfl⟩ (by omega) ⟨rfl, rfl, rfl, rfl, rfl, trivial⟩ fun w hI => hI
      · have hb : b = false := g18
        refine OpsJ.opT rfl rfl rfl ?_
        refine OpJ.yld rfl rfl (Yld.move rfl rfl) ?_
        refine OpsJ.opT rfl rfl rfl ?_
        refine OpJ.yld rfl rfl (Yld.intBin rfl rfl rfl rfl) ?_
        refine OpsJ.yld rfl rfl rfl (Yld.pickF rfl rfl rfl) ?_
        refine OpsJ.yld rfl rfl rfl (Yld.assign rfl rfl) ?_
        refine OpsJ.nil ?_
        refine ExJ.blockN ?_
        refine ExJ.thenN ?_
        refine CodeJ.region ?_
        refine OpsJ.yld rfl rfl rfl (Yld.intBin rfl rfl rfl rfl) ?_
        rw [i64_succ k (by omega)]
        refine OpsJ.yld rfl rfl rfl (Yld.move rfl rfl) ?_
        refine OpsJ.nil ?_
        exact ExJ.againP ⟨k + 1, c + 1, _, by omega, by simp only [hnx, llStep, if_neg hdot, hb, Bool.false_or, Prod.mk.injEq, true_and]; exact decide_eq_decide.2 (by omega), rfl, rfl, rfl⟩ (by omega) ⟨rfl, rfl, rfl, rfl, rfl, trivial⟩ fun w hI => hI
  · obtain rfl : k = s.size := by omega
    have hn : ll s.data.toList = (c, b) := by
      have ht : s.data.toList.take s.size = s.data.toList := List.take_of_length_le (by simp)
      rw [← ht, hst]
    refine CodeJ.exit ?_
    refine ExJ.thenX ?_
    refine ExJ.thenX ?_
    refine ExJ.blockHit ?_
    refine ExJ.thenN ?_
    refine CodeJ.seq ?_
    refine CodeJ.region ?_
    refine OpsJ.yld rfl rfl rfl (Yld.move rfl rfl) ?_
    refine OpsJ.yld rfl rfl rfl (Yld.move rfl rfl) ?_
    refine OpsJ.splitB (s := 24) rfl (fun g24 => ?_) (fun g24 => ?_)
    · have hb : b = true := g24
      refine OpsJ.opT rfl rfl rfl ?_
      refine OpJ.yld rfl rfl (Yld.move rfl rfl) ?_
      refine OpsJ.opT rfl rfl rfl ?_
      refine OpJ.yld rfl rfl (Yld.intBin rfl rfl rfl rfl) ?_
      refine OpsJ.yld rfl rfl rfl (Yld.pickT rfl rfl rfl) ?_
      refine OpsJ.yld rfl rfl rfl (Yld.move rfl rfl) ?_
      refine OpsJ.splitB (s := 28) rfl (fun g28 => ?_) (fun g28 => ?_)
      · have hc0 : c = 0 := by simpa using g28
        refine OpsJ.opT rfl rfl rfl ?_
        refine OpJ.yld rfl rfl (Yld.move rfl rfl) ?_
        refine OpsJ.opT rfl rfl rfl ?_
        refine OpJ.yld rfl rfl (Yld.lenString rfl rfl rfl Tryd.underlying9 rfl) ?_
        refine OpsJ.opT rfl rfl rfl ?_
        refine OpJ.yld rfl rfl (Yld.intBin rfl rfl rfl rfl) ?_
        refine OpsJ.yld rfl rfl rfl (Yld.pickT rfl rfl rfl) ?_
        refine OpsJ.yld rfl rfl rfl (Yld.assign rfl rfl) ?_
        refine OpsJ.nil ?_
        refine ExJ.thenN ?_
        refine CodeJ.ret ?_
        exact ExJ.ret1 Tryd.results19 rfl ⟨by simp [longLabel, hn, hb, hc0]; omega, rfl⟩ fun w hI => hI
      · have hc0 : ¬ c = 0 := by simpa using g28
        refine OpsJ.opF rfl rfl rfl rfl rfl rfl ?_
        refine OpsJ.opF rfl rfl rfl rfl rfl rfl ?_
        refine OpsJ.opF rfl rfl rfl rfl rfl rfl ?_
        refine OpsJ.yld rfl rfl rfl (Yld.pickF rfl rfl rfl) ?_
        refine OpsJ.yld rfl rfl rfl (Yld.assign rfl rfl) ?_
        refine OpsJ.nil ?_
        refine ExJ.thenN ?_
        refine CodeJ.ret ?_
        exact ExJ.ret1 Tryd.results19 rfl ⟨by simp [longLabel, hn, hb, hc0], rfl⟩ fun w hI => hI
    · have hb : b = false := g24
      refine OpsJ.opF rfl rfl rfl rfl rfl rfl ?_
      refine OpsJ.opF rfl rfl rfl rfl rfl rfl ?_
      refine OpsJ.yld rfl rfl rfl (Yld.pickF rfl rfl rfl) ?_
      refine OpsJ.yld rfl rfl rfl (Yld.move rfl rfl) ?_
      refine OpsJ.opF rfl rfl rfl rfl rfl rfl ?_
      refine OpsJ.opF rfl rfl rfl rfl rfl rfl ?_
      refine OpsJ.opF rfl rfl rfl rfl rfl rfl ?_
      refine OpsJ.yld rfl rfl rfl (Yld.pickF rfl rfl rfl) ?_
      refine OpsJ.yld rfl rfl rfl (Yld.assign rfl rfl) ?_
      refine OpsJ.nil ?_
      refine ExJ.thenN ?_
      refine CodeJ.ret ?_
      exact ExJ.ret1 Tryd.results19 rfl ⟨by simp [longLabel, hn, hb], rfl⟩ fun w hI => hI
end Go.Proofs.YtamobccbioafmaaDoor

/-
  The names of the package: nameOf.
-/
namespace Go.Proofs.YtamobccbioafmaaDoor
open Go
set_option maxRecDepth 100000

/-- a Name of at most 255 bytes -/
def nameCs (l : List UInt8) : List Value := bytesV l ++ (List.replicate (255 - l.length) (Value.int .u8 0) ++ [.int .u8 l.length])
theorem nameCs_len (l : List UInt8) (h : l.length ≤ 255) : (nameCs l).length = 256 := by
  simp [nameCs, bytesV_len]
  omega
theorem nameCs_one (l : List UInt8) : oneCells (nameCs l) = true := by
  simp [oneCells, nameCs, bytesV, Value.oneCell']
theorem nameCs_get (l : List UInt8) (i : Nat) (c : UInt8) (h : l[i]? = some c) : (nameCs l)[i]? = some (.int .u8 c.toNat) := by
  have hl := (List.getElem?_eq_some_iff.1 h).1
  rw [nameCs, List.getElem?_append_left (by rw [bytesV_len]; exact hl)]
  simp [bytesV, h]
theorem nameCs_size (l : List UInt8) (h : l.length ≤ 255) : (nameCs l)[255]? = some (.int .u8 l.length) := by
  rw [nameCs, ← List.append_assoc, List.getElem?_append_right (by simp [bytesV_len]; omega)]
  simp [bytesV_len]
  have : 255 - (l.length + (255 - l.length)) = 0 := by omega
  rw [this]
  rfl
def cut255 (s : ByteArray) : List UInt8 := s.data.toList.take 255
theorem cut255_len (s : ByteArray) : (cut255 s).length ≤ 255 := List.length_take_le _ _

theorem name_made (l : List UInt8) (h : l.length ≤ 255) : setCs (setCs (List.replicate 256 (Value.int .u8 0)).toArray 0 (bytesV l)) 255 [.int .u8 l.length] = (nameCs l).toArray := by
  have e1 : setCs (List.replicate 256 (Value.int .u8 0)).toArray 0 (bytesV l) = (bytesV l ++ (List.replicate (255 - l.length) (Value.int .u8 0) ++ [Value.int .u8 0])).toArray := by
    simp only [setCs, List.take_zero, List.nil_append, Nat.zero_add, List.drop_replicate, bytesV_len]
    have h1 : 256 - l.length = (255 - l.length) + 1 := by omega
    rw [h1, List.replicate_succ']
  rw [e1, ← List.append_assoc]
  simp only [setCs]
  have h2 : (bytesV l ++ List.replicate (255 - l.length) (Value.int .u8 0)).length = 255 := by simp [bytesV_len]; omega
  rw [List.take_left' h2]
  have h3 : ((bytesV l ++ List.replicate (255 - l.length) (Value.int .u8 0)) ++ [Value.int .u8 0]).drop (255 + [Value.int .u8 (l.length : Nat)].length) = [] := by
    apply List.drop_of_length_le
    simp [bytesV_len]
    omega
  rw [h3]
  simp [nameCs]

theorem nameOf_spec (s : ByteArray) : Spec Tryd.prog 73 [.string s] [] (fun _ => True) (fun r H' => r = .agg (nameCs (cut255 s)).toArray ∧ H' = []) := by
  refine Spec.of Tryd.func73 rfl Tryd.ntmps73 rfl fun w0 _ => ?_
  have hl := cut255_len s
  have hsz := nameCs_len (cut255 s) hl
  refine CodeJ.seq ?_
  refine CodeJ.region ?_
  refine OpsJ.op rfl ?_
  refine OpJ.alloc rfl rfl rfl zero_63 fun res hres => ?_
  refine OpsJ.nil ?_
  refine ExJ.thenN ?_
  refine CodeJ.seq ?_
  refine CodeJ.region ?_
  refine OpsJ.yld rfl rfl rfl (Yld.build places_63 zero_63 rfl rfl rfl) ?_
  refine OpsJ.op rfl ?_
  refine OpJ.alloc rfl rfl rfl zero_63 fun nm hnm => ?_
  refine OpsJ.op rfl ?_
  refine OpJ.storeW (i := 0) rfl rfl rfl rfl sz_63 rfl rfl rfl ?_
  refine OpsJ.nil ?_
  refine ExJ.thenN ?_
  refine CodeJ.seq ?_
  refine CodeJ.region ?_
  refine OpsJ.yld rfl rfl rfl (Yld.fieldAddr fa_63_0 rfl rfl) ?_
  refine OpsJ.yld rfl rfl rfl (Yld.sliceArrAll rfl Tryd.underlying61 sz_5 rfl) ?_
  refine OpsJ.yld rfl rfl rfl (Yld.move rfl rfl) ?_
  refine OpsJ.op rfl ?_
  refine OpJ.copyStr (i := 0) rfl rfl rfl Tryd.underlying31 sz_5 rfl rfl rfl (by decide) ?_
  refine OpsJ.yld rfl rfl rfl (Yld.convInt rfl Tryd.underlying3 Tryd.underlying5 rfl) ?_
  rw [u8_wrap]
  refine OpsJ.yld rfl rfl rfl (Yld.fieldAddr fa_63_1 rfl rfl) ?_
  refine OpsJ.op rfl ?_
  refine OpJ.store1 (i := 0) rfl rfl rfl rfl rfl sz_5 rfl ?_ ?_
  · rw [setCs_size (by rw [bytesV_len]; have : (s.data.toList.take 255).length ≤ 255 := hl; exact Nat.le_trans (Nat.add_le_add_left this 0) (by decide))]; rfl
  have hu : (UInt8.ofNat (s.data.toList.take 255).length).toNat = (s.data.toList.take 255).length := by
    have : (s.data.toList.take 255).length ≤ 255 := hl
    simp
    omega
  rw [hu]
  refine OpsJ.congrH (H' := [.blk nm (nameCs (cut255 s)).toArray 63, _]) (congrArg (fun c => [Res.blk nm c 63, _]) (name_made (cut255 s) hl)) ?_
  refine OpsJ.nil ?_
  refine ExJ.thenN ?_
  refine CodeJ.seq ?_
  refine CodeJ.region ?_
  refine OpsJ.yld rfl rfl rfl (Yld.loadN (vs := nameCs (cut255 s)) rfl Tryd.underlying63 rfl (by rw [hsz]; exact sz_63) rfl (fun w hI => Inv.whole hI (i := 0) rfl)) ?_
  refine OpsJ.op rfl ?_
  refine OpJ.storeW (i := 1) rfl rfl rfl rfl (by show _ = some (nameCs (cut255 s)).toArray.size; rw [List.size_toArray, hsz]; exact sz_63) rfl (nameCs_one _) (by show (nameCs (cut255 s)).toArray.size = _; rw [List.size_toArray, hsz]; rfl) ?_
  refine OpsJ.nil ?_
  refine ExJ.thenN ?_
  refine CodeJ.ret ?_
  exact ExJ.retC (vs := nameCs (cut255 s)) Tryd.results73 rfl Tryd.underlying63 rfl (by rw [hsz]; exact sz_63) (fun w hI => Inv.whole hI (i := 1) rfl) ⟨rfl, rfl⟩ fun w hI => hI.pick (is := []) (by decide) rfl

end Go.Proofs.YtamobccbioafmaaDoor

/-
  How messages lie in memory, to be read.
-/
namespace Go.Proofs.YtamobccbioafmaaDoor
open Go

/-- a slice of m elements of sz cells that can be read; xs: their cells -/
def Row (w : World) (sz : Nat) (v : Value) (m : Nat) (xs : List Value) : Prop :=
  (∃ p c, v = .slice p 0 c ∧ m = 0 ∧ xs = []) ∨ ∃ b off c, v = .slice (some ⟨b, off, none⟩) m c ∧ xs.length = m * sz ∧ Cells w b off xs

theorem Row.shape {w : World} {sz m : Nat} {v : Value} {xs : List Value} (h : Row w sz v m xs) : ∃ p c, v = .slice p m c := by
  rcases h with ⟨p, c, rfl, rfl, rfl⟩ | ⟨b, off, c, rfl, _⟩
  · exact ⟨_, _, rfl⟩
  · exact ⟨_, _, rfl⟩
theorem Row.keep {w w' : World} {sz m : Nat} {v : Value} {xs : List Value} (h : Row w sz v m xs) {S : List Nat} (hk : Keep S w w') (hb : ∀ b ∈ blkOf v, b ∉ S) : Row w' sz v m xs := by
  rcases h with h | ⟨b, off, c, rfl, hl, hc⟩
  · exact .inl h
  · exact .inr ⟨b, off, c, rfl, hl, hc.keep hk (hb b (by simp [blkOf]))⟩
theorem Row.congr {w w' : World} {sz m : Nat} {v : Value} {xs : List Value} (h : Row w sz v m xs) (hb : ∀ b ∈ blkOf v, w'.heap[b]? = w.heap[b]?) : Row w' sz v m xs := by
  rcases h with h | ⟨b, off, c, rfl, hl, hc⟩
  · exact .inl h
  · exact .inr ⟨b, off, c, rfl, hl, hc.congr (hb b (by simp [blkOf]))⟩
theorem Row.len {w : World} {sz m : Nat} {v : Value} {xs : List Value} (h : Row w sz v m xs) : xs.length = m * sz := by
  rcases h with ⟨p, c, rfl, rfl, rfl⟩ | ⟨b, off, c, rfl, hl, _⟩
  · simp
  · exact hl
theorem Own.row {w : World} {T sz m : Nat} {v : Value} {xs : List Value} (h : Own w T sz v m xs) : Row w sz v m xs := by
  rcases h with ⟨rfl, rfl, rfl⟩ | ⟨b, cap, c, rfl, hb, hn, hc, hlen, hx⟩
  · exact .inl ⟨none, 0, rfl, rfl, rfl⟩
  · exact .inr ⟨b, 0, cap, rfl, hlen, c, T, (0, 0), hb, by rw [hlen, hc]; simpa using Nat.mul_le_mul_right sz hn, by simp [hlen, ← hx]⟩
/-- the address of element i, and what it holds -/
theorem Row.at {w : World} {sz m : Nat} {v : Value} {xss : List (List Value)} (h : Row w sz v m xss.flatten) (hz : ∀ x ∈ xss, x.length = sz) (hm : m = xss.length) {i : Nat} (hi : i < m) :
    ∃ b off c, v = .slice (some ⟨b, off, none⟩) m c ∧ ∀ x, xss[i]? = some x → Cells w b (off + i * sz) x := by
  rcases h with ⟨p, c, rfl, rfl, _⟩ | ⟨b, off, c, rfl, hl, hc⟩
  · omega
  · refine ⟨b, off, c, rfl, fun x hx => ?_⟩
    have hlen : ∀ (l : List (List Value)), (∀ x ∈ l, x.length = sz) → l.flatten.length = l.length * sz := by
      intro l
      induction l with
      | nil => intro _; simp
      | cons y r ih =>
        intro h
        have h1 := h y (by simp)
        have h2 := ih fun z hz => h z (by simp [hz])
        simp only [List.flatten_cons, List.length_append, List.length_cons, h1, h2, Nat.add_mul]
        omega
    have hil := (List.getElem?_eq_some_iff.1 hx).1
    have hxl : x.length = sz := hz x (List.mem_of_getElem? hx)
    have h1 : (xss.take i).flatten.length = i * sz := by
      rw [hlen _ fun y hy => hz y (List.mem_of_mem_take hy), List.length_take, Nat.min_eq_left (by omega)]
    have hsplit : xss.flatten = (xss.take i).flatten ++ (x ++ (xss.drop (i + 1)).flatten) := by
      conv => lhs; rw [← List.take_append_drop i xss]
      rw [List.flatten_append]
      congr 1
      rw [List.drop_eq_getElem_cons hil, List.flatten_cons]
      congr 1
      exact (List.getElem?_eq_some_iff.1 hx).2
    refine hc.part (k := i * sz) ?_ ?_
    · rw [hsplit, ← h1, List.drop_left' rfl]
      simp
    · rw [hlen _ hz, hxl]
      have : (i + 1) * sz ≤ xss.length * sz := Nat.mul_le_mul_right sz (by omega)
      rw [Nat.add_mul] at this
      omega

theorem Row.keep0 {w w' : World} {sz m : Nat} {v : Value} {xs : List Value} (h : Row w sz v m xs) (hk : Keep [] w w') : Row w' sz v m xs := h.keep hk (by simp)

/-- integers -/
def Ints (w : World) (v : Value) (ns : List Nat) : Prop := Row w 1 v ns.length (ns.map fun k => Value.int .i64 (k : Nat))

/-! ### questions -/
structure AskD where
  name : ByteArray
  typ : Nat
  cls : Nat
def AskD.wf (a : AskD) : Prop := a.typ < 65536 ∧ a.cls < 65536 ∧ a.name.size ≤ 140737488351232
def AskD.cells (a : AskD) : List Value := [.string a.name, .int .u16 a.typ, .int .u16 a.cls]
def AskD.val (a : AskD) : Value := .agg #[.string a.name, .int .u16 a.typ, .int .u16 a.cls]
def Asks (w : World) (v : Value) (qs : List AskD) : Prop := Row w 3 v qs.length (qs.map AskD.cells).flatten
def askWire (a : AskD) : List UInt8 := wire a.name.data.toList ++ be16 a.typ ++ be16 a.cls

/-! ### records -/
structure PairD where
  key : Nat
  dataV : Value
  data : List UInt8
def PairD.cells (p : PairD) : List Value := [.int .u16 p.key, p.dataV]
structure RecD where
  name : ByteArray
  typ : Nat
  cls : Nat
  ttl : Nat
  len : Nat
  kind : Int
  dataV : Value
  data : List UInt8
  host : ByteArray
  box : ByteArray
  n1 : Nat
  n2 : Nat
  n3 : Nat
  n4 : Nat
  n5 : Nat
  textsV : Value
  texts : List ByteArray
  pairsV : Value
  pairs : List PairD
structure RecD.wf (r : RecD) : Prop where
  typ : r.typ < 65536
  cls : r.cls < 65536
  ttl : r.ttl < 4294967296
  len : r.len < 65536
  n1 : r.n1 < 4294967296
  n2 : r.n2 < 4294967296
  n3 : r.n3 < 4294967296
  n4 : r.n4 < 4294967296
  n5 : r.n5 < 4294967296
  name : r.name.size ≤ 140737488351232
  host : r.host.size ≤ 140737488351232
  box : r.box.size ≤ 140737488351232
  data : r.data.length ≤ 140737488351232
  texts : r.texts.length * 16 ≤ 140737488351232
  text : ∀ s ∈ r.texts, s.size ≤ 140737488351232
  pairs : r.pairs.length * 32 ≤ 140737488351232
  pair : ∀ p ∈ r.pairs, p.key < 65536 ∧ p.data.length ≤ 140737488351232
/-- what it leads to is not much -/
structure RecD.upto (r : RecD) (B : Nat) : Prop where
  texts : r.texts.length ≤ B
  text : ∀ s ∈ r.texts, s.size ≤ B
  pairs : r.pairs.length ≤ B
  pair : ∀ p ∈ r.pairs, p.data.length ≤ B
def RecD.cells (r : RecD) : List Value := [.string r.name, .int .u16 r.typ, .int .u16 r.cls, .int .u32 r.ttl, .int .u16 r.len, .int .i64 r.kind, r.dataV, .string r.host, .string r.box, .int .u32 r.n1, .int .u32 r.n2, .int .u32 r.n3, .int .u32 r.n4, .int .u32 r.n5, r.textsV, r.pairsV]
def RecD.val (r : RecD) : Value := .agg r.cells.toArray
def Pairs (w : World) (v : Value) (ps : List PairD) : Prop := Row w 2 v ps.length (ps.map PairD.cells).flatten
/-- what a record leads to -/
structure RecOk (w : World) (r : RecD) : Prop where
  data : Bytes w r.dataV r.data
  texts : Row w 1 r.textsV r.texts.length (r.texts.map Value.string)
  pairs : Pairs w r.pairsV r.pairs
  pdata : ∀ p ∈ r.pairs, Bytes w p.dataV p.data
theorem RecOk.keep0 {w w' : World} {r : RecD} (h : RecOk w r) (hk : Keep [] w w') : RecOk w' r :=
  ⟨h.data.keep hk (by simp), h.texts.keep0 hk, h.pairs.keep0 hk, fun p hp => (h.pdata p hp).keep hk (by simp)⟩
theorem RecOk.one {w : World} {r : RecD} (h : RecOk w r) : oneCells (Value.agg r.cells.toArray).cells.toList = true := by
  obtain ⟨p1, c1, h1⟩ := h.data.shape
  obtain ⟨p2, c2, h2⟩ := h.texts.shape
  obtain ⟨p3, c3, h3⟩ := h.pairs.shape
  simp [oneCells, Value.cells, RecD.cells, h1, h2, h3, Value.oneCell']
def Recs (w : World) (v : Value) (rs : List RecD) : Prop := Row w 16 v rs.length (rs.map RecD.cells).flatten ∧ ∀ r ∈ rs, RecOk w r
theorem Recs.keep0 {w w' : World} {v : Value} {rs : List RecD} (h : Recs w v rs) (hk : Keep [] w w') : Recs w' v rs := ⟨h.1.keep0 hk, fun r hr => (h.2 r hr).keep0 hk⟩

/-! ### messages -/
structure MsgD where
  head : Hd
  asksV : Value
  asks : List AskD
  oneV : Value
  one : List RecD
  twoV : Value
  two : List RecD
  threeV : Value
  three : List RecD
def headC (h : Hd) : List Value := [.int .u16 h.id, .bool h.qr, .int .u16 h.op, .bool h.aa, .bool h.tc, .bool h.rd, .bool h.ra, .bool h.ad, .bool h.cd, .int .u16 h.code]
def MsgD.cells (m : MsgD) : List Value := [.int .u16 m.head.id, .bool m.head.qr, .int .u16 m.head.op, .bool m.head.aa, .bool m.head.tc, .bool m.head.rd, .bool m.head.ra, .bool m.head.ad, .bool m.head.cd, .int .u16 m.head.code, m.asksV, m.oneV, m.twoV, m.threeV]
def MsgD.val (m : MsgD) : Value := .agg m.cells.toArray
structure MsgOk (w : World) (m : MsgD) : Prop where
  asks : Asks w m.asksV m.asks
  one : Recs w m.oneV m.one
  two : Recs w m.twoV m.two
  three : Recs w m.threeV m.three
theorem MsgOk.keep0 {w w' : World} {m : MsgD} (h : MsgOk w m) (hk : Keep [] w w') : MsgOk w' m := ⟨Row.keep0 h.asks hk, h.one.keep0 hk, h.two.keep0 hk, h.three.keep0 hk⟩
end Go.Proofs.YtamobccbioafmaaDoor

/-
  Contracts of the reference's writers: headers, questions.
-/
namespace Go.Proofs.YtamobccbioafmaaDoor
open Go
set_option maxRecDepth 100000

theorem u16_or (x y : Nat) (hx : x < 65536) (hy : y < 65536) : IntKind.u16.wrap ((BitVec.ofInt IntKind.u16.bits (x : Int) ||| BitVec.ofInt IntKind.u16.bits (y : Int)).toNat : Int) = ((x ||| y : Nat) : Int) := by
  have h := or_lt x y hx hy
  have hb : IntKind.u16.bits = 16 := rfl
  have h1 : ((x : Int) % (2 ^ 16 : Nat)).toNat = x := by omega
  have h2 : ((y : Int) % (2 ^ 16 : Nat)).toNat = y := by omega
  rw [u16_wrap, BitVec.toNat_or, BitVec.toNat_ofInt, BitVec.toNat_ofInt, hb, h1, h2, Nat.mod_eq_of_lt h]
theorem u16_shl11 (x : Nat) : IntKind.u16.wrap ((x : Int) * 2 ^ min (11 : Int).toNat IntKind.u16.bits) = ((x * 2048 % 65536 : Nat) : Int) := by
  have : (x : Int) * 2 ^ min (11 : Int).toNat IntKind.u16.bits = ((x * 2048 : Nat) : Int) := by simp [IntKind.bits]
  rw [this, u16_wrap]

theorem List.map_flatten_single {α β : Type} (l : List α) (f : α → β) : (l.map fun x => [f x]).flatten = l.map f := by
  induction l with
  | nil => rfl
  | cons x r ih => simp [ih]
theorem headWire_len (h : Hd) (ns : List Nat) : (headWire h ns).length = 4 + 2 * ns.length := by
  have : ∀ ns : List Nat, ((ns.map fun n => be16 (n % 65536)).flatten).length = 2 * ns.length := by
    intro ns
    induction ns with
    | nil => rfl
    | cons x r ih => simp only [List.map_cons, List.flatten_cons, List.length_append, ih, be16_len, List.length_cons]; omega
  simp only [headWire, List.length_append, this, be16_len]

theorem askWire_spec (a : AskD) (hs : a.name.size ≤ 254) : Spec Tryd.prog 37 [a.val] [] (fun _ => True) (RetB 5 (askWire a)) := by
  refine Spec.of Tryd.func37 rfl Tryd.ntmps37 rfl fun w0 _ => ?_
  have hle : (wire a.name.data.toList).length ≤ 509 := by
    have := wst_le a.name.data.toList
    rw [str_len] at this
    simp [wire]
    omega
  refine CodeJ.seq ?_
  refine CodeJ.region ?_
  refine OpsJ.op rfl ?_
  refine OpJ.box rfl rfl rfl rfl fun a1 ha1 => ?_
  refine OpsJ.yld rfl rfl rfl (Yld.assign rfl rfl) ?_
  refine OpsJ.nil ?_
  refine ExJ.thenN ?_
  refine CodeJ.seq ?_
  refine CodeJ.any (fuel := 12) (listed := #[false, false, false, false, false, false, false, false, false, false, false, false]) [0] rfl follows_mixed rfl rfl ?_
  refine AnyJ.take (fuel := 11) (listed' := #[true, false, false, false, false, false, false, false, false, false, false, false]) 0 rfl (by kernel_rfl) (by kernel_rfl) (by kernel_rfl) rfl rfl rfl rfl (Yld.fieldAddr fa_82_0 rfl rfl) (fun w hI => hI.pick (is := [0]) (by decide) rfl) ?_
  refine AnyJ.take (fuel := 10) (listed' := #[true, true, false, false, false, false, false, false, false, false, false, false]) 1 rfl (by kernel_rfl) (by kernel_rfl) (by kernel_rfl) rfl rfl rfl rfl (Yld.load1 rfl Tryd.underlying9 rfl rfl (fun w hI => Inv.cell1 hI (i := 0) rfl rfl)) (fun w hI => hI.pick (is := [0]) (by decide) rfl) ?_
  refine AnyJ.take (fuel := 9) (listed' := #[true, true, false, true, false, false, false, false, false, false, false, false]) 3 rfl (by kernel_rfl) (by kernel_rfl) (by kernel_rfl) rfl rfl rfl rfl (Yld.fieldAddr fa_82_1 rfl rfl) (fun w hI => hI.pick (is := [0]) (by decide) rfl) ?_
  refine AnyJ.take (fuel := 8) (listed' := #[true, true, false, true, true, false, false, false, false, false, false, false]) 4 rfl (by kernel_rfl) (by kernel_rfl) (by kernel_rfl) rfl rfl rfl rfl (Yld.load1 rfl Tryd.underlying22 rfl rfl (fun w hI => Inv.cell1 hI (i := 0) rfl rfl)) (fun w hI => hI.pick (is := [0]) (by decide) rfl) ?_
  refine AnyJ.take (fuel := 7) (listed' := #[true, true, false, true, true, false, true, false, false, false, false, false]) 6 rfl (by kernel_rfl) (by kernel_rfl) (by kernel_rfl) rfl rfl rfl rfl (Yld.fieldAddr fa_82_2 rfl rfl) (fun w hI => hI.pick (is := [0]) (by decide) rfl) ?_
  refine AnyJ.take (fuel := 6) (listed' := #[true, true, false, true, true, false, true, true, false, false, false, false]) 7 rfl (by kernel_rfl) (by kernel_rfl) (by kernel_rfl) rfl rfl rfl rfl (Yld.load1 rfl Tryd.underlying22 rfl rfl (fun w hI => Inv.cell1 hI (i := 0) rfl rfl)) (fun w hI => hI.pick (is := [0]) (by decide) rfl) ?_
  refine AnyJ.one (fuel := 5) 2 (by kernel_rfl) ?_
  refine StepJ.op (listed' := #[true, true, true, true, true, false, true, true, false, false, false, false]) rfl rfl rfl ?_
  refine OpJ.call (wire_spec _ (by omega)) has_65 rfl rfl rfl rfl rfl [] [0] (by decide) rfl rfl (fun _ _ => trivial) ?_
  rintro _ _ ⟨p5, c5, rfl, rfl⟩
  refine ⟨fun w hI => hI.pick (is := [1]) (by decide) rfl, ?_⟩
  refine AnyJ.one (fuel := 4) 5 (by kernel_rfl) ?_
  refine StepJ.op (listed' := #[true, true, true, true, true, true, true, true, false, false, false, false]) rfl rfl rfl ?_
  refine OpJ.call (two_spec _) has_67 rfl rfl rfl rfl rfl [] [0, 1] (by decide) rfl rfl (fun _ _ => trivial) ?_
  rintro _ _ ⟨p8, c8, rfl, rfl⟩
  refine ⟨fun w hI => hI.pick (is := [2]) (by decide) rfl, ?_⟩
  refine AnyJ.one (fuel := 3) 8 (by kernel_rfl) ?_
  refine StepJ.op (listed' := #[true, true, true, true, true, true, true, true, true, false, false, false]) rfl rfl rfl ?_
  refine OpJ.call (two_spec _) has_67 rfl rfl rfl rfl rfl [] [0, 1, 2] (by decide) rfl rfl (fun _ _ => trivial) ?_
  rintro _ _ ⟨p11, c11, rfl, rfl⟩
  refine ⟨fun w hI => hI.pick (is := [3]) (by decide) rfl, ?_⟩
  refine AnyJ.one (fuel := 2) 9 (by kernel_rfl) ?_
  refine StepJ.op (listed' := #[true, true, true, true, true, true, true, true, true, true, false, false]) rfl rfl rfl ?_
  refine OpJ.buildSlice (xs := [.tmp 5, .tmp 8, .tmp 11]) elt_162 rfl rfl rfl rfl rfl rfl (by rfl) (by decide) fun parts hparts => ?_
  refine ⟨fun w hI => hI.pick (is := [4]) (by decide) rfl, ?_⟩
  refine AnyJ.one (fuel := 1) 10 (by kernel_rfl) ?_
  refine StepJ.op (listed' := #[true, true, true, true, true, true, true, true, true, true, true, false]) rfl rfl rfl ?_
  refine OpJ.call (joined_spec _ [wire a.name.data.toList, be16 a.typ, be16 a.cls] (by simp [be16_len]; omega) (by simp)) has_66 rfl rfl rfl rfl rfl [] [0, 1, 2, 3, 4] (by decide) rfl rfl (Inv.parts (i := 0) rfl rfl ⟨Inv.bytes (k := 3) rfl, Inv.bytes (k := 2) rfl, Inv.bytes (k := 1) rfl, trivial⟩) ?_
  rintro _ _ ⟨p13, c13, rfl, rfl⟩
  refine ⟨fun w hI => hI.pick (is := [5]) (by decide) rfl, ?_⟩
  refine AnyJ.take (fuel := 0) (listed' := #[true, true, true, true, true, true, true, true, true, true, true, true]) 11 rfl (by kernel_rfl) (by kernel_rfl) (by kernel_rfl) rfl rfl rfl rfl (Yld.assign rfl rfl) (fun w hI => hI.pick (is := [5]) (by decide) rfl) ?_
  refine AnyJ.done (by kernel_rfl) ?_
  refine ExJ.thenN ?_
  refine CodeJ.ret ?_
  have he : askWire a = [wire a.name.data.toList, be16 a.typ, be16 a.cls].flatten := by simp [askWire]
  rw [he]
  exact ExJ.retB Tryd.results37 rfl fun w hI => hI.pick (is := [0]) (by decide) rfl

theorem headWire_spec (h : Hd) (hw : h.wf) (v : Value) (ns : List Nat) (hl : ns.length < 1000) :
    Spec Tryd.prog 36 [headV h, v] [] (fun w => Ints w v ns) (RetB 5 (headWire h ns)) := by
  refine Spec.of Tryd.func36 rfl Tryd.ntmps36 rfl fun w0 hv => ?_
  obtain ⟨pv, cv, rfl⟩ := hv.shape
  have hop : h.code < 65536 := hw.2.2
  refine CodeJ.seq ?_
  refine CodeJ.region ?_
  refine OpsJ.op rfl ?_
  refine OpJ.box rfl rfl rfl rfl fun hb hhb => ?_
  refine OpsJ.yld rfl rfl rfl (Yld.assign rfl rfl) ?_
  refine OpsJ.nil ?_
  refine ExJ.thenN ?_
  refine CodeJ.seq ?_
  refine CodeJ.any (fuel := 20) (listed := #[false, false, false, false, false, false, false, false, false, false, false, false, false, false, false, false, false, false, false, false]) [0] rfl follows_mixed rfl rfl ?_
  refine AnyJ.take (fuel := 19) (listed' := #[true, false, false, false, false, false, false, false, false, false, false, false, false, false, false, false, false, false, false, false]) 0 rfl (by kernel_rfl) (by kernel_rfl) (by kernel_rfl) rfl rfl rfl rfl (Yld.fieldAddr fa_36_1 rfl rfl) (fun w hI => hI.pick (is := [0]) (by decide) rfl) ?_
  refine AnyJ.take (fuel := 18) (listed' := #[true, true, false, false, false, false, false, false, false, false, false, false, false, false, false, false, false, false, false, false]) 1 rfl (by kernel_rfl) (by kernel_rfl) (by kernel_rfl) rfl rfl rfl rfl (Yld.load1 rfl Tryd.underlying4 rfl rfl (fun w hI => Inv.cell1 hI (i := 0) rfl rfl)) (fun w hI => hI.pick (is := [0]) (by decide) rfl) ?_
  refine AnyJ.take (fuel := 17) (listed' := #[true, true, false, true, false, false, false, false, false, false, false, false, false, false, false, false, false, false, false, false]) 3 rfl (by kernel_rfl) (by kernel_rfl) (by kernel_rfl) rfl rfl rfl rfl (Yld.fieldAddr fa_36_2 rfl rfl) (fun w hI => hI.pick (is := [0]) (by decide) rfl) ?_
  refine AnyJ.take (fuel := 16) (listed' := #[true, true, false, true, true, false, false, false, false, false, false, false, false, false, false, false, false, false, false, false]) 4 rfl (by kernel_rfl) (by kernel_rfl) (by kernel_rfl) rfl rfl rfl rfl (Yld.load1 rfl Tryd.underlying22 rfl rfl (fun w hI => Inv.cell1 hI (i := 0) rfl rfl)) (fun w hI => hI.pick (is := [0]) (by decide) rfl) ?_
  refine AnyJ.take (fuel := 15) (listed' := #[true, true, false, true, true, true, false, false, false, false, false, false, false, false, false, false, false, false, false, false]) 5 rfl (by kernel_rfl) (by kernel_rfl) (by kernel_rfl) rfl rfl rfl rfl (Yld.shl rfl rfl rfl (by decide)) (fun w hI => hI.pick (is := [0]) (by decide) rfl) ?_
  rw [u16_shl11]
  refine AnyJ.take (fuel := 14) (listed' := #[true, true, false, true, true, true, false, true, false, false, false, false, false, false, false, false, false, false, false, false]) 7 rfl (by kernel_rfl) (by kernel_rfl) (by kernel_rfl) rfl rfl rfl rfl (Yld.fieldAddr fa_36_3 rfl rfl) (fun w hI => hI.pick (is := [0]) (by decide) rfl) ?_
  refine AnyJ.take (fuel := 13) (listed' := #[true, true, false, true, true, true, false, true, true, false, false, false, false, false, false, false, false, false, false, false]) 8 rfl (by kernel_rfl) (by kernel_rfl) (by kernel_rfl) rfl rfl rfl rfl (Yld.load1 rfl Tryd.underlying4 rfl rfl (fun w hI => Inv.cell1 hI (i := 0) rfl rfl)) (fun w hI => hI.pick (is := [0]) (by decide) rfl) ?_
  refine AnyJ.take (fuel := 12) (listed' := #[true, true, false, true, true, true, false, true, true, false, false, true, false, false, false, false, false, false, false, false]) 11 rfl (by kernel_rfl) (by kernel_rfl) (by kernel_rfl) rfl rfl rfl rfl (Yld.fieldAddr fa_36_4 rfl rfl) (fun w hI => hI.pick (is := [0]) (by decide) rfl) ?_
  refine AnyJ.take (fuel := 11) (listed' := #[true, true, false, true, true, true, false, true, true, false, false, true, true, false, false, false, false, false, false, false]) 12 rfl (by kernel_rfl) (by kernel_rfl) (by kernel_rfl) rfl rfl rfl rfl (Yld.load1 rfl Tryd.underlying4 rfl rfl (fun w hI => Inv.cell1 hI (i := 0) rfl rfl)) (fun w hI => hI.pick (is := [0]) (by decide) rfl) ?_
  refine AnyJ.take (fuel := 10) (listed' := #[true, true, false, true, true, true, false, true, true, false, false, true, true, false, false, true, false, false, false, false]) 15 rfl (by kernel_rfl) (by kernel_rfl) (by kernel_rfl) rfl rfl rfl rfl (Yld.fieldAddr fa_36_5 rfl rfl) (fun w hI => hI.pick (is := [0]) (by decide) rfl) ?_
  refine AnyJ.take (fuel := 9) (listed' := #[true, true, false, true, true, true, false, true, true, false, false, true, true, false, false, true, true, false, false, false]) 16 rfl (by kernel_rfl) (by kernel_rfl) (by kernel_rfl) rfl rfl rfl rfl (Yld.load1 rfl Tryd.underlying4 rfl rfl (fun w hI => Inv.cell1 hI (i := 0) rfl rfl)) (fun w hI => hI.pick (is := [0]) (by decide) rfl) ?_
  refine AnyJ.one (fuel := 8) 2 (by kernel_rfl) ?_
  refine StepJ.op (listed' := #[true, true, true, true, true, true, false, true, true, false, false, true, true, false, false, true, true, false, false, false]) rfl rfl rfl ?_
  refine OpJ.call (flag_spec _ 32768) has_70 rfl rfl rfl rfl rfl [] [0] (by decide) rfl rfl (fun _ _ => trivial) ?_
  rintro _ _ ⟨rfl, rfl⟩
  refine ⟨fun w hI => hI.pick (is := [0]) (by decide) rfl, ?_⟩
  refine AnyJ.take (fuel := 7) (listed' := #[true, true, true, true, true, true, true, true, true, false, false, true, true, false, false, true, true, false, false, false]) 6 rfl (by kernel_rfl) (by kernel_rfl) (by kernel_rfl) rfl rfl rfl rfl (Yld.intBin rfl rfl rfl rfl) (fun w hI => hI.pick (is := [0]) (by decide) rfl) ?_
  rw [u16_or (flagN h.qr 32768) (h.op * 2048 % 65536) (by repeat (first | assumption | exact flagN_lt _ _ (by decide) | exact Nat.mod_lt _ (by decide) | apply or_lt)) (by repeat (first | assumption | exact flagN_lt _ _ (by decide) | exact Nat.mod_lt _ (by decide) | apply or_lt))]
  refine AnyJ.one (fuel := 6) 9 (by kernel_rfl) ?_
  refine StepJ.op (listed' := #[true, true, true, true, true, true, true, true, true, true, false, true, true, false, false, true, true, false, false, false]) rfl rfl rfl ?_
  refine OpJ.call (flag_spec _ 1024) has_70 rfl rfl rfl rfl rfl [] [0] (by decide) rfl rfl (fun _ _ => trivial) ?_
  rintro _ _ ⟨rfl, rfl⟩
  refine ⟨fun w hI => hI.pick (is := [0]) (by decide) rfl, ?_⟩
  refine AnyJ.take (fuel := 5) (listed' := #[true, true, true, true, true, true, true, true, true, true, true, true, true, false, false, true, true, false, false, false]) 10 rfl (by kernel_rfl) (by kernel_rfl) (by kernel_rfl) rfl rfl rfl rfl (Yld.intBin rfl rfl rfl rfl) (fun w hI => hI.pick (is := [0]) (by decide) rfl) ?_
  rw [u16_or (flagN h.qr 32768 ||| h.op * 2048 % 65536) (flagN h.aa 1024) (by repeat (first | assumption | exact flagN_lt _ _ (by decide) | exact Nat.mod_lt _ (by decide) | apply or_lt)) (by repeat (first | assumption | exact flagN_lt _ _ (by decide) | exact Nat.mod_lt _ (by decide) | apply or_lt))]
  refine AnyJ.one (fuel := 4) 13 (by kernel_rfl) ?_
  refine StepJ.op (listed' := #[true, true, true, true, true, true, true, true, true, true, true, true, true, true, false, true, true, false, false, false]) rfl rfl rfl ?_
  refine OpJ.call (flag_spec _ 512) has_70 rfl rfl rfl rfl rfl [] [0] (by decide) rfl rfl (fun _ _ => trivial) ?_
  rintro _ _ ⟨rfl, rfl⟩
  refine ⟨fun w hI => hI.pick (is := [0]) (by decide) rfl, ?_⟩
  refine AnyJ.take (fuel := 3) (listed' := #[true, true, true, true, true, true, true, true, true, true, true, true, true, true, true, true, true, false, false, false]) 14 rfl (by kernel_rfl) (by kernel_rfl) (by kernel_rfl) rfl rfl rfl rfl (Yld.intBin rfl rfl rfl rfl) (fun w hI => hI.pick (is := [0]) (by decide) rfl) ?_
  rw [u16_or (flagN h.qr 32768 ||| h.op * 2048 % 65536 ||| flagN h.aa 1024) (flagN h.tc 512) (by repeat (first | assumption | exact flagN_lt _ _ (by decide) | exact Nat.mod_lt _ (by decide) | apply or_lt)) (by repeat (first | assumption | exact flagN_lt _ _ (by decide) | exact Nat.mod_lt _ (by decide) | apply or_lt))]
  refine AnyJ.one (fuel := 2) 17 (by kernel_rfl) ?_
  refine StepJ.op (listed' := #[true, true, true, true, true, true, true, true, true, true, true, true, true, true, true, true, true, true, false, false]) rfl rfl rfl ?_
  refine OpJ.call (flag_spec _ 256) has_70 rfl rfl rfl rfl rfl [] [0] (by decide) rfl rfl (fun _ _ => trivial) ?_
  rintro _ _ ⟨rfl, rfl⟩
  refine ⟨fun w hI => hI.pick (is := [0]) (by decide) rfl, ?_⟩
  refine AnyJ.take (fuel := 1) (listed' := #[true, true, true, true, true, true, true, true, true, true, true, true, true, true, true, true, true, true, true, false]) 18 rfl (by kernel_rfl) (by kernel_rfl) (by kernel_rfl) rfl rfl rfl rfl (Yld.intBin rfl rfl rfl rfl) (fun w hI => hI.pick (is := [0]) (by decide) rfl) ?_
  rw [u16_or (flagN h.qr 32768 ||| h.op * 2048 % 65536 ||| flagN h.aa 1024 ||| flagN h.tc 512) (flagN h.rd 256) (by repeat (first | assumption | exact flagN_lt _ _ (by decide) | exact Nat.mod_lt _ (by decide) | apply or_lt)) (by repeat (first | assumption | exact flagN_lt _ _ (by decide) | exact Nat.mod_lt _ (by decide) | apply or_lt))]
  refine AnyJ.take (fuel := 0) (listed' := #[true, true, true, true, true, true, true, true, true, true, true, true, true, true, true, true, true, true, true, true]) 19 rfl (by kernel_rfl) (by kernel_rfl) (by kernel_rfl) rfl rfl rfl rfl (Yld.assign rfl rfl) (fun w hI => hI.pick (is := [0]) (by decide) rfl) ?_
  refine AnyJ.done (by kernel_rfl) ?_
  refine ExJ.thenN ?_
  refine CodeJ.seq ?_
  refine CodeJ.any (fuel := 17) (listed := #[false, false, false, false, false, false, false, false, false, false, false, false, false, false, false, false, false]) [0] rfl follows_mixed rfl rfl ?_
  refine AnyJ.take (fuel := 16) (listed' := #[true, false, false, false, false, false, false, false, false, false, false, false, false, false, false, false, false]) 0 rfl (by kernel_rfl) (by kernel_rfl) (by kernel_rfl) rfl rfl rfl rfl (Yld.move rfl rfl) (fun w hI => hI.pick (is := [0]) (by decide) rfl) ?_
  refine AnyJ.take (fuel := 15) (listed' := #[true, true, false, false, false, false, false, false, false, false, false, false, false, false, false, false, false]) 1 rfl (by kernel_rfl) (by kernel_rfl) (by kernel_rfl) rfl rfl rfl rfl (Yld.fieldAddr fa_36_6 rfl rfl) (fun w hI => hI.pick (is := [0]) (by decide) rfl) ?_
  refine AnyJ.take (fuel := 14) (listed' := #[true, true, true, false, false, false, false, false, false, false, false, false, false, false, false, false, false]) 2 rfl (by kernel_rfl) (by kernel_rfl) (by kernel_rfl) rfl rfl rfl rfl (Yld.load1 rfl Tryd.underlying4 rfl rfl (fun w hI => Inv.cell1 hI (i := 0) rfl rfl)) (fun w hI => hI.pick (is := [0]) (by decide) rfl) ?_
  refine AnyJ.take (fuel := 13) (listed' := #[true, true, true, false, true, false, false, false, false, false, false, false, false, false, false, false, false]) 4 rfl (by kernel_rfl) (by kernel_rfl) (by kernel_rfl) rfl rfl rfl rfl (Yld.fieldAddr fa_36_7 rfl rfl) (fun w hI => hI.pick (is := [0]) (by decide) rfl) ?_
  refine AnyJ.take (fuel := 12) (listed' := #[true, true, true, false, true, true, false, false, false, false, false, false, false, false, false, false, false]) 5 rfl (by kernel_rfl) (by kernel_rfl) (by kernel_rfl) rfl rfl rfl rfl (Yld.load1 rfl Tryd.underlying4 rfl rfl (fun w hI => Inv.cell1 hI (i := 0) rfl rfl)) (fun w hI => hI.pick (is := [0]) (by decide) rfl) ?_
  refine AnyJ.take (fuel := 11) (listed' := #[true, true, true, false, true, true, false, false, true, false, false, false, false, false, false, false, false]) 8 rfl (by kernel_rfl) (by kernel_rfl) (by kernel_rfl) rfl rfl rfl rfl (Yld.fieldAddr fa_36_8 rfl rfl) (fun w hI => hI.pick (is := [0]) (by decide) rfl) ?_
  refine AnyJ.take (fuel := 10) (listed' := #[true, true, true, false, true, true, false, false, true, true, false, false, false, false, false, false, false]) 9 rfl (by kernel_rfl) (by kernel_rfl) (by kernel_rfl) rfl rfl rfl rfl (Yld.load1 rfl Tryd.underlying4 rfl rfl (fun w hI => Inv.cell1 hI (i := 0) rfl rfl)) (fun w hI => hI.pick (is := [0]) (by decide) rfl) ?_
  refine AnyJ.take (fuel := 9) (listed' := #[true, true, true, false, true, true, false, false, true, true, false, false, true, false, false, false, false]) 12 rfl (by kernel_rfl) (by kernel_rfl) (by kernel_rfl) rfl rfl rfl rfl (Yld.fieldAddr fa_36_9 rfl rfl) (fun w hI => hI.pick (is := [0]) (by decide) rfl) ?_
  refine AnyJ.take (fuel := 8) (listed' := #[true, true, true, false, true, true, false, false, true, true, false, false, true, true, false, false, false]) 13 rfl (by kernel_rfl) (by kernel_rfl) (by kernel_rfl) rfl rfl rfl rfl (Yld.load1 rfl Tryd.underlying22 rfl rfl (fun w hI => Inv.cell1 hI (i := 0) rfl rfl)) (fun w hI => hI.pick (is := [0]) (by decide) rfl) ?_
  refine AnyJ.one (fuel := 7) 3 (by kernel_rfl) ?_
  refine StepJ.op (listed' := #[true, true, true, true, true, true, false, false, true, true, false, false, true, true, false, false, false]) rfl rfl rfl ?_
  refine OpJ.call (flag_spec _ 128) has_70 rfl rfl rfl rfl rfl [] [0] (by decide) rfl rfl (fun _ _ => trivial) ?_
  rintro _ _ ⟨rfl, rfl⟩
  refine ⟨fun w hI => hI.pick (is := [0]) (by decide) rfl, ?_⟩
  refine AnyJ.one (fuel := 6) 6 (by kernel_rfl) ?_
  refine StepJ.op (listed' := #[true, true, true, true, true, true, true, false, true, true, false, false, true, true, false, false, false]) rfl rfl rfl ?_
  refine OpJ.call (flag_spec _ 32) has_70 rfl rfl rfl rfl rfl [] [0] (by decide) rfl rfl (fun _ _ => trivial) ?_
  rintro _ _ ⟨rfl, rfl⟩
  refine ⟨fun w hI => hI.pick (is := [0]) (by decide) rfl, ?_⟩
  refine AnyJ.take (fuel := 5) (listed' := #[true, true, true, true, true, true, true, true, true, true, false, false, true, true, false, false, false]) 7 rfl (by kernel_rfl) (by kernel_rfl) (by kernel_rfl) rfl rfl rfl rfl (Yld.intBin rfl rfl rfl rfl) (fun w hI => hI.pick (is := [0]) (by decide) rfl) ?_
  rw [u16_or (flagN h.ra 128) (flagN h.ad 32) (by repeat (first | assumption | exact flagN_lt _ _ (by decide) | exact Nat.mod_lt _ (by decide) | apply or_lt)) (by repeat (first | assumption | exact flagN_lt _ _ (by decide) | exact Nat.mod_lt _ (by decide) | apply or_lt))]
  refine AnyJ.one (fuel := 4) 10 (by kernel_rfl) ?_
  refine StepJ.op (listed' := #[true, true, true, true, true, true, true, true, true, true, true, false, true, true, false, false, false]) rfl rfl rfl ?_
  refine OpJ.call (flag_spec _ 16) has_70 rfl rfl rfl rfl rfl [] [0] (by decide) rfl rfl (fun _ _ => trivial) ?_
  rintro _ _ ⟨rfl, rfl⟩
  refine ⟨fun w hI => hI.pick (is := [0]) (by decide) rfl, ?_⟩
  refine AnyJ.take (fuel := 3) (listed' := #[true, true, true, true, true, true, true, true, true, true, true, true, true, true, false, false, false]) 11 rfl (by kernel_rfl) (by kernel_rfl) (by kernel_rfl) rfl rfl rfl rfl (Yld.intBin rfl rfl rfl rfl) (fun w hI => hI.pick (is := [0]) (by decide) rfl) ?_
  rw [u16_or (flagN h.ra 128 ||| flagN h.ad 32) (flagN h.cd 16) (by repeat (first | assumption | exact flagN_lt _ _ (by decide) | exact Nat.mod_lt _ (by decide) | apply or_lt)) (by repeat (first | assumption | exact flagN_lt _ _ (by decide) | exact Nat.mod_lt _ (by decide) | apply or_lt))]
  refine AnyJ.take (fuel := 2) (listed' := #[true, true, true, true, true, true, true, true, true, true, true, true, true, true, true, false, false]) 14 rfl (by kernel_rfl) (by kernel_rfl) (by kernel_rfl) rfl rfl rfl rfl (Yld.intBin rfl rfl rfl rfl) (fun w hI => hI.pick (is := [0]) (by decide) rfl) ?_
  rw [u16_or (flagN h.ra 128 ||| flagN h.ad 32 ||| flagN h.cd 16) (h.code) (by repeat (first | assumption | exact flagN_lt _ _ (by decide) | exact Nat.mod_lt _ (by decide) | apply or_lt)) (by repeat (first | assumption | exact flagN_lt _ _ (by decide) | exact Nat.mod_lt _ (by decide) | apply or_lt))]
  refine AnyJ.take (fuel := 1) (listed' := #[true, true, true, true, true, true, true, true, true, true, true, true, true, true, true, true, false]) 15 rfl (by kernel_rfl) (by kernel_rfl) (by kernel_rfl) rfl rfl rfl rfl (Yld.intBin rfl rfl rfl rfl) (fun w hI => hI.pick (is := [0]) (by decide) rfl) ?_
  rw [u16_or (flagN h.qr 32768 ||| h.op * 2048 % 65536 ||| flagN h.aa 1024 ||| flagN h.tc 512 ||| flagN h.rd 256) (flagN h.ra 128 ||| flagN h.ad 32 ||| flagN h.cd 16 ||| h.code) (by repeat (first | assumption | exact flagN_lt _ _ (by decide) | exact Nat.mod_lt _ (by decide) | apply or_lt)) (by repeat (first | assumption | exact flagN_lt _ _ (by decide) | exact Nat.mod_lt _ (by decide) | apply or_lt))]
  refine AnyJ.take (fuel := 0) (listed' := #[true, true, true, true, true, true, true, true, true, true, true, true, true, true, true, true, true]) 16 rfl (by kernel_rfl) (by kernel_rfl) (by kernel_rfl) rfl rfl rfl rfl (Yld.assign rfl rfl) (fun w hI => hI.pick (is := [0]) (by decide) rfl) ?_
  refine AnyJ.done (by kernel_rfl) ?_
  refine ExJ.thenN ?_
  refine CodeJ.seq ?_
  refine CodeJ.region ?_
  refine OpsJ.yld rfl rfl rfl (Yld.fieldAddr fa_36_0 rfl rfl) ?_
  refine OpsJ.yld rfl rfl rfl (Yld.load1 rfl Tryd.underlying22 rfl rfl (fun w hI => Inv.cell1 hI (i := 0) rfl rfl)) ?_
  refine OpsJ.op rfl ?_
  refine OpJ.call (two_spec _) has_67 rfl rfl rfl rfl rfl [] [0] (by decide) rfl rfl (fun _ _ => trivial) ?_
  rintro _ _ ⟨p46, c46, rfl, rfl⟩
  refine OpsJ.yld rfl rfl rfl (Yld.move rfl rfl) ?_
  refine OpsJ.op rfl ?_
  refine OpJ.call (two_spec _) has_67 rfl rfl rfl rfl rfl [] [0, 1] (by decide) rfl rfl (fun _ _ => trivial) ?_
  rintro _ _ ⟨p48, c48, rfl, rfl⟩
  refine OpsJ.op rfl ?_
  refine OpJ.buildSlice (xs := [.tmp 46, .tmp 48]) elt_162 rfl rfl rfl rfl rfl rfl (by rfl) (by decide) fun parts hparts => ?_
  refine OpsJ.op rfl ?_
  refine OpJ.call (joined_spec _ [be16 h.id, be16 h.bits] (by simp [be16_len]) (by simp)) has_66 rfl rfl rfl rfl rfl [] [0, 1, 2, 3] (by decide) rfl rfl (Inv.parts (i := 0) rfl rfl ⟨Inv.bytes (k := 2) rfl, Inv.bytes (k := 1) rfl, trivial⟩) ?_
  rintro _ _ ⟨p50, c50, rfl, rfl⟩
  refine OpsJ.yld rfl rfl rfl (Yld.assign rfl rfl) ?_
  refine OpsJ.nil ?_
  refine ExJ.thenN ?_
  refine CodeJ.seq ?_
  refine CodeJ.seq ?_
  refine CodeJ.region ?_
  refine OpsJ.yld rfl rfl rfl (Yld.move rfl rfl) ?_
  refine OpsJ.yld rfl rfl rfl (Yld.lenSlice rfl rfl rfl Tryd.underlying45 rfl) ?_
  refine OpsJ.yld rfl rfl rfl (Yld.move rfl rfl) ?_
  refine OpsJ.nil ?_
  refine ExJ.thenN ?_
  refine CodeJ.block ?_
  refine CodeJ.loopP (fun L H m => ∃ (k : Nat) (p : Option Addr) (q : Nat), k ≤ ns.length ∧ L = [(6, .slice p (headWire h (ns.take k)).length q), (51, .slice pv ns.length cv), (52, .int .i64 ns.length), (53, .int .i64 k)] ∧ H = [ownB 5 (.slice p (headWire h (ns.take k)).length q) (headWire h (ns.take k))] ∧ m = ns.length - k) ⟨0, p50, c50, Nat.zero_le _, rfl, rfl, rfl⟩ ⟨rfl, rfl, rfl, rfl, trivial⟩ (fun w hI => hI.pick (is := [0]) (by decide) rfl) ?_
  rintro _ _ _ ⟨k, p, q, hk, rfl, rfl, rfl⟩
  refine CodeJ.seq ?_
  refine CodeJ.region ?_
  refine OpsJ.yld rfl rfl rfl (Yld.intBin rfl rfl rfl rfl) ?_
  refine OpsJ.nil ?_
  refine ExJ.thenN ?_
  refine CodeJ.seq ?_
  refine CodeJ.condP rfl (fun c54 => ?_) (fun c54 => ?_)
  · have hk' : k < ns.length := by omega
    obtain ⟨x, hx⟩ : ∃ x, ns[k]? = some x := ⟨ns[k], List.getElem?_eq_getElem hk'⟩
    have hnx : headWire h (ns.take (k + 1)) = headWire h (ns.take k) ++ be16 (x % 65536) := by
      rw [take_snoc _ _ _ hx]
      simp [headWire]
    obtain ⟨b, off, c, hpv, hcell⟩ := Row.at (xss := ns.map fun k => [Value.int .i64 (k : Nat)]) (by rw [List.map_flatten_single]; exact hv) (by simp) (by simp) hk'
    simp only [Value.slice.injEq] at hpv
    obtain ⟨rfl, _, rfl⟩ := hpv
    have hcx := hcell [.int .i64 (x : Nat)] (by simp [hx])
    have hlen : (headWire h (ns.take k)).length ≤ 3000 := by
      rw [headWire_len, List.length_take]
      omega
    refine CodeJ.skip ?_
    refine ExJ.thenN ?_
    refine CodeJ.seq ?_
    refine CodeJ.block ?_
    refine CodeJ.seq ?_
    refine CodeJ.region ?_
    refine OpsJ.yld rfl rfl rfl (Yld.indexAddr rfl Tryd.underlying45 sz_3 rfl rfl hk') ?_
    refine OpsJ.yld rfl rfl rfl (Yld.load1 rfl Tryd.underlying3 rfl rfl (fun w hI => hI.old hcx (by simp [fp]))) ?_
    refine OpsJ.yld rfl rfl rfl (Yld.assign rfl rfl) ?_
    refine OpsJ.nil ?_
    refine ExJ.thenN ?_
    refine CodeJ.region ?_
    refine OpsJ.yld rfl rfl rfl (Yld.move rfl rfl) ?_
    refine OpsJ.yld rfl rfl rfl (Yld.move rfl rfl) ?_
    refine OpsJ.yld rfl rfl rfl (Yld.convInt rfl Tryd.underlying3 Tryd.underlying22 rfl) ?_
    rw [u16_wrap]
    refine OpsJ.op rfl ?_
    refine OpJ.call (two_spec _) has_67 rfl rfl rfl rfl rfl [] [0] (by decide) rfl rfl (fun _ _ => trivial) ?_
    rintro _ _ ⟨p60, c60, rfl, rfl⟩
    refine OpsJ.op rfl ?_
    refine OpJ.appendO (i := 1) elt_31 rfl rfl rfl rfl rfl rfl (fun w hI => Bytes.src (Inv.bytes (k := 0) rfl w hI) Tryd.underlying31) (by rw [be16_len]; omega) fun p61 c61 => ?_
    refine OpsJ.yld rfl rfl rfl (Yld.assign rfl rfl) ?_
    refine OpsJ.nil ?_
    refine ExJ.blockN ?_
    refine ExJ.thenN ?_
    refine CodeJ.region ?_
    refine OpsJ.yld rfl rfl rfl (Yld.intBin rfl rfl rfl rfl) ?_
    rw [i64_succ k (by omega)]
    refine OpsJ.yld rfl rfl rfl (Yld.move rfl rfl) ?_
    refine OpsJ.nil ?_
    exact ExJ.againP ⟨k + 1, p61, c61, by omega, rfl, rfl, rfl⟩ (by omega) ⟨by rw [hnx]; rfl, rfl, rfl, rfl, trivial⟩ fun w hI => by rw [hnx]; exact hI.pick (is := [1]) (by decide) rfl
  · obtain rfl : k = ns.length := by omega
    rw [List.take_length]
    refine CodeJ.exit ?_
    refine ExJ.thenX ?_
    refine ExJ.thenX ?_
    refine ExJ.blockHit ?_
    refine ExJ.thenN ?_
    refine CodeJ.seq ?_
    refine CodeJ.region ?_
    refine OpsJ.yld rfl rfl rfl (Yld.move rfl rfl) ?_
    refine OpsJ.yld rfl rfl rfl (Yld.assign rfl rfl) ?_
    refine OpsJ.nil ?_
    refine ExJ.thenN ?_
    refine CodeJ.ret ?_
    exact ExJ.retB Tryd.results36 rfl fun w hI => hI
end Go.Proofs.YtamobccbioafmaaDoor

/-
  Contracts of the reference's Ok and MessageWire, given those of the bodies.
-/
namespace Go.Proofs.YtamobccbioafmaaDoor
open Go
set_option maxRecDepth 100000

/-- how the bodies of records of a kind are written, and when they can be -/
structure Kind where
  ok : RecD → Bool
  body : RecD → List UInt8
  typ : RecD → Nat
def Kind.recOk (K : Kind) (r : RecD) : Bool := nameOk r.name.data.toList && K.ok r
def Kind.total (K : Kind) (rs : List RecD) : Nat := (rs.map fun r => (K.body r).length).sum
def Kind.okB (K : Kind) (m : MsgD) : Bool :=
  m.asks.all (fun a => nameOk a.name.data.toList) && m.one.all K.recOk && m.two.all K.recOk && m.three.all K.recOk && m.head.ok && decide (m.asks.length < 60000) && decide (m.one.length < 60000) && decide (m.two.length < 60000) && decide (m.three.length < 60000) &&
    decide (K.total (m.one ++ m.two ++ m.three) < 16777216)
def Kind.recWire (K : Kind) (r : RecD) : List UInt8 := wire r.name.data.toList ++ be16 (K.typ r) ++ be16 r.cls ++ (be16 (r.ttl / 65536 % 65536) ++ be16 (r.ttl % 65536)) ++ be16 ((K.body r).length % 65536) ++ K.body r
def Kind.wire (K : Kind) (m : MsgD) : List UInt8 :=
  headWire m.head [m.asks.length, m.one.length, m.two.length, m.three.length] ++ (m.asks.map askWire).flatten ++ ((m.one ++ m.two ++ m.three).map K.recWire).flatten

/-- the contracts that a kind's bodies meet -/
structure Kind.Meets (K : Kind) (rs : List RecD) : Prop where
  ok : ∀ r ∈ rs, Spec Tryd.prog 33 [r.val] [] (fun w => RecOk w r) (fun x H' => x = .bool (K.ok r) ∧ H' = [])
  body : ∀ r ∈ rs, K.ok r = true → Spec Tryd.prog 34 [r.val] [] (fun w => RecOk w r) (RetB 5 (K.body r))
  len : ∀ r ∈ rs, K.ok r = true → (K.body r).length < 65536
theorem Kind.meets_nil (K : Kind) : K.Meets [] := ⟨fun _ h => (by cases h), fun _ h => (by cases h), fun _ h => (by cases h)⟩

theorem total_append (K : Kind) (a b : List RecD) : K.total (a ++ b) = K.total a + K.total b := by simp [Kind.total]
theorem total_le (K : Kind) : ∀ rs : List RecD, (∀ r ∈ rs, (K.body r).length < 65536) → K.total rs ≤ 65536 * rs.length
  | [], _ => by simp [Kind.total]
  | r :: rs, h => by
    have h1 := h r (by simp)
    have h2 := total_le K rs fun x hx => h x (by simp [hx])
    simp only [Kind.total, List.map_cons, List.sum_cons, List.length_cons] at *
    omega
theorem all_take_succ {α : Type} (p : α → Bool) (l : List α) (k : Nat) (x : α) (hx : l[k]? = some x) (h : (l.take k).all p = true) (hp : p x = true) : (l.take (k + 1)).all p = true := by
  rw [take_snoc _ _ _ hx, List.all_append, h]
  simp [hp]
theorem all_false {α : Type} (p : α → Bool) (l : List α) (k : Nat) (x : α) (hx : l[k]? = some x) (hp : p x = false) : l.all p = false := by
  rw [List.all_eq_false]
  exact ⟨x, List.mem_of_getElem? hx, by simp [hp]⟩
theorem i64_add (x y : Nat) (h : x + y ≤ 9223372036854775807) : IntKind.i64.wrap ((x : Int) + (y : Int)) = ((x + y : Nat) : Int) := by
  rw [← i64_wrap (x + y) h]
  rfl

theorem okB_false (K : Kind) (m : MsgD) (h : (m.one ++ m.two ++ m.three).all K.recOk = false) : K.okB m = false := by
  rw [List.all_append, List.all_append] at h
  unfold Kind.okB
  cases h1 : m.one.all K.recOk <;> cases h2 : m.two.all K.recOk <;> cases h3 : m.three.all K.recOk <;> simp_all
theorem okB_rest (K : Kind) (m : MsgD) (ha : m.asks.all (fun a => nameOk a.name.data.toList) = true) (h : (m.one ++ m.two ++ m.three).all K.recOk = true) :
    K.okB m = (m.head.ok && decide (m.asks.length < 60000) && decide (m.one.length < 60000) && decide (m.two.length < 60000) && decide (m.three.length < 60000) && decide (K.total (m.one ++ m.two ++ m.three) < 16777216)) := by
  rw [List.all_append, List.all_append] at h
  simp only [Bool.and_eq_true] at h
  unfold Kind.okB
  rw [ha, h.1.1, h.1.2, h.2]
  simp

theorem ok_spec (K : Kind) (m : MsgD) (hK : K.Meets (m.one ++ m.two ++ m.three)) (hn : ∀ a ∈ m.asks, a.name.size ≤ 140737488355328) (hr : ∀ r ∈ m.one ++ m.two ++ m.three, r.name.size ≤ 140737488355328)
    (hc : m.asks.length + m.one.length + m.two.length + m.three.length ≤ 17592186044416) :
    Spec Tryd.prog 14 [m.val] [] (fun w => MsgOk w m) (fun x H' => x = .bool (K.okB m) ∧ H' = []) := by
  refine Spec.of Tryd.func14 rfl Tryd.ntmps14 rfl fun w0 hm => ?_
  obtain ⟨pa, ca, hva⟩ := hm.asks.shape
  obtain ⟨p1, c1, hv1⟩ := hm.one.1.shape
  obtain ⟨p2, c2, hv2⟩ := hm.two.1.shape
  obtain ⟨p3, c3, hv3⟩ := hm.three.1.shape
  obtain ⟨hd, asksV, qs, oneV, one, twoV, two, threeV, three⟩ := m
  simp only at hva hv1 hv2 hv3 hn hr hc hK
  subst hva hv1 hv2 hv3
  have hma : Asks w0 (.slice pa qs.length ca) qs := hm.asks
  have hrecsAt : ∀ (k : Nat) (v : Value) (l : List RecD), [Value.slice p1 one.length c1, .slice p2 two.length c2, .slice p3 three.length c3][k]? = some v → [one, two, three][k]? = some l → Recs w0 v l ∧ ∃ p c, v = .slice p l.length c := by
    intro k v l h1 h2
    match k with
    | 0 => simp at h1 h2; subst h1 h2; exact ⟨hm.one, _, _, rfl⟩
    | 1 => simp at h1 h2; subst h1 h2; exact ⟨hm.two, _, _, rfl⟩
    | 2 => simp at h1 h2; subst h1 h2; exact ⟨hm.three, _, _, rfl⟩
    | k + 3 => simp at h1
  have hsub : ∀ (k : Nat) (l : List RecD), [one, two, three][k]? = some l → ∀ r ∈ l, r ∈ one ++ two ++ three := by
    intro k l h2 r hr
    match k with
    | 0 => simp at h2; subst h2; simp [hr]
    | 1 => simp at h2; subst h2; simp [hr]
    | 2 => simp at h2; subst h2; simp [hr]
    | k + 3 => simp at h2
  refine CodeJ.seq ?_
  refine CodeJ.region ?_
  refine OpsJ.op rfl ?_
  refine OpJ.box rfl rfl rfl rfl fun mb hmb => ?_
  refine OpsJ.yld rfl rfl rfl (Yld.assign rfl rfl) ?_
  refine OpsJ.nil ?_
  refine ExJ.thenN ?_
  refine CodeJ.seq ?_
  refine CodeJ.region ?_
  refine OpsJ.yld rfl rfl rfl (Yld.assign rfl rfl) ?_
  refine OpsJ.nil ?_
  refine ExJ.thenN ?_
  refine CodeJ.seq ?_
  refine CodeJ.seq ?_
  refine CodeJ.region ?_
  refine OpsJ.yld rfl rfl rfl (Yld.fieldAddr fa_40_1 rfl rfl) ?_
  refine OpsJ.yld rfl rfl rfl (Yld.load1 rfl Tryd.underlying37 rfl rfl (fun w hI => Inv.cell1 hI (i := 0) rfl rfl)) ?_
  refine OpsJ.yld rfl rfl rfl (Yld.lenSlice rfl rfl rfl Tryd.underlying37 rfl) ?_
  refine OpsJ.yld rfl rfl rfl (Yld.move rfl rfl) ?_
  refine OpsJ.nil ?_
  refine ExJ.thenN ?_
  refine CodeJ.block ?_
  refine CodeJ.loopP (fun L H m => ∃ k : Nat, k ≤ qs.length ∧ (qs.take k).all (fun a => nameOk a.name.data.toList) = true ∧ L = [(1, .pointer (some ⟨mb, 0, none⟩)), (3, .int .i64 0), (11, .slice pa qs.length ca), (12, .int .i64 qs.length), (13, .int .i64 k)] ∧ H = [.blk mb (MsgD.cells ⟨hd, .slice pa qs.length ca, qs, .slice p1 one.length c1, one, .slice p2 two.length c2, two, .slice p3 three.length c3, three⟩).toArray 40] ∧ m = qs.length - k) ⟨0, Nat.zero_le _, rfl, rfl, rfl, rfl⟩ ⟨rfl, rfl, rfl, rfl, rfl, trivial⟩ (fun w hI => hI) ?_
  rintro _ _ _ ⟨k, hk, hall, rfl, rfl, rfl⟩
  refine CodeJ.seq ?_
  refine CodeJ.region ?_
  refine OpsJ.yld rfl rfl rfl (Yld.intBin rfl rfl rfl rfl) ?_
  refine OpsJ.nil ?_
  refine ExJ.thenN ?_
  refine CodeJ.seq ?_
  refine CodeJ.condP rfl (fun c14 => ?_) (fun c14 => ?_)
  · have hk' : k < qs.length := by omega
    obtain ⟨x, hx⟩ : ∃ x, qs[k]? = some x := ⟨qs[k], List.getElem?_eq_getElem hk'⟩
    obtain ⟨b, off, c, hpv, hcell⟩ := Row.at hma (by simp [AskD.cells]) (by simp) hk'
    simp only [Value.slice.injEq] at hpv
    obtain ⟨rfl, _, rfl⟩ := hpv
    have hcx := hcell x.cells (by simp [hx])
    refine CodeJ.skip ?_
    refine ExJ.thenN ?_
    refine CodeJ.seq ?_
    refine CodeJ.block ?_
    refine CodeJ.seq ?_
    refine CodeJ.region ?_
    refine OpsJ.yld rfl rfl rfl (Yld.indexAddr rfl Tryd.underlying37 sz_82 rfl rfl hk') ?_
    refine OpsJ.yld rfl rfl rfl (Yld.loadN (vs := x.cells) rfl Tryd.underlying82 rfl sz_82 rfl (fun w hI => hI.old hcx (by simp [fp]))) ?_
    refine OpsJ.op rfl ?_
    refine OpJ.alloc rfl rfl rfl zero_82 fun ab hab => ?_
    refine OpsJ.op rfl ?_
    refine OpJ.storeW (i := 0) rfl rfl rfl rfl sz_82 rfl rfl rfl ?_
    refine OpsJ.nil ?_
    refine ExJ.thenN ?_
    refine CodeJ.seq ?_
    refine CodeJ.region ?_
    refine OpsJ.yld rfl rfl rfl (Yld.fieldAddr fa_82_0 rfl rfl) ?_
    refine OpsJ.yld rfl rfl rfl (Yld.load1 rfl Tryd.underlying9 rfl rfl (fun w hI => Inv.cell1 hI (i := 0) rfl rfl)) ?_
    refine OpsJ.op rfl ?_
    refine OpJ.call (nameOk_spec x.name (hn x (List.mem_of_getElem? hx))) has_23 rfl rfl rfl rfl rfl [] [0, 1] (by decide) rfl rfl (fun _ _ => trivial) ?_
    rintro _ _ ⟨rfl, rfl⟩
    refine OpsJ.yld rfl rfl rfl (Yld.not rfl rfl) ?_
    refine OpsJ.nil ?_
    refine ExJ.thenN ?_
    refine CodeJ.cond rfl (fun c20 => ?_) (fun c20 => ?_)
    · have hok : nameOk x.name.data.toList = false := by simpa using c20
      refine CodeJ.seq ?_
      refine CodeJ.region ?_
      refine OpsJ.yld rfl rfl rfl (Yld.assign rfl rfl) ?_
      refine OpsJ.nil ?_
      refine ExJ.thenN ?_
      refine CodeJ.ret ?_
      refine ExJ.blockR ?_
      refine ExJ.thenR ?_
      refine ExJ.thenR ?_
      refine ExJ.blockR ?_
      refine ExJ.thenR ?_
      exact ExJ.ret1 Tryd.results14 rfl ⟨by simp [Kind.okB, all_false (fun a : AskD => nameOk a.name.data.toList) _ _ _ hx hok], rfl⟩ fun w hI => hI.pick (is := []) (by decide) rfl
    · have hok : nameOk x.name.data.toList = true := by simpa using c20
      refine CodeJ.skip ?_
      refine ExJ.blockN ?_
      refine ExJ.thenN ?_
      refine CodeJ.region ?_
      refine OpsJ.yld rfl rfl rfl (Yld.intBin rfl rfl rfl rfl) ?_
      rw [i64_succ k (by omega)]
      refine OpsJ.yld rfl rfl rfl (Yld.move rfl rfl) ?_
      refine OpsJ.nil ?_
      exact ExJ.againP ⟨k + 1, by omega, all_take_succ _ _ _ _ hx hall hok, rfl, rfl, rfl⟩ (by omega) ⟨rfl, rfl, rfl, rfl, rfl, trivial⟩ fun w hI => hI.pick (is := [1]) (by decide) rfl
  · obtain rfl : k = qs.length := by omega
    rw [List.take_length] at hall
    refine CodeJ.exit ?_
    refine ExJ.thenX ?_
    refine ExJ.thenX ?_
    refine ExJ.blockHit ?_
    refine ExJ.thenN ?_
    refine CodeJ.seq ?_
    refine CodeJ.seq ?_
    refine CodeJ.region ?_
    refine OpsJ.yld rfl rfl rfl (Yld.fieldAddr fa_40_2 rfl rfl) ?_
    refine OpsJ.yld rfl rfl rfl (Yld.load1 rfl Tryd.underlying38 rfl rfl (fun w hI => Inv.cell1 hI (i := 0) rfl rfl)) ?_
    refine OpsJ.yld rfl rfl rfl (Yld.fieldAddr fa_40_3 rfl rfl) ?_
    refine OpsJ.yld rfl rfl rfl (Yld.load1 rfl Tryd.underlying38 rfl rfl (fun w hI => Inv.cell1 hI (i := 0) rfl rfl)) ?_
    refine OpsJ.yld rfl rfl rfl (Yld.fieldAddr fa_40_4 rfl rfl) ?_
    refine OpsJ.yld rfl rfl rfl (Yld.load1 rfl Tryd.underlying38 rfl rfl (fun w hI => Inv.cell1 hI (i := 0) rfl rfl)) ?_
    refine OpsJ.op rfl ?_
    refine OpJ.buildSlice (xs := [.tmp 23, .tmp 25, .tmp 27]) elt_83 rfl rfl rfl rfl rfl rfl (by rfl) (by decide) fun lists hlists => ?_
    refine OpsJ.yld rfl rfl rfl (Yld.lenSlice rfl rfl rfl Tryd.underlying83 rfl) ?_
    refine OpsJ.yld rfl rfl rfl (Yld.move rfl rfl) ?_
    refine OpsJ.nil ?_
    refine ExJ.thenN ?_
    refine CodeJ.block ?_
    refine CodeJ.loopP (fun L H m => ∃ k : Nat, k ≤ 3 ∧ ([one, two, three].take k).flatten.all K.recOk = true ∧ L = [(1, .pointer (some ⟨mb, 0, none⟩)), (3, .int .i64 (K.total ([one, two, three].take k).flatten)), (28, .slice (some ⟨lists, 0, none⟩) 3 3), (29, .int .i64 3), (30, .int .i64 k)] ∧
    H = [own 38 1 (.slice (some ⟨lists, 0, none⟩) 3 3) 3 [.slice p1 one.length c1, .slice p2 two.length c2, .slice p3 three.length c3], .blk mb (MsgD.cells ⟨hd, .slice pa qs.length ca, qs, .slice p1 one.length c1, one, .slice p2 two.length c2, two, .slice p3 three.length c3, three⟩).toArray 40] ∧ m = 3 - k) ⟨0, by omega, rfl, rfl, rfl, rfl⟩ ⟨rfl, rfl, rfl, rfl, rfl, trivial⟩ (fun w hI => hI) ?_
    rintro _ _ _ ⟨k2, hk2, hall2, rfl, rfl, rfl⟩
    refine CodeJ.seq ?_
    refine CodeJ.region ?_
    refine OpsJ.yld rfl rfl rfl (Yld.intBin rfl rfl rfl rfl) ?_
    refine OpsJ.nil ?_
    refine ExJ.thenN ?_
    refine CodeJ.seq ?_
    refine CodeJ.condP rfl (fun c31 => ?_) (fun c31 => ?_)
    · have hk3 : k2 < 3 := by omega
      obtain ⟨l, hl⟩ : ∃ l, [one, two, three][k2]? = some l := ⟨[one, two, three][k2], List.getElem?_eq_getElem (by simpa using hk3)⟩
      obtain ⟨v, hv⟩ : ∃ v, [Value.slice p1 one.length c1, .slice p2 two.length c2, .slice p3 three.length c3][k2]? = some v := ⟨_, List.getElem?_eq_getElem (by simpa using hk3)⟩
      obtain ⟨hrecs, pl, cl, rfl⟩ := hrecsAt k2 v l hv hl
      have hmem := hsub k2 l hl
      have hll : l.length ≤ 17592186044416 := by
        match k2 with
        | 0 => simp at hl; subst hl; omega
        | 1 => simp at hl; subst hl; omega
        | 2 => simp at hl; subst hl; omega
        | k + 3 => simp at hl
      have hdone : ([one, two, three].take k2).flatten.length ≤ 17592186044416 := by
        match k2 with
        | 0 => simp
        | 1 => simp; omega
        | 2 => simp; omega
        | k + 3 => omega
      have hdb : ∀ r ∈ ([one, two, three].take k2).flatten, (K.body r).length < 65536 := fun r hr => by
        have h1 := List.all_eq_true.1 hall2 r hr
        simp only [Kind.recOk, Bool.and_eq_true] at h1
        refine hK.len r ?_ h1.2
        obtain ⟨l', hl', hr'⟩ := List.mem_flatten.1 hr
        obtain ⟨j, hj⟩ := List.getElem?_of_mem (List.mem_of_mem_take hl')
        exact hsub j l' hj r hr'
      have htk := total_le K _ hdb
      have hnxt : ([one, two, three].take (k2 + 1)).flatten = ([one, two, three].take k2).flatten ++ l := by
        rw [take_snoc _ _ _ hl]
        simp
      refine CodeJ.skip ?_
      refine ExJ.thenN ?_
      refine CodeJ.seq ?_
      refine CodeJ.block ?_
      refine CodeJ.seq ?_
      refine CodeJ.region ?_
      refine OpsJ.yld rfl rfl rfl (Yld.indexAddr rfl Tryd.underlying83 sz_38 rfl rfl hk3) ?_
      refine OpsJ.yld rfl rfl rfl (Yld.load1 rfl Tryd.underlying38 rfl rfl (fun w hI => (Own.cells (hI.hs _ (List.mem_of_getElem? (i := 0) rfl)).1 _ _ _ _ rfl).2.2.one hv)) ?_
      refine OpsJ.yld rfl rfl rfl (Yld.assign rfl rfl) ?_
      refine OpsJ.nil ?_
      refine ExJ.thenN ?_
      refine CodeJ.seq ?_
      refine CodeJ.region ?_
      refine OpsJ.yld rfl rfl rfl (Yld.move rfl rfl) ?_
      refine OpsJ.yld rfl rfl rfl (Yld.lenSlice rfl rfl rfl Tryd.underlying38 rfl) ?_
      refine OpsJ.yld rfl rfl rfl (Yld.move rfl rfl) ?_
      refine OpsJ.nil ?_
      refine ExJ.thenN ?_
      refine CodeJ.block ?_
      refine CodeJ.loopP (fun L H m => ∃ j : Nat, j ≤ l.length ∧ (l.take j).all K.recOk = true ∧ L = [(1, .pointer (some ⟨mb, 0, none⟩)), (3, .int .i64 (K.total (([one, two, three].take k2).flatten ++ l.take j) : Nat)), (28, .slice (some ⟨lists, 0, none⟩) 3 3), (29, .int .i64 3), (30, .int .i64 k2), (34, .slice pl l.length cl), (35, .int .i64 l.length), (36, .int .i64 j)] ∧
      H = [own 38 1 (.slice (some ⟨lists, 0, none⟩) 3 3) 3 [.slice p1 one.length c1, .slice p2 two.length c2, .slice p3 three.length c3], .blk mb (MsgD.cells ⟨hd, .slice pa qs.length ca, qs, .slice p1 one.length c1, one, .slice p2 two.length c2, two, .slice p3 three.length c3, three⟩).toArray 40] ∧ m = l.length - j) ⟨0, by omega, rfl, rfl, rfl, rfl⟩ ⟨rfl, by simp; rfl, rfl, rfl, rfl, rfl, rfl, rfl, trivial⟩ (fun w hI => hI) ?_
      rintro _ _ _ ⟨j, hj, hall3, rfl, rfl, rfl⟩
      refine CodeJ.seq ?_
      refine CodeJ.region ?_
      refine OpsJ.yld rfl rfl rfl (Yld.intBin rfl rfl rfl rfl) ?_
      refine OpsJ.nil ?_
      refine ExJ.thenN ?_
      refine CodeJ.seq ?_
      refine CodeJ.condP rfl (fun c37 => ?_) (fun c37 => ?_)
      · have hj' : j < l.length := by omega
        obtain ⟨x, hx⟩ : ∃ x, l[j]? = some x := ⟨l[j], List.getElem?_eq_getElem hj'⟩
        have hxm : x ∈ l := List.mem_of_getElem? hx
        obtain ⟨b, off, c, hpv, hcell⟩ := Row.at hrecs.1 (by simp [RecD.cells]) (by simp) hj'
        simp only [Value.slice.injEq] at hpv
        obtain ⟨rfl, _, rfl⟩ := hpv
        have hcx := hcell x.cells (by simp [hx])
        have hxok := hrecs.2 x hxm
        refine CodeJ.skip ?_
        refine ExJ.thenN ?_
        refine CodeJ.seq ?_
        refine CodeJ.block ?_
        refine CodeJ.seq ?_
        refine CodeJ.region ?_
        refine OpsJ.yld rfl rfl rfl (Yld.indexAddr rfl Tryd.underlying38 sz_86 rfl rfl hj') ?_
        refine OpsJ.yld rfl rfl rfl (Yld.loadN (vs := x.cells) rfl Tryd.underlying86 rfl sz_86 rfl (fun w hI => hI.old hcx (by simp [fp]))) ?_
        refine OpsJ.op rfl ?_
        refine OpJ.alloc rfl rfl rfl zero_86 fun rb hrb => ?_
        refine OpsJ.op rfl ?_
        refine OpJ.storeW (i := 0) rfl rfl rfl rfl sz_86 rfl hxok.one rfl ?_
        refine OpsJ.nil ?_
        refine ExJ.thenN ?_
        refine CodeJ.seq ?_
        refine CodeJ.seq ?_
        refine CodeJ.region ?_
        refine OpsJ.yld rfl rfl rfl (Yld.fieldAddr fa_86_0 rfl rfl) ?_
        refine OpsJ.yld rfl rfl rfl (Yld.load1 rfl Tryd.underlying9 rfl rfl (fun w hI => Inv.cell1 hI (i := 0) rfl rfl)) ?_
        refine OpsJ.op rfl ?_
        refine OpJ.call (nameOk_spec x.name (hr x (hmem x hxm))) has_23 rfl rfl rfl rfl rfl [] [0, 1, 2] (by decide) rfl rfl (fun _ _ => trivial) ?_
        rintro _ _ ⟨rfl, rfl⟩
        refine OpsJ.yld rfl rfl rfl (Yld.not rfl rfl) ?_
        refine OpsJ.yld rfl rfl rfl (Yld.move rfl rfl) ?_
        refine OpsJ.splitB (s := 44) rfl (fun g44 => ?_) (fun g44 => ?_)
        · have hnok : nameOk x.name.data.toList = false := by simpa using g44
          have hbad : (one ++ two ++ three).all K.recOk = false := List.all_eq_false.2 ⟨x, hmem x hxm, by simp [Kind.recOk, hnok]⟩
          refine OpsJ.opF rfl rfl rfl rfl rfl rfl ?_
          refine OpsJ.opF rfl rfl rfl rfl rfl rfl ?_
          refine OpsJ.opF rfl rfl rfl rfl rfl rfl ?_
          refine OpsJ.yld rfl rfl rfl (Yld.pickT rfl rfl rfl) ?_
          refine OpsJ.nil ?_
          refine ExJ.thenN ?_
          refine CodeJ.condT rfl ?_
          refine CodeJ.seq ?_
          refine CodeJ.region ?_
          refine OpsJ.yld rfl rfl rfl (Yld.assign rfl rfl) ?_
          refine OpsJ.nil ?_
          refine ExJ.thenN ?_
          refine CodeJ.ret ?_
          refine ExJ.thenR ?_
          refine ExJ.blockR ?_
          refine ExJ.thenR ?_
          refine ExJ.thenR ?_
          refine ExJ.blockR ?_
          refine ExJ.blockR ?_
          refine ExJ.thenR ?_
          refine ExJ.thenR ?_
          refine ExJ.blockR ?_
          refine ExJ.thenR ?_
          exact ExJ.ret1 Tryd.results14 rfl ⟨by rw [okB_false K _ hbad], rfl⟩ fun w hI => hI.pick (is := []) (by decide) rfl
        · have hnok : nameOk x.name.data.toList = true := by simpa using g44
          refine OpsJ.opT rfl rfl rfl ?_
          refine OpJ.yld rfl rfl (Yld.loadN (vs := x.cells) rfl Tryd.underlying86 rfl sz_86 rfl (fun w hI => Inv.cells hI (i := 0) rfl rfl (Nat.le_of_ble_eq_true rfl))) ?_
          refine OpsJ.opT rfl rfl rfl ?_
          refine OpJ.call (hK.ok x (hmem x hxm)) has_33 rfl rfl rfl rfl rfl [] [0, 1, 2] (by decide) rfl rfl (fun w hI => hxok.keep0 hI.keep) ?_
          rintro _ _ ⟨rfl, rfl⟩
          refine OpsJ.opT rfl rfl rfl ?_
          refine OpJ.yld rfl rfl (Yld.not rfl rfl) ?_
          refine OpsJ.yld rfl rfl rfl (Yld.pickF rfl rfl rfl) ?_
          refine OpsJ.nil ?_
          refine ExJ.thenN ?_
          refine CodeJ.cond rfl (fun c48 => ?_) (fun c48 => ?_)
          · have hbok : K.ok x = false := by simpa using c48
            have hbad : (one ++ two ++ three).all K.recOk = false := List.all_eq_false.2 ⟨x, hmem x hxm, by simp [Kind.recOk, hbok]⟩
            refine CodeJ.seq ?_
            refine CodeJ.region ?_
            refine OpsJ.yld rfl rfl rfl (Yld.assign rfl rfl) ?_
            refine OpsJ.nil ?_
            refine ExJ.thenN ?_
            refine CodeJ.ret ?_
            refine ExJ.thenR ?_
            refine ExJ.blockR ?_
            refine ExJ.thenR ?_
            refine ExJ.thenR ?_
            refine ExJ.blockR ?_
            refine ExJ.blockR ?_
            refine ExJ.thenR ?_
            refine ExJ.thenR ?_
            refine ExJ.blockR ?_
            refine ExJ.thenR ?_
            exact ExJ.ret1 Tryd.results14 rfl ⟨by rw [okB_false K _ hbad], rfl⟩ fun w hI => hI.pick (is := []) (by decide) rfl
          · have hbok : K.ok x = true := by simpa using c48
            have hrok : K.recOk x = true := by simp [Kind.recOk, hnok, hbok]
            have hxl := hK.len x (hmem x hxm) hbok
            have hlb : ∀ r ∈ l.take j, (K.body r).length < 65536 := fun r hr => by
              have h1 := List.all_eq_true.1 hall3 r hr
              simp only [Kind.recOk, Bool.and_eq_true] at h1
              exact hK.len r (hmem r (List.mem_of_mem_take hr)) h1.2
            have htl := total_le K _ hlb
            have hjl : (l.take j).length ≤ l.length := by simp; omega
            have hsum : K.total (([one, two, three].take k2).flatten ++ l.take (j + 1)) = K.total (([one, two, three].take k2).flatten ++ l.take j) + (K.body x).length := by
              rw [take_snoc _ _ _ hx, ← List.append_assoc, total_append K (([one, two, three].take k2).flatten ++ l.take j) [x]]
              simp [Kind.total]
            have hta := total_append K ([one, two, three].take k2).flatten (l.take j)
            refine CodeJ.skip ?_
            refine ExJ.thenN ?_
            refine CodeJ.region ?_
            refine OpsJ.yld rfl rfl rfl (Yld.move rfl rfl) ?_
            refine OpsJ.yld rfl rfl rfl (Yld.loadN (vs := x.cells) rfl Tryd.underlying86 rfl sz_86 rfl (fun w hI => Inv.cells hI (i := 0) rfl rfl (Nat.le_of_ble_eq_true rfl))) ?_
            refine OpsJ.op rfl ?_
            refine OpJ.call (hK.body x (hmem x hxm) hbok) has_34 rfl rfl rfl rfl rfl [] [0, 1, 2] (by decide) rfl rfl (fun w hI => hxok.keep0 hI.keep) ?_
            rintro _ _ ⟨p51, c51, rfl, rfl⟩
            refine OpsJ.yld rfl rfl rfl (Yld.lenSlice rfl rfl rfl Tryd.underlying31 rfl) ?_
            refine OpsJ.yld rfl rfl rfl (Yld.intBin rfl rfl rfl rfl) ?_
            rw [i64_add _ _ (by omega)]
            refine OpsJ.yld rfl rfl rfl (Yld.assign rfl rfl) ?_
            refine OpsJ.nil ?_
            refine ExJ.blockN ?_
            refine ExJ.thenN ?_
            refine CodeJ.region ?_
            refine OpsJ.yld rfl rfl rfl (Yld.intBin rfl rfl rfl rfl) ?_
            rw [i64_succ j (by omega)]
            refine OpsJ.yld rfl rfl rfl (Yld.move rfl rfl) ?_
            refine OpsJ.nil ?_
            exact ExJ.againP ⟨j + 1, by omega, all_take_succ _ _ _ _ hx hall3 hrok, rfl, rfl, rfl⟩ (by omega) ⟨rfl, by rw [hsum]; rfl, rfl, rfl, rfl, rfl, rfl, rfl, trivial⟩ fun w hI => hI.pick (is := [2, 3]) (by decide) rfl
      · obtain rfl : j = l.length := by omega
        rw [List.take_length] at hall3 ⊢
        have htot : K.total ([one, two, three].take (k2 + 1)).flatten = K.total (([one, two, three].take k2).flatten ++ l) := by rw [hnxt]
        have hall4 : ([one, two, three].take (k2 + 1)).flatten.all K.recOk = true := by rw [hnxt, List.all_append, hall2, hall3]; rfl
        refine CodeJ.exit ?_
        refine ExJ.thenX ?_
        refine ExJ.thenX ?_
        refine ExJ.blockHit ?_
        refine ExJ.blockN ?_
        refine ExJ.thenN ?_
        refine CodeJ.region ?_
        refine OpsJ.yld rfl rfl rfl (Yld.intBin rfl rfl rfl rfl) ?_
        rw [i64_succ k2 (by omega)]
        refine OpsJ.yld rfl rfl rfl (Yld.move rfl rfl) ?_
        refine OpsJ.nil ?_
        exact ExJ.againP ⟨k2 + 1, by omega, hall4, rfl, rfl, rfl⟩ (by omega) ⟨rfl, by rw [htot]; rfl, rfl, rfl, rfl, trivial⟩ fun w hI => hI
    · obtain rfl : k2 = 3 := by omega
      have hfl : ([one, two, three].take 3).flatten = one ++ two ++ three := by simp
      rw [hfl] at hall2 ⊢
      refine CodeJ.exit ?_
      refine ExJ.thenX ?_
      refine ExJ.thenX ?_
      refine ExJ.blockHit ?_
      refine ExJ.thenN ?_
      refine CodeJ.seq ?_
      refine CodeJ.region ?_
      refine OpsJ.yld rfl rfl rfl (Yld.fieldAddr fa_40_0 rfl rfl) ?_
      refine OpsJ.yld rfl rfl rfl (Yld.loadN (vs := headC hd) rfl Tryd.underlying36 rfl sz_36 rfl (fun w hI => Inv.cells hI (i := 1) rfl rfl (Nat.le_of_ble_eq_true rfl))) ?_
      refine OpsJ.op rfl ?_
      refine OpJ.call (headOk_spec hd) has_35 rfl rfl rfl rfl rfl [] [0, 1] (by decide) rfl rfl (fun _ _ => trivial) ?_
      rintro _ _ ⟨rfl, rfl⟩
      refine OpsJ.yld rfl rfl rfl (Yld.move rfl rfl) ?_
      refine OpsJ.splitB (s := 59) rfl (fun g59 => ?_) (fun g59 => ?_)
      · refine OpsJ.opT rfl rfl rfl ?_
        refine OpJ.yld rfl rfl (Yld.fieldAddr fa_40_1 rfl rfl) ?_
        refine OpsJ.opT rfl rfl rfl ?_
        refine OpJ.yld rfl rfl (Yld.load1 rfl Tryd.underlying37 rfl rfl (fun w hI => Inv.cell1 hI (i := 1) rfl rfl)) ?_
        refine OpsJ.opT rfl rfl rfl ?_
        refine OpJ.yld rfl rfl (Yld.lenSlice rfl rfl rfl Tryd.underlying37 rfl) ?_
        refine OpsJ.opT rfl rfl rfl ?_
        refine OpJ.yld rfl rfl (Yld.intBin rfl rfl rfl rfl) ?_
        refine OpsJ.yld rfl rfl rfl (Yld.pickT rfl rfl rfl) ?_
        refine OpsJ.yld rfl rfl rfl (Yld.move rfl rfl) ?_
        refine OpsJ.splitP (s := 65) rfl (fun g65 => ?_) (fun g65 => ?_)
        · have n65 : qs.length < 60000 := by omega
          refine OpsJ.opT rfl rfl rfl ?_
          refine OpJ.yld rfl rfl (Yld.fieldAddr fa_40_2 rfl rfl) ?_
          refine OpsJ.opT rfl rfl rfl ?_
          refine OpJ.yld rfl rfl (Yld.load1 rfl Tryd.underlying38 rfl rfl (fun w hI => Inv.cell1 hI (i := 1) rfl rfl)) ?_
          refine OpsJ.opT rfl rfl rfl ?_
          refine OpJ.yld rfl rfl (Yld.lenSlice rfl rfl rfl Tryd.underlying38 rfl) ?_
          refine OpsJ.opT rfl rfl rfl ?_
          refine OpJ.yld rfl rfl (Yld.intBin rfl rfl rfl rfl) ?_
          refine OpsJ.yld rfl rfl rfl (Yld.pickT rfl rfl rfl) ?_
          refine OpsJ.yld rfl rfl rfl (Yld.move rfl rfl) ?_
          refine OpsJ.splitP (s := 71) rfl (fun g71 => ?_) (fun g71 => ?_)
          · have n71 : one.length < 60000 := by omega
            refine OpsJ.opT rfl rfl rfl ?_
            refine OpJ.yld rfl rfl (Yld.fieldAddr fa_40_3 rfl rfl) ?_
            refine OpsJ.opT rfl rfl rfl ?_
            refine OpJ.yld rfl rfl (Yld.load1 rfl Tryd.underlying38 rfl rfl (fun w hI => Inv.cell1 hI (i := 1) rfl rfl)) ?_
            refine OpsJ.opT rfl rfl rfl ?_
            refine OpJ.yld rfl rfl (Yld.lenSlice rfl rfl rfl Tryd.underlying38 rfl) ?_
            refine OpsJ.opT rfl rfl rfl ?_
            refine OpJ.yld rfl rfl (Yld.intBin rfl rfl rfl rfl) ?_
            refine OpsJ.yld rfl rfl rfl (Yld.pickT rfl rfl rfl) ?_
            refine OpsJ.yld rfl rfl rfl (Yld.move rfl rfl) ?_
            refine OpsJ.splitP (s := 77) rfl (fun g77 => ?_) (fun g77 => ?_)
            · have n77 : two.length < 60000 := by omega
              refine OpsJ.opT rfl rfl rfl ?_
              refine OpJ.yld rfl rfl (Yld.fieldAddr fa_40_4 rfl rfl) ?_
              refine OpsJ.opT rfl rfl rfl ?_
              refine OpJ.yld rfl rfl (Yld.load1 rfl Tryd.underlying38 rfl rfl (fun w hI => Inv.cell1 hI (i := 1) rfl rfl)) ?_
              refine OpsJ.opT rfl rfl rfl ?_
              refine OpJ.yld rfl rfl (Yld.lenSlice rfl rfl rfl Tryd.underlying38 rfl) ?_
              refine OpsJ.opT rfl rfl rfl ?_
              refine OpJ.yld rfl rfl (Yld.intBin rfl rfl rfl rfl) ?_
              refine OpsJ.yld rfl rfl rfl (Yld.pickT rfl rfl rfl) ?_
              refine OpsJ.yld rfl rfl rfl (Yld.move rfl rfl) ?_
              refine OpsJ.splitP (s := 83) rfl (fun g83 => ?_) (fun g83 => ?_)
              · have n83 : three.length < 60000 := by omega
                refine OpsJ.opT rfl rfl rfl ?_
                refine OpJ.yld rfl rfl (Yld.move rfl rfl) ?_
                refine OpsJ.opT rfl rfl rfl ?_
                refine OpJ.yld rfl rfl (Yld.intBin rfl rfl rfl rfl) ?_
                refine OpsJ.yld rfl rfl rfl (Yld.pickT rfl rfl rfl) ?_
                refine OpsJ.yld rfl rfl rfl (Yld.assign rfl rfl) ?_
                refine OpsJ.nil ?_
                refine ExJ.thenN ?_
                refine CodeJ.ret ?_
                exact ExJ.ret1 Tryd.results14 rfl ⟨by rw [okB_rest K _ hall hall2]; simp [g59, n65, n71, n77, n83]; omega, rfl⟩ fun w hI => hI.pick (is := []) (by decide) rfl
              · have n83 : ¬ three.length < 60000 := by omega
                refine OpsJ.opF rfl rfl rfl rfl rfl rfl ?_
                refine OpsJ.opF rfl rfl rfl rfl rfl rfl ?_
                refine OpsJ.yld rfl rfl rfl (Yld.pickF rfl rfl rfl) ?_
                refine OpsJ.yld rfl rfl rfl (Yld.assign rfl rfl) ?_
                refine OpsJ.nil ?_
                refine ExJ.thenN ?_
                refine CodeJ.ret ?_
                exact ExJ.ret1 Tryd.results14 rfl ⟨by rw [okB_rest K _ hall hall2]; simp [g59, n65, n71, n77, n83], rfl⟩ fun w hI => hI.pick (is := []) (by decide) rfl
            · have n77 : ¬ two.length < 60000 := by omega
              refine OpsJ.opF rfl rfl rfl rfl rfl rfl ?_
              refine OpsJ.opF rfl rfl rfl rfl rfl rfl ?_
              refine OpsJ.opF rfl rfl rfl rfl rfl rfl ?_
              refine OpsJ.opF rfl rfl rfl rfl rfl rfl ?_
              refine OpsJ.yld rfl rfl rfl (Yld.pickF rfl rfl rfl) ?_
              refine OpsJ.yld rfl rfl rfl (Yld.move rfl rfl) ?_
              refine OpsJ.opF rfl rfl rfl rfl rfl rfl ?_
              refine OpsJ.opF rfl rfl rfl rfl rfl rfl ?_
              refine OpsJ.yld rfl rfl rfl (Yld.pickF rfl rfl rfl) ?_
              refine OpsJ.yld rfl rfl rfl (Yld.assign rfl rfl) ?_
              refine OpsJ.nil ?_
              refine ExJ.thenN ?_
              refine CodeJ.ret ?_
              exact ExJ.ret1 Tryd.results14 rfl ⟨by rw [okB_rest K _ hall hall2]; simp [g59, n65, n71, n77], rfl⟩ fun w hI => hI.pick (is := []) (by decide) rfl
          · have n71 : ¬ one.length < 60000 := by omega
            refine OpsJ.opF rfl rfl rfl rfl rfl rfl ?_
            refine OpsJ.opF rfl rfl rfl rfl rfl rfl ?_
            refine OpsJ.opF rfl rfl rfl rfl rfl rfl ?_
            refine OpsJ.opF rfl rfl rfl rfl rfl rfl ?_
            refine OpsJ.yld rfl rfl rfl (Yld.pickF rfl rfl rfl) ?_
            refine OpsJ.yld rfl rfl rfl (Yld.move rfl rfl) ?_
            refine OpsJ.opF rfl rfl rfl rfl rfl rfl ?_
            refine OpsJ.opF rfl rfl rfl rfl rfl rfl ?_
            refine OpsJ.opF rfl rfl rfl rfl rfl rfl ?_
            refine OpsJ.opF rfl rfl rfl rfl rfl rfl ?_
            refine OpsJ.yld rfl rfl rfl (Yld.pickF rfl rfl rfl) ?_
            refine OpsJ.yld rfl rfl rfl (Yld.move rfl rfl) ?_
            refine OpsJ.opF rfl rfl rfl rfl rfl rfl ?_
            refine OpsJ.opF rfl rfl rfl rfl rfl rfl ?_
            refine OpsJ.yld rfl rfl rfl (Yld.pickF rfl rfl rfl) ?_
            refine OpsJ.yld rfl rfl rfl (Yld.assign rfl rfl) ?_
            refine OpsJ.nil ?_
            refine ExJ.thenN ?_
            refine CodeJ.ret ?_
            exact ExJ.ret1 Tryd.results14 rfl ⟨by rw [okB_rest K _ hall hall2]; simp [g59, n65, n71], rfl⟩ fun w hI => hI.pick (is := []) (by decide) rfl
        · have n65 : ¬ qs.length < 60000 := by omega
          refine OpsJ.opF rfl rfl rfl rfl rfl rfl ?_
          refine OpsJ.opF rfl rfl rfl rfl rfl rfl ?_
          refine OpsJ.opF rfl rfl rfl rfl rfl rfl ?_
          refine OpsJ.opF rfl rfl rfl rfl rfl rfl ?_
          refine OpsJ.yld rfl rfl rfl (Yld.pickF rfl rfl rfl) ?_
          refine OpsJ.yld rfl rfl rfl (Yld.move rfl rfl) ?_
          refine OpsJ.opF rfl rfl rfl rfl rfl rfl ?_
          refine OpsJ.opF rfl rfl rfl rfl rfl rfl ?_
          refine OpsJ.opF rfl rfl rfl rfl rfl rfl ?_
          refine OpsJ.opF rfl rfl rfl rfl rfl rfl ?_
          refine OpsJ.yld rfl rfl rfl (Yld.pickF rfl rfl rfl) ?_
          refine OpsJ.yld rfl rfl rfl (Yld.move rfl rfl) ?_
          refine OpsJ.opF rfl rfl rfl rfl rfl rfl ?_
          refine OpsJ.opF rfl rfl rfl rfl rfl rfl ?_
          refine OpsJ.opF rfl rfl rfl rfl rfl rfl ?_
          refine OpsJ.opF rfl rfl rfl rfl rfl rfl ?_
          refine OpsJ.yld rfl rfl rfl (Yld.pickF rfl rfl rfl) ?_
          refine OpsJ.yld rfl rfl rfl (Yld.move rfl rfl) ?_
          refine OpsJ.opF rfl rfl rfl rfl rfl rfl ?_
          refine OpsJ.opF rfl rfl rfl rfl rfl rfl ?_
          refine OpsJ.yld rfl rfl rfl (Yld.pickF rfl rfl rfl) ?_
          refine OpsJ.yld rfl rfl rfl (Yld.assign rfl rfl) ?_
          refine OpsJ.nil ?_
          refine ExJ.thenN ?_
          refine CodeJ.ret ?_
          exact ExJ.ret1 Tryd.results14 rfl ⟨by rw [okB_rest K _ hall hall2]; simp [g59, n65], rfl⟩ fun w hI => hI.pick (is := []) (by decide) rfl
      · refine OpsJ.opF rfl rfl rfl rfl rfl rfl ?_
        refine OpsJ.opF rfl rfl rfl rfl rfl rfl ?_
        refine OpsJ.opF rfl rfl rfl rfl rfl rfl ?_
        refine OpsJ.opF rfl rfl rfl rfl rfl rfl ?_
        refine OpsJ.yld rfl rfl rfl (Yld.pickF rfl rfl rfl) ?_
        refine OpsJ.yld rfl rfl rfl (Yld.move rfl rfl) ?_
        refine OpsJ.opF rfl rfl rfl rfl rfl rfl ?_
        refine OpsJ.opF rfl rfl rfl rfl rfl rfl ?_
        refine OpsJ.opF rfl rfl rfl rfl rfl rfl ?_
        refine OpsJ.opF rfl rfl rfl rfl rfl rfl ?_
        refine OpsJ.yld rfl rfl rfl (Yld.pickF rfl rfl rfl) ?_
        refine OpsJ.yld rfl rfl rfl (Yld.move rfl rfl) ?_
        refine OpsJ.opF rfl rfl rfl rfl rfl rfl ?_
        refine OpsJ.opF rfl rfl rfl rfl rfl rfl ?_
        refine OpsJ.opF rfl rfl rfl rfl rfl rfl ?_
        refine OpsJ.opF rfl rfl rfl rfl rfl rfl ?_
        refine OpsJ.yld rfl rfl rfl (Yld.pickF rfl rfl rfl) ?_
        refine OpsJ.yld rfl rfl rfl (Yld.move rfl rfl) ?_
        refine OpsJ.opF rfl rfl rfl rfl rfl rfl ?_
        refine OpsJ.opF rfl rfl rfl rfl rfl rfl ?_
        refine OpsJ.opF rfl rfl rfl rfl rfl rfl ?_
        refine OpsJ.opF rfl rfl rfl rfl rfl rfl ?_
        refine OpsJ.yld rfl rfl rfl (Yld.pickF rfl rfl rfl) ?_
        refine OpsJ.yld rfl rfl rfl (Yld.move rfl rfl) ?_
        refine OpsJ.opF rfl rfl rfl rfl rfl rfl ?_
        refine OpsJ.opF rfl rfl rfl rfl rfl rfl ?_
        refine OpsJ.yld rfl rfl rfl (Yld.pickF rfl rfl rfl) ?_
        refine OpsJ.yld rfl rfl rfl (Yld.assign rfl rfl) ?_
        refine OpsJ.nil ?_
        refine ExJ.thenN ?_
        refine CodeJ.ret ?_
        exact ExJ.ret1 Tryd.results14 rfl ⟨by rw [okB_rest K _ hall hall2]; simp [g59], rfl⟩ fun w hI => hI.pick (is := []) (by decide) rfl

theorem wire_le (s : ByteArray) (h : s.size ≤ 254) : (wire s.data.toList).length ≤ 509 := by
  have := wst_le s.data.toList
  rw [str_len] at this
  simp [wire]
  omega
theorem nameOk_size (s : ByteArray) (h : nameOk s.data.toList = true) : s.size ≤ 254 := by
  simp only [nameOk, Bool.or_eq_true, Bool.and_eq_true, decide_eq_true_eq, str_len] at h
  rcases h with h | h
  · have h1 : s.data.toList = [46] := by simpa using h
    have : s.data.toList.length = 1 := by rw [h1]; rfl
    rw [str_len] at this
    omega
  · exact h.2
theorem flatten_le {α : Type} (f : α → List UInt8) (c : Nat) : ∀ l : List α, (∀ x ∈ l, (f x).length ≤ c) → ((l.map f).flatten).length ≤ c * l.length
  | [], _ => by simp
  | x :: l, h => by
    have h1 := h x (by simp)
    have h2 := flatten_le f c l fun y hy => h y (by simp [hy])
    simp only [List.map_cons, List.flatten_cons, List.length_append, List.length_cons, Nat.mul_add]
    omega

/-- what MessageWire needs of the records -/
structure Kind.Writes (K : Kind) (rs : List RecD) : Prop where
  wr : ∀ r ∈ rs, Spec Tryd.prog 38 [r.val] [] (fun w => RecOk w r) (RetB 5 (K.recWire r))
  len : ∀ r ∈ rs, (K.recWire r).length ≤ 70000
theorem Kind.writes_nil (K : Kind) : K.Writes [] := ⟨fun _ h => (by cases h), fun _ h => (by cases h)⟩

theorem messageWire_spec (K : Kind) (m : MsgD) (hw : m.head.wf) (hK : K.Writes (m.one ++ m.two ++ m.three)) (hn : ∀ a ∈ m.asks, a.name.size ≤ 254)
    (hc : m.asks.length < 60000 ∧ m.one.length < 60000 ∧ m.two.length < 60000 ∧ m.three.length < 60000) :
    Spec Tryd.prog 18 [m.val] [] (fun w => MsgOk w m) (RetB 5 (K.wire m)) := by
  refine Spec.of Tryd.func18 rfl Tryd.ntmps18 rfl fun w0 hm => ?_
  obtain ⟨pa, ca, hva⟩ := hm.asks.shape
  obtain ⟨p1, c1, hv1⟩ := hm.one.1.shape
  obtain ⟨p2, c2, hv2⟩ := hm.two.1.shape
  obtain ⟨p3, c3, hv3⟩ := hm.three.1.shape
  obtain ⟨hd, asksV, qs, oneV, one, twoV, two, threeV, three⟩ := m
  simp only at hva hv1 hv2 hv3 hn hc hK hw
  subst hva hv1 hv2 hv3
  have hma : Asks w0 (.slice pa qs.length ca) qs := hm.asks
  have hrecsAt : ∀ (k : Nat) (v : Value) (l : List RecD), [Value.slice p1 one.length c1, .slice p2 two.length c2, .slice p3 three.length c3][k]? = some v → [one, two, three][k]? = some l → Recs w0 v l ∧ ∃ p c, v = .slice p l.length c := by
    intro k v l h1 h2
    match k with
    | 0 => simp at h1 h2; subst h1 h2; exact ⟨hm.one, _, _, rfl⟩
    | 1 => simp at h1 h2; subst h1 h2; exact ⟨hm.two, _, _, rfl⟩
    | 2 => simp at h1 h2; subst h1 h2; exact ⟨hm.three, _, _, rfl⟩
    | k + 3 => simp at h1
  have hsub : ∀ (k : Nat) (l : List RecD), [one, two, three][k]? = some l → ∀ r ∈ l, r ∈ one ++ two ++ three := by
    intro k l h2 r hr
    match k with
    | 0 => simp at h2; subst h2; simp [hr]
    | 1 => simp at h2; subst h2; simp [hr]
    | 2 => simp at h2; subst h2; simp [hr]
    | k + 3 => simp at h2
  have hal : ∀ k, ((qs.take k).map askWire).flatten.length ≤ 513 * k := fun k => by
    refine Nat.le_trans (flatten_le askWire 513 (qs.take k) fun x hx => ?_) (Nat.mul_le_mul_left _ (List.length_take_le _ _))
    have := wire_le x.name (hn x (List.mem_of_mem_take hx))
    simp only [askWire, List.length_append, be16_len]
    omega
  refine CodeJ.seq ?_
  refine CodeJ.region ?_
  refine OpsJ.op rfl ?_
  refine OpJ.box rfl rfl rfl rfl fun mb hmb => ?_
  refine OpsJ.yld rfl rfl rfl (Yld.assign rfl rfl) ?_
  refine OpsJ.nil ?_
  refine ExJ.thenN ?_
  refine CodeJ.seq ?_
  refine CodeJ.region ?_
  refine OpsJ.yld rfl rfl rfl (Yld.fieldAddr fa_40_0 rfl rfl) ?_
  refine OpsJ.yld rfl rfl rfl (Yld.loadN (vs := headC hd) rfl Tryd.underlying36 rfl sz_36 rfl (fun w hI => Inv.cells hI (i := 0) rfl rfl (Nat.le_of_ble_eq_true rfl))) ?_
  refine OpsJ.yld rfl rfl rfl (Yld.fieldAddr fa_40_1 rfl rfl) ?_
  refine OpsJ.yld rfl rfl rfl (Yld.load1 rfl Tryd.underlying37 rfl rfl (fun w hI => Inv.cell1 hI (i := 0) rfl rfl)) ?_
  refine OpsJ.yld rfl rfl rfl (Yld.lenSlice rfl rfl rfl Tryd.underlying37 rfl) ?_
  refine OpsJ.yld rfl rfl rfl (Yld.fieldAddr fa_40_2 rfl rfl) ?_
  refine OpsJ.yld rfl rfl rfl (Yld.load1 rfl Tryd.underlying38 rfl rfl (fun w hI => Inv.cell1 hI (i := 0) rfl rfl)) ?_
  refine OpsJ.yld rfl rfl rfl (Yld.lenSlice rfl rfl rfl Tryd.underlying38 rfl) ?_
  refine OpsJ.yld rfl rfl rfl (Yld.fieldAddr fa_40_3 rfl rfl) ?_
  refine OpsJ.yld rfl rfl rfl (Yld.load1 rfl Tryd.underlying38 rfl rfl (fun w hI => Inv.cell1 hI (i := 0) rfl rfl)) ?_
  refine OpsJ.yld rfl rfl rfl (Yld.lenSlice rfl rfl rfl Tryd.underlying38 rfl) ?_
  refine OpsJ.yld rfl rfl rfl (Yld.fieldAddr fa_40_4 rfl rfl) ?_
  refine OpsJ.yld rfl rfl rfl (Yld.load1 rfl Tryd.underlying38 rfl rfl (fun w hI => Inv.cell1 hI (i := 0) rfl rfl)) ?_
  refine OpsJ.yld rfl rfl rfl (Yld.lenSlice rfl rfl rfl Tryd.underlying38 rfl) ?_
  refine OpsJ.op rfl ?_
  refine OpJ.buildSlice (xs := [.tmp 14, .tmp 17, .tmp 20, .tmp 23]) elt_45 rfl rfl rfl rfl rfl rfl (by rfl) (by decide) fun cnts hcnts => ?_
  refine OpsJ.op rfl ?_
  refine OpJ.call (headWire_spec hd hw _ [qs.length, one.length, two.length, three.length] (by simp)) has_36 rfl rfl rfl rfl rfl [] [0, 1] (by decide) rfl rfl (fun w hI => Own.row (hI.hs _ (List.mem_of_getElem? (i := 0) rfl)).1) ?_
  rintro _ _ ⟨p25, c25, rfl, rfl⟩
  refine OpsJ.yld rfl rfl rfl (Yld.assign rfl rfl) ?_
  refine OpsJ.nil ?_
  refine ExJ.thenN ?_
  refine CodeJ.seq ?_
  refine CodeJ.seq ?_
  refine CodeJ.region ?_
  refine OpsJ.yld rfl rfl rfl (Yld.fieldAddr fa_40_1 rfl rfl) ?_
  refine OpsJ.yld rfl rfl rfl (Yld.load1 rfl Tryd.underlying37 rfl rfl (fun w hI => Inv.cell1 hI (i := 2) rfl rfl)) ?_
  refine OpsJ.yld rfl rfl rfl (Yld.lenSlice rfl rfl rfl Tryd.underlying37 rfl) ?_
  refine OpsJ.yld rfl rfl rfl (Yld.move rfl rfl) ?_
  refine OpsJ.nil ?_
  refine ExJ.thenN ?_
  refine CodeJ.block ?_
  refine CodeJ.loopP (fun L H m => ∃ (k : Nat) (p : Option Addr) (q : Nat), k ≤ qs.length ∧ L = [(1, .pointer (some ⟨mb, 0, none⟩)), (3, .slice p (headWire hd [qs.length, one.length, two.length, three.length] ++ ((qs.take k).map askWire).flatten).length q), (27, .slice pa qs.length ca), (28, .int .i64 qs.length), (29, .int .i64 k)] ∧
  H = [ownB 5 (.slice p (headWire hd [qs.length, one.length, two.length, three.length] ++ ((qs.take k).map askWire).flatten).length q) (headWire hd [qs.length, one.length, two.length, three.length] ++ ((qs.take k).map askWire).flatten),
    .blk mb (MsgD.cells ⟨hd, .slice pa qs.length ca, qs, .slice p1 one.length c1, one, .slice p2 two.length c2, two, .slice p3 three.length c3, three⟩).toArray 40] ∧ m = qs.length - k) ⟨0, p25, c25, Nat.zero_le _, rfl, rfl, rfl⟩ ⟨rfl, by simp only [List.take_zero, List.map_nil, List.flatten_nil, List.append_nil]; rfl, rfl, rfl, rfl, trivial⟩ (fun w hI => by simp only [List.take_zero, List.map_nil, List.flatten_nil, List.append_nil]; exact hI.pick (is := [0, 2]) (by decide) rfl) ?_
  rintro _ _ _ ⟨k, p, q, hk, rfl, rfl, rfl⟩
  refine CodeJ.seq ?_
  refine CodeJ.region ?_
  refine OpsJ.yld rfl rfl rfl (Yld.intBin rfl rfl rfl rfl) ?_
  refine OpsJ.nil ?_
  refine ExJ.thenN ?_
  refine CodeJ.seq ?_
  refine CodeJ.condP rfl (fun c30 => ?_) (fun c30 => ?_)
  · have hk' : k < qs.length := by omega
    obtain ⟨x, hx⟩ : ∃ x, qs[k]? = some x := ⟨qs[k], List.getElem?_eq_getElem hk'⟩
    obtain ⟨b, off, c, hpv, hcell⟩ := Row.at hma (by simp [AskD.cells]) (by simp) hk'
    simp only [Value.slice.injEq] at hpv
    obtain ⟨rfl, _, rfl⟩ := hpv
    have hcx := hcell x.cells (by simp [hx])
    have hxn := hn x (List.mem_of_getElem? hx)
    have hxl : (askWire x).length ≤ 513 := by
      have := wire_le x.name hxn
      simp only [askWire, List.length_append, be16_len]
      omega
    have hakl := hal k
    have hnx : headWire hd [qs.length, one.length, two.length, three.length] ++ ((qs.take (k + 1)).map askWire).flatten = headWire hd [qs.length, one.length, two.length, three.length] ++ ((qs.take k).map askWire).flatten ++ askWire x := by
      rw [take_snoc _ _ _ hx]
      simp
    refine CodeJ.skip ?_
    refine ExJ.thenN ?_
    refine CodeJ.seq ?_
    refine CodeJ.block ?_
    refine CodeJ.seq ?_
    refine CodeJ.region ?_
    refine OpsJ.yld rfl rfl rfl (Yld.indexAddr rfl Tryd.underlying37 sz_82 rfl rfl hk') ?_
    refine OpsJ.yld rfl rfl rfl (Yld.loadN (vs := x.cells) rfl Tryd.underlying82 rfl sz_82 rfl (fun w hI => hI.old hcx (by simp [fp]))) ?_
    refine OpsJ.op rfl ?_
    refine OpJ.alloc rfl rfl rfl zero_82 fun ab hab => ?_
    refine OpsJ.op rfl ?_
    refine OpJ.storeW (i := 0) rfl rfl rfl rfl sz_82 rfl rfl rfl ?_
    refine OpsJ.nil ?_
    refine ExJ.thenN ?_
    refine CodeJ.region ?_
    refine OpsJ.yld rfl rfl rfl (Yld.move rfl rfl) ?_
    refine OpsJ.yld rfl rfl rfl (Yld.loadN (vs := x.cells) rfl Tryd.underlying82 rfl sz_82 rfl (fun w hI => Inv.cells hI (i := 0) rfl rfl (Nat.le_of_ble_eq_true rfl))) ?_
    refine OpsJ.op rfl ?_
    refine OpJ.call (askWire_spec x hxn) has_37 rfl rfl rfl rfl rfl [] [0, 1, 2] (by decide) rfl rfl (fun _ _ => trivial) ?_
    rintro _ _ ⟨p35, c35, rfl, rfl⟩
    refine OpsJ.op rfl ?_
    refine OpJ.appendO (i := 2) elt_31 rfl rfl rfl rfl rfl rfl (fun w hI => Bytes.src (Inv.bytes (k := 0) rfl w hI) Tryd.underlying31) (by simp only [List.length_append, headWire_len, List.length_cons, List.length_nil]; omega) fun p36 c36 => ?_
    refine OpsJ.yld rfl rfl rfl (Yld.assign rfl rfl) ?_
    refine OpsJ.nil ?_
    refine ExJ.blockN ?_
    refine ExJ.thenN ?_
    refine CodeJ.region ?_
    refine OpsJ.yld rfl rfl rfl (Yld.intBin rfl rfl rfl rfl) ?_
    rw [i64_succ k (by omega)]
    refine OpsJ.yld rfl rfl rfl (Yld.move rfl rfl) ?_
    refine OpsJ.nil ?_
    exact ExJ.againP ⟨k + 1, p36, c36, by omega, rfl, rfl, rfl⟩ (by omega) ⟨rfl, by rw [hnx]; rfl, rfl, rfl, rfl, trivial⟩ fun w hI => by rw [hnx]; exact hI.pick (is := [2, 3]) (by decide) rfl
  · obtain rfl : k = qs.length := by omega
    rw [List.take_length]
    have hakl := hal qs.length
    rw [List.take_length] at hakl
    generalize hhead : headWire hd [qs.length, one.length, two.length, three.length] ++ (qs.map askWire).flatten = pre
    have hpre : pre.length ≤ 40000000 := by
      rw [← hhead]
      simp only [List.length_append, headWire_len, List.length_cons, List.length_nil]
      omega
    refine CodeJ.exit ?_
    refine ExJ.thenX ?_
    refine ExJ.thenX ?_
    refine ExJ.blockHit ?_
    refine ExJ.thenN ?_
    refine CodeJ.seq ?_
    refine CodeJ.seq ?_
    refine CodeJ.region ?_
    refine OpsJ.yld rfl rfl rfl (Yld.fieldAddr fa_40_2 rfl rfl) ?_
    refine OpsJ.yld rfl rfl rfl (Yld.load1 rfl Tryd.underlying38 rfl rfl (fun w hI => Inv.cell1 hI (i := 1) rfl rfl)) ?_
    refine OpsJ.yld rfl rfl rfl (Yld.fieldAddr fa_40_3 rfl rfl) ?_
    refine OpsJ.yld rfl rfl rfl (Yld.load1 rfl Tryd.underlying38 rfl rfl (fun w hI => Inv.cell1 hI (i := 1) rfl rfl)) ?_
    refine OpsJ.yld rfl rfl rfl (Yld.fieldAddr fa_40_4 rfl rfl) ?_
    refine OpsJ.yld rfl rfl rfl (Yld.load1 rfl Tryd.underlying38 rfl rfl (fun w hI => Inv.cell1 hI (i := 1) rfl rfl)) ?_
    refine OpsJ.op rfl ?_
    refine OpJ.buildSlice (xs := [.tmp 39, .tmp 41, .tmp 43]) elt_83 rfl rfl rfl rfl rfl rfl (by rfl) (by decide) fun lists hlists => ?_
    refine OpsJ.yld rfl rfl rfl (Yld.lenSlice rfl rfl rfl Tryd.underlying83 rfl) ?_
    refine OpsJ.yld rfl rfl rfl (Yld.move rfl rfl) ?_
    refine OpsJ.nil ?_
    refine ExJ.thenN ?_
    refine CodeJ.block ?_
    refine CodeJ.loopP (fun L H m => ∃ (k : Nat) (p : Option Addr) (q : Nat), k ≤ 3 ∧ L = [(1, .pointer (some ⟨mb, 0, none⟩)), (3, .slice p (pre ++ (([one, two, three].take k).flatten.map K.recWire).flatten).length q), (44, .slice (some ⟨lists, 0, none⟩) 3 3), (45, .int .i64 3), (46, .int .i64 k)] ∧
    H = [ownB 5 (.slice p (pre ++ (([one, two, three].take k).flatten.map K.recWire).flatten).length q) (pre ++ (([one, two, three].take k).flatten.map K.recWire).flatten), own 38 1 (.slice (some ⟨lists, 0, none⟩) 3 3) 3 [.slice p1 one.length c1, .slice p2 two.length c2, .slice p3 three.length c3]] ∧ m = 3 - k) ⟨0, p, q, by omega, rfl, rfl, rfl⟩ ⟨rfl, by simp only [List.take_zero, List.map_nil, List.flatten_nil, List.append_nil]; rfl, rfl, rfl, rfl, trivial⟩ (fun w hI => by simp only [List.take_zero, List.map_nil, List.flatten_nil, List.append_nil]; exact hI.pick (is := [1, 0]) (by decide) rfl) ?_
    rintro _ _ _ ⟨k2, p, q, hk2, rfl, rfl, rfl⟩
    refine CodeJ.seq ?_
    refine CodeJ.region ?_
    refine OpsJ.yld rfl rfl rfl (Yld.intBin rfl rfl rfl rfl) ?_
    refine OpsJ.nil ?_
    refine ExJ.thenN ?_
    refine CodeJ.seq ?_
    refine CodeJ.condP rfl (fun c47 => ?_) (fun c47 => ?_)
    · have hk3 : k2 < 3 := by omega
      obtain ⟨l, hl⟩ : ∃ l, [one, two, three][k2]? = some l := ⟨[one, two, three][k2], List.getElem?_eq_getElem (by simpa using hk3)⟩
      obtain ⟨v, hv⟩ : ∃ v, [Value.slice p1 one.length c1, .slice p2 two.length c2, .slice p3 three.length c3][k2]? = some v := ⟨_, List.getElem?_eq_getElem (by simpa using hk3)⟩
      obtain ⟨hrecs, pl, cl, rfl⟩ := hrecsAt k2 v l hv hl
      have hmem := hsub k2 l hl
      have hll : l.length < 60000 := by
        match k2 with
        | 0 => simp at hl; subst hl; omega
        | 1 => simp at hl; subst hl; omega
        | 2 => simp at hl; subst hl; omega
        | k + 3 => simp at hl
      have hdl : (([one, two, three].take k2).flatten.map K.recWire).flatten.length ≤ 70000 * 180000 := by
        refine Nat.le_trans (flatten_le K.recWire 70000 _ fun r hr => ?_) (Nat.mul_le_mul_left _ ?_)
        · obtain ⟨l', hl', hr'⟩ := List.mem_flatten.1 hr
          obtain ⟨j, hj⟩ := List.getElem?_of_mem (List.mem_of_mem_take hl')
          exact hK.len r (hsub j l' hj r hr')
        · match k2 with
          | 0 => simp
          | 1 => simp; omega
          | 2 => simp; omega
          | k + 3 => omega
      have hnxt : ([one, two, three].take (k2 + 1)).flatten = ([one, two, three].take k2).flatten ++ l := by
        rw [take_snoc _ _ _ hl]
        simp
      refine CodeJ.skip ?_
      refine ExJ.thenN ?_
      refine CodeJ.seq ?_
      refine CodeJ.block ?_
      refine CodeJ.seq ?_
      refine CodeJ.region ?_
      refine OpsJ.yld rfl rfl rfl (Yld.indexAddr rfl Tryd.underlying83 sz_38 rfl rfl hk3) ?_
      refine OpsJ.yld rfl rfl rfl (Yld.load1 rfl Tryd.underlying38 rfl rfl (fun w hI => (Own.cells (hI.hs _ (List.mem_of_getElem? (i := 1) rfl)).1 _ _ _ _ rfl).2.2.one hv)) ?_
      refine OpsJ.yld rfl rfl rfl (Yld.assign rfl rfl) ?_
      refine OpsJ.nil ?_
      refine ExJ.thenN ?_
      refine CodeJ.seq ?_
      refine CodeJ.region ?_
      refine OpsJ.yld rfl rfl rfl (Yld.move rfl rfl) ?_
      refine OpsJ.yld rfl rfl rfl (Yld.lenSlice rfl rfl rfl Tryd.underlying38 rfl) ?_
      refine OpsJ.yld rfl rfl rfl (Yld.move rfl rfl) ?_
      refine OpsJ.nil ?_
      refine ExJ.thenN ?_
      refine CodeJ.block ?_
      refine CodeJ.loopP (fun L H m => ∃ (j : Nat) (p : Option Addr) (q : Nat), j ≤ l.length ∧ L = [(1, .pointer (some ⟨mb, 0, none⟩)), (3, .slice p (pre ++ ((([one, two, three].take k2).flatten ++ l.take j).map K.recWire).flatten).length q), (44, .slice (some ⟨lists, 0, none⟩) 3 3), (45, .int .i64 3), (46, .int .i64 k2), (50, .slice pl l.length cl), (51, .int .i64 l.length), (52, .int .i64 j)] ∧
      H = [ownB 5 (.slice p (pre ++ ((([one, two, three].take k2).flatten ++ l.take j).map K.recWire).flatten).length q) (pre ++ ((([one, two, three].take k2).flatten ++ l.take j).map K.recWire).flatten), own 38 1 (.slice (some ⟨lists, 0, none⟩) 3 3) 3 [.slice p1 one.length c1, .slice p2 two.length c2, .slice p3 three.length c3]] ∧ m = l.length - j) ⟨0, p, q, by omega, rfl, rfl, rfl⟩ ⟨rfl, by simp only [List.take_zero, List.append_nil]; rfl, rfl, rfl, rfl, rfl, rfl, rfl, trivial⟩ (fun w hI => by simp only [List.take_zero, List.append_nil]; exact hI) ?_
      rintro _ _ _ ⟨j, p, q, hj, rfl, rfl, rfl⟩
      refine CodeJ.seq ?_
      refine CodeJ.region ?_
      refine OpsJ.yld rfl rfl rfl (Yld.intBin rfl rfl rfl rfl) ?_
      refine OpsJ.nil ?_
      refine ExJ.thenN ?_
      refine CodeJ.seq ?_
      refine CodeJ.condP rfl (fun c53 => ?_) (fun c53 => ?_)
      · have hj' : j < l.length := by omega
        obtain ⟨x, hx⟩ : ∃ x, l[j]? = some x := ⟨l[j], List.getElem?_eq_getElem hj'⟩
        have hxm : x ∈ l := List.mem_of_getElem? hx
        obtain ⟨b, off, c, hpv, hcell⟩ := Row.at hrecs.1 (by simp [RecD.cells]) (by simp) hj'
        simp only [Value.slice.injEq] at hpv
        obtain ⟨rfl, _, rfl⟩ := hpv
        have hcx := hcell x.cells (by simp [hx])
        have hxok := hrecs.2 x hxm
        have hxl := hK.len x (hmem x hxm)
        have hlj : ((l.take j).map K.recWire).flatten.length ≤ 70000 * 60000 := by
          refine Nat.le_trans (flatten_le K.recWire 70000 _ fun r hr => hK.len r (hmem r (List.mem_of_mem_take hr))) (Nat.mul_le_mul_left _ ?_)
          simp
          omega
        have hnx : pre ++ ((([one, two, three].take k2).flatten ++ l.take (j + 1)).map K.recWire).flatten = pre ++ ((([one, two, three].take k2).flatten ++ l.take j).map K.recWire).flatten ++ K.recWire x := by
          rw [take_snoc _ _ _ hx]
          simp
        refine CodeJ.skip ?_
        refine ExJ.thenN ?_
        refine CodeJ.seq ?_
        refine CodeJ.block ?_
        refine CodeJ.seq ?_
        refine CodeJ.region ?_
        refine OpsJ.yld rfl rfl rfl (Yld.indexAddr rfl Tryd.underlying38 sz_86 rfl rfl hj') ?_
        refine OpsJ.yld rfl rfl rfl (Yld.loadN (vs := x.cells) rfl Tryd.underlying86 rfl sz_86 rfl (fun w hI => hI.old hcx (by simp [fp]))) ?_
        refine OpsJ.op rfl ?_
        refine OpJ.alloc rfl rfl rfl zero_86 fun rb hrb => ?_
        refine OpsJ.op rfl ?_
        refine OpJ.storeW (i := 0) rfl rfl rfl rfl sz_86 rfl hxok.one rfl ?_
        refine OpsJ.nil ?_
        refine ExJ.thenN ?_
        refine CodeJ.region ?_
        refine OpsJ.yld rfl rfl rfl (Yld.move rfl rfl) ?_
        refine OpsJ.yld rfl rfl rfl (Yld.loadN (vs := x.cells) rfl Tryd.underlying86 rfl sz_86 rfl (fun w hI => Inv.cells hI (i := 0) rfl rfl (Nat.le_of_ble_eq_true rfl))) ?_
        refine OpsJ.op rfl ?_
        refine OpJ.call (hK.wr x (hmem x hxm)) has_38 rfl rfl rfl rfl rfl [] [0, 1, 2] (by decide) rfl rfl (fun w hI => hxok.keep0 hI.keep) ?_
        rintro _ _ ⟨p58, c58, rfl, rfl⟩
        refine OpsJ.op rfl ?_
        refine OpJ.appendO (i := 2) elt_31 rfl rfl rfl rfl rfl rfl (fun w hI => Bytes.src (Inv.bytes (k := 0) rfl w hI) Tryd.underlying31) (by rw [List.map_append, List.flatten_append, List.length_append, List.length_append]; omega) fun p59 c59 => ?_
        refine OpsJ.yld rfl rfl rfl (Yld.assign rfl rfl) ?_
        refine OpsJ.nil ?_
        refine ExJ.blockN ?_
        refine ExJ.thenN ?_
        refine CodeJ.region ?_
        refine OpsJ.yld rfl rfl rfl (Yld.intBin rfl rfl rfl rfl) ?_
        rw [i64_succ j (by omega)]
        refine OpsJ.yld rfl rfl rfl (Yld.move rfl rfl) ?_
        refine OpsJ.nil ?_
        exact ExJ.againP ⟨j + 1, p59, c59, by omega, rfl, rfl, rfl⟩ (by omega) ⟨rfl, by rw [hnx]; rfl, rfl, rfl, rfl, rfl, rfl, rfl, trivial⟩ fun w hI => by rw [hnx]; exact hI.pick (is := [2, 3]) (by decide) rfl
      · obtain rfl : j = l.length := by omega
        rw [List.take_length]
        refine CodeJ.exit ?_
        refine ExJ.thenX ?_
        refine ExJ.thenX ?_
        refine ExJ.blockHit ?_
        refine ExJ.blockN ?_
        refine ExJ.thenN ?_
        refine CodeJ.region ?_
        refine OpsJ.yld rfl rfl rfl (Yld.intBin rfl rfl rfl rfl) ?_
        rw [i64_succ k2 (by omega)]
        refine OpsJ.yld rfl rfl rfl (Yld.move rfl rfl) ?_
        refine OpsJ.nil ?_
        exact ExJ.againP ⟨k2 + 1, p, q, by omega, rfl, rfl, rfl⟩ (by omega) ⟨rfl, by rw [hnxt]; rfl, rfl, rfl, rfl, trivial⟩ fun w hI => by rw [hnxt]; exact hI
    · obtain rfl : k2 = 3 := by omega
      refine CodeJ.exit ?_
      refine ExJ.thenX ?_
      refine ExJ.thenX ?_
      refine ExJ.blockHit ?_
      refine ExJ.thenN ?_
      refine CodeJ.seq ?_
      refine CodeJ.region ?_
      refine OpsJ.yld rfl rfl rfl (Yld.move rfl rfl) ?_
      refine OpsJ.yld rfl rfl rfl (Yld.assign rfl rfl) ?_
      refine OpsJ.nil ?_
      refine ExJ.thenN ?_
      refine CodeJ.ret ?_
      have he : K.wire ⟨hd, .slice pa qs.length ca, qs, .slice p1 one.length c1, one, .slice p2 two.length c2, two, .slice p3 three.length c3, three⟩ = pre ++ (([one, two, three].take 3).flatten.map K.recWire).flatten := by
        rw [← hhead]
        simp [Kind.wire]
      rw [he]
      exact ExJ.retB Tryd.results18 rfl fun w hI => hI.pick (is := [0]) (by decide) rfl
end Go.Proofs.YtamobccbioafmaaDoor
