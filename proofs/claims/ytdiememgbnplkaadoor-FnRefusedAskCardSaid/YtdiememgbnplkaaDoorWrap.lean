/-
  Small facts of numbers and lists.
-/
import Derived.Test.YtdiememgbnplkaaDoorMem4
namespace Go.Proofs.YtdiememgbnplkaaDoor
open Go
theorem u8_wrap (x : Nat) : IntKind.u8.wrap (x : Int) = ((UInt8.ofNat x).toNat : Int) := by
  simp [IntKind.wrap, IntKind.bits, IntKind.signed]
theorem shr8 (x : Nat) : ((x : Int).fdiv (2 ^ min (8 : Int).toNat IntKind.u16.bits)) = ((x / 256 : Nat) : Int) := by
  simp [IntKind.bits]
  rw [Int.fdiv_eq_ediv_of_nonneg _ (by omega)]
theorem shr16 (x : Nat) : ((x : Int).fdiv (2 ^ min (16 : Int).toNat IntKind.u32.bits)) = ((x / 65536 : Nat) : Int) := by
  simp [IntKind.bits]
  rw [Int.fdiv_eq_ediv_of_nonneg _ (by omega)]
theorem u16_wrap (x : Nat) : IntKind.u16.wrap (x : Int) = ((x % 65536 : Nat) : Int) := by
  simp [IntKind.wrap, IntKind.bits, IntKind.signed]
theorem i64_wrap (x : Nat) (h : x ≤ 9223372036854775807) : IntKind.i64.wrap (x : Int) = (x : Int) := IntWalk.i64_in _ (by omega)
theorem i64_succ (x : Nat) (h : x < 9223372036854775807) : IntKind.i64.wrap ((x : Int) + 1) = ((x + 1 : Nat) : Int) := by
  rw [← i64_wrap (x + 1) (by omega)]
  rfl
theorem take_snoc {α : Type} (l : List α) (k : Nat) (c : α) (h : l[k]? = some c) : l.take (k + 1) = l.take k ++ [c] := by
  rw [List.take_add_one, h]
  rfl
theorem dot_iff (c : UInt8) : (((c.toNat : Int) != 46) = true) ↔ c ≠ 46 := by
  have h1 : ((c.toNat : Int) = 46) ↔ c = 46 := by
    constructor
    · intro h
      have h2 : c.toNat = 46 := by omega
      exact UInt8.toNat_inj.1 h2
    · rintro rfl; rfl
  simp [bne, h1]
theorem dot_iff' (c : UInt8) : (((c.toNat : Int) != 46) = false) ↔ c = 46 := by
  have := dot_iff c
  cases h : ((c.toNat : Int) != 46) with
  | true => simp [h] at this; simp [this]
  | false => simp [h] at this; simp [this]
theorem dotE (c : UInt8) : (((c.toNat : Int) == 46) = true) ↔ c = 46 := by
  have := dot_iff' c
  cases h : ((c.toNat : Int) == 46) with
  | true => simp [bne, h] at this; simp [this]
  | false => simp [bne, h] at this; simp [this]
theorem dotE' (c : UInt8) : (((c.toNat : Int) == 46) = false) ↔ ¬ c = 46 := by
  have := dotE c
  cases h : ((c.toNat : Int) == 46) with
  | true => simp [h] at this; simp [this]
  | false => simp [h] at this; simp [this]
theorem not_not_of {p : Prop} (h : p) : ¬ ¬ p := fun g => g h
theorem str_get (s : ByteArray) (k : Nat) (h : k < s.size) : ∃ c, s.data.toList[k]? = some c := ⟨s.data.toList[k]'(by simpa using h), List.getElem?_eq_getElem _⟩
theorem str_len (s : ByteArray) : s.data.toList.length = s.size := by simp

theorem toList_eq (s : ByteArray) : s.toList = s.data.toList := ByteArray.toList_eq s
end Go.Proofs.YtdiememgbnplkaaDoor
