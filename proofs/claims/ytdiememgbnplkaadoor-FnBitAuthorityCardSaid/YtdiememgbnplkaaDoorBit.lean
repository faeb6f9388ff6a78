/-
  The bits of a header: how they lie in the bytes.
-/
import Derived.Test.YtdiememgbnplkaaDoorFactsB
namespace Go.Proofs.YtdiememgbnplkaaDoor
open Go
set_option maxRecDepth 100000

/-- the header alone, as bytes -/
def head12 (h : Hd) : List UInt8 := [UInt8.ofNat (h.id / 256), UInt8.ofNat h.id, UInt8.ofNat (h.bits / 256), UInt8.ofNat h.bits, 0, 0, 0, 0, 0, 0, 0, 0]
theorem fin_head12 (h : Hd) : (newB [] h).fin = head12 h := by
  rw [newB_fin]
  rfl

theorem buildNil_spec (G : Nat → Addr) (h : Hd) (hw : h.wf) : Spec Tryd.prog 13 [.slice none 0 0, .agg (hdCs h).toArray, .slice none 0 0] [] (fun w => GE G w []) (RunPost (head12 h) []) := by
  have e : (runF noAdder [] false (newB [] h)).1.fin = head12 h := fin_head12 h
  rw [← e]
  exact (buildAsks_spec G h hw [] (.slice none 0 0) (.slice none 0 0) [] (by simp) (by simp) (newB_ok h)).mono (fun w hg => ⟨hg, .inl ⟨none, 0, rfl, rfl⟩, .inl ⟨none, 0, rfl, rfl, rfl⟩, by simp⟩) fun _ _ h => h

theorem ofInt_byte (c : UInt8) : BitVec.ofInt 8 (c.toNat : Int) = c.toBitVec := by
  apply BitVec.eq_of_toNat_eq
  have := c.toNat_lt
  rw [BitVec.toNat_ofInt, UInt8.toNat_toBitVec]
  omega
theorem and_byte (c : UInt8) (m : Nat) (hm : m < 256) : IntKind.u8.wrap ((BitVec.ofInt IntKind.u8.bits (c.toNat : Int) &&& BitVec.ofInt IntKind.u8.bits (m : Int)).toNat : Int) = ((c &&& UInt8.ofNat m).toNat : Int) := by
  have hmm : ((UInt8.ofNat m).toNat : Int) = (m : Int) := by
    have : (UInt8.ofNat m).toNat = m := by simp; omega
    rw [this]
  show IntKind.u8.wrap ((BitVec.ofInt 8 (c.toNat : Int) &&& BitVec.ofInt 8 (m : Int)).toNat : Int) = _
  rw [← hmm, ofInt_byte, ofInt_byte, ← UInt8.toBitVec_and, UInt8.toNat_toBitVec, u8_wrap, UInt8.ofNat_toNat]
theorem andNot_byte (c : UInt8) (m : Nat) (hm : m < 256) : IntKind.u8.wrap ((BitVec.ofInt IntKind.u8.bits (c.toNat : Int) &&& ~~~BitVec.ofInt IntKind.u8.bits (m : Int)).toNat : Int) = ((c &&& ~~~UInt8.ofNat m).toNat : Int) := by
  have hmm : ((UInt8.ofNat m).toNat : Int) = (m : Int) := by
    have : (UInt8.ofNat m).toNat = m := by simp; omega
    rw [this]
  show IntKind.u8.wrap ((BitVec.ofInt 8 (c.toNat : Int) &&& ~~~BitVec.ofInt 8 (m : Int)).toNat : Int) = _
  rw [← hmm, ofInt_byte, ofInt_byte, ← UInt8.toBitVec_not, ← UInt8.toBitVec_and, UInt8.toNat_toBitVec, u8_wrap, UInt8.ofNat_toNat]

theorem ofNat_or (x y : Nat) : UInt8.ofNat (x ||| y) = UInt8.ofNat x ||| UInt8.ofNat y := by
  apply UInt8.toNat_inj.1
  simp only [UInt8.toNat_or, UInt8.toNat_ofNat']
  exact Nat.or_mod_two_pow (n := 8)
theorem or_div (x y : Nat) : (x ||| y) / 256 = x / 256 ||| y / 256 := by
  have h : ∀ z : Nat, z / 256 = z >>> 8 := fun z => by rw [Nat.shiftRight_eq_div_pow]
  rw [h, h, h, Nat.shiftRight_or_distrib]

/-- a bit in a byte: m is one of the eight -/
theorem byte_set (m : Nat) (hm : m ∈ [1, 2, 4, 8, 16, 32, 64, 128]) (b : Nat) (hb : b &&& m = 0) :
    (((UInt8.ofNat (b ||| m) &&& UInt8.ofNat m).toNat : Int) == 0) = false ∧ (((UInt8.ofNat b &&& UInt8.ofNat m).toNat : Int) != 0) = false ∧ UInt8.ofNat (b ||| m) &&& ~~~UInt8.ofNat m = UInt8.ofNat b := by
  have h1 : UInt8.ofNat b &&& UInt8.ofNat m = 0 := by
    apply UInt8.toNat_inj.1
    simp only [UInt8.toNat_and, UInt8.toNat_ofNat']
    have h2 : b % 2 ^ 8 &&& m % 2 ^ 8 = (b &&& m) % 2 ^ 8 := Nat.and_mod_two_pow.symm
    rw [h2, hb]
    rfl
  rw [ofNat_or]
  generalize UInt8.ofNat b = x at *
  have key : ∀ m ∈ [1, 2, 4, 8, 16, 32, 64, 128], ∀ k, k < 256 → UInt8.ofNat k &&& UInt8.ofNat m = 0 →
      ((((UInt8.ofNat k ||| UInt8.ofNat m) &&& UInt8.ofNat m).toNat : Int) == 0) = false ∧ (((UInt8.ofNat k &&& UInt8.ofNat m).toNat : Int) != 0) = false ∧ (UInt8.ofNat k ||| UInt8.ofNat m) &&& ~~~UInt8.ofNat m = UInt8.ofNat k := by
    decide +kernel
  have := key m hm x.toNat x.toNat_lt
  rw [UInt8.ofNat_toNat] at this
  exact this h1

theorem and_or0 (x y m : Nat) (hx : x &&& m = 0) (hy : y &&& m = 0) : (x ||| y) &&& m = 0 := by
  rw [Nat.and_or_distrib_right, hx, hy]
  rfl
theorem flag_and0 (b : Bool) (x m : Nat) (h : x &&& m = 0) : flagN b x &&& m = 0 := by
  cases b
  · exact Nat.zero_and m
  · exact h
theorem op_and0 (m : Nat) (hm : m ∈ [1024, 256, 32]) (op : Nat) (h : op < 16) : op * 2048 % 65536 &&& m = 0 := by
  have key : ∀ m ∈ [1024, 256, 32], ∀ op, op < 16 → op * 2048 % 65536 &&& m = 0 := by decide
  exact key m hm op h
theorem code_and0 (m : Nat) (hm : m ∈ [1024, 256, 32]) (op : Nat) (h : op < 16) : op &&& m = 0 := by
  have key : ∀ m ∈ [1024, 256, 32], ∀ op, op < 16 → op &&& m = 0 := by decide
  exact key m hm op h

theorem cell_of_take {cs : Array Value} {bs : List UInt8} (h : cs.toList.take bs.length = bytesV bs) {k : Nat} {c : UInt8} (hk : bs[k]? = some c) : cs[k]? = some (.int .u8 c.toNat) := by
  have h1 : (bytesV bs)[k]? = some (.int .u8 c.toNat) := by simp [bytesV, hk]
  rw [← h, List.getElem?_take] at h1
  split at h1
  · simpa using h1
  · cases h1
theorem takeB_setCs {cs : Array Value} {bs : List UInt8} (h : cs.toList.take bs.length = bytesV bs) (hs : bs.length ≤ cs.size) (k : Nat) (c : UInt8) (hk : k < bs.length) : (setCs cs k [.int .u8 c.toNat]).toList.take bs.length = bytesV (bs.set k c) := by
  have e : (setCs cs k [.int .u8 c.toNat]).toList = cs.toList.set k (.int .u8 c.toNat) := by
    rw [List.set_eq_take_append_cons_drop, if_pos (by simp; omega)]
    simp [setCs]
  rw [e, List.take_set, h]
  simp [bytesV, List.map_set]
theorem Inv.bytesBlk {w0 w : World} {S : List Nat} {H : List Res} (hI : Inv w0 S H w) {i b c : Nat} {cs : Array Value} {T : TypeId} {bs : List UInt8} (hi : H[i]? = some (.blk b cs T)) (h : cs.toList.take bs.length = bytesV bs) (hs : bs.length ≤ cs.size) : Bytes w (.slice (some ⟨b, 0, none⟩) bs.length c) bs :=
  .inr ⟨b, 0, c, rfl, hI.cells hi (by simpa [bytesV_len] using h) (by rw [bytesV_len]; omega)⟩
theorem take_set {cs : Array Value} {bs : List UInt8} (h : cs.toList.take bs.length = bytesV bs) (k : Nat) (c : UInt8) : (cs.setIfInBounds k (.int .u8 c.toNat)).toList.take bs.length = bytesV (bs.set k c) := by
  rw [Array.toList_setIfInBounds, List.take_set, h]
  simp [bytesV, List.map_set]
end Go.Proofs.YtdiememgbnplkaaDoor
