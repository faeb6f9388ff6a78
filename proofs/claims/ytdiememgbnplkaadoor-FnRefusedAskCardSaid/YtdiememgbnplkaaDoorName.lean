/-
  The names of the package: nameOf.
-/
import Derived.Test.YtdiememgbnplkaaDoorFacts
import Derived.Test.YtdiememgbnplkaaDoorWrap
namespace Go.Proofs.YtdiememgbnplkaaDoor
open Go
set_option maxRecDepth 100000

/-- a Name of at most 255 bytes -/
def nameCs (l : List UInt8) : List Value := bytesV l ++ (List.replicate (255 - l.length) (Value.int .u8 0) ++ [.int .u8 l.length])
theorem nameCs_len (l : List UInt8) (h : l.length ≤ 255) : (nameCs l).length = 256 := by
  simp [nameCs, bytesV_len]
  omega
theorem nameCs_one (l : List UInt8) : oneCells (nameCs l) = true := by
  simp [oneCells, nameCs, bytesV, Value.oneCell']
theorem nameCs_get (l : List UInt8) (i : Nat) (c : UInt8) (h : l[i]? = some c) : (nameCs l)[i]? = some (.int .u8 c.toNat) := by
  have hl := (List.getElem?_eq_some_iff.1 h).1
  rw [nameCs, List.getElem?_append_left (by rw [bytesV_len]; exact hl)]
  simp [bytesV, h]
theorem nameCs_size (l : List UInt8) (h : l.length ≤ 255) : (nameCs l)[255]? = some (.int .u8 l.length) := by
  rw [nameCs, ← List.append_assoc, List.getElem?_append_right (by simp [bytesV_len]; omega)]
  simp [bytesV_len]
  have : 255 - (l.length + (255 - l.length)) = 0 := by omega
  rw [this]
  rfl
def cut255 (s : ByteArray) : List UInt8 := s.data.toList.take 255
theorem cut255_len (s : ByteArray) : (cut255 s).length ≤ 255 := List.length_take_le _ _

theorem name_made (l : List UInt8) (h : l.length ≤ 255) : setCs (setCs (List.replicate 256 (Value.int .u8 0)).toArray 0 (bytesV l)) 255 [.int .u8 l.length] = (nameCs l).toArray := by
  have e1 : setCs (List.replicate 256 (Value.int .u8 0)).toArray 0 (bytesV l) = (bytesV l ++ (List.replicate (255 - l.length) (Value.int .u8 0) ++ [Value.int .u8 0])).toArray := by
    simp only [setCs, List.take_zero, List.nil_append, Nat.zero_add, List.drop_replicate, bytesV_len]
    have h1 : 256 - l.length = (255 - l.length) + 1 := by omega
    rw [h1, List.replicate_succ']
  rw [e1, ← List.append_assoc]
  simp only [setCs]
  have h2 : (bytesV l ++ List.replicate (255 - l.length) (Value.int .u8 0)).length = 255 := by simp [bytesV_len]; omega
  rw [List.take_left' h2]
  have h3 : ((bytesV l ++ List.replicate (255 - l.length) (Value.int .u8 0)) ++ [Value.int .u8 0]).drop (255 + [Value.int .u8 (l.length : Nat)].length) = [] := by
    apply List.drop_of_length_le
    simp [bytesV_len]
    omega
  rw [h3]
  simp [nameCs]

theorem nameOf_spec (s : ByteArray) : Spec Tryd.prog 61 [.string s] [] (fun _ => True) (fun r H' => r = .agg (nameCs (cut255 s)).toArray ∧ H' = []) := by
  refine Spec.of Tryd.func61 rfl Tryd.ntmps61 rfl fun w0 _ => ?_
  have hl := cut255_len s
  have hsz := nameCs_len (cut255 s) hl
  refine CodeJ.seq ?_
  refine CodeJ.region ?_
  refine OpsJ.op rfl ?_
  refine OpJ.alloc rfl rfl rfl zero_103 fun res hres => ?_
  refine OpsJ.nil ?_
  refine ExJ.thenN ?_
  refine CodeJ.seq ?_
  refine CodeJ.region ?_
  refine OpsJ.yld rfl rfl rfl (Yld.build places_103 zero_103 rfl rfl rfl) ?_
  refine OpsJ.op rfl ?_
  refine OpJ.alloc rfl rfl rfl zero_103 fun nm hnm => ?_
  refine OpsJ.op rfl ?_
  refine OpJ.storeW (i := 0) rfl rfl rfl rfl sz_103 rfl rfl rfl ?_
  refine OpsJ.nil ?_
  refine ExJ.thenN ?_
  refine CodeJ.seq ?_
  refine CodeJ.region ?_
  refine OpsJ.yld rfl rfl rfl (Yld.fieldAddr fa_103_0 rfl rfl) ?_
  refine OpsJ.yld rfl rfl rfl (Yld.sliceArrAll rfl Tryd.underlying101 sz_5 rfl) ?_
  refine OpsJ.yld rfl rfl rfl (Yld.move rfl rfl) ?_
  refine OpsJ.op rfl ?_
  refine OpJ.copyStr (i := 0) rfl rfl rfl Tryd.underlying29 sz_5 rfl rfl rfl (by decide) ?_
  refine OpsJ.yld rfl rfl rfl (Yld.convInt rfl Tryd.underlying3 Tryd.underlying5 rfl) ?_
  rw [u8_wrap]
  refine OpsJ.yld rfl rfl rfl (Yld.fieldAddr fa_103_1 rfl rfl) ?_
  refine OpsJ.op rfl ?_
  refine OpJ.store1 (i := 0) rfl rfl rfl rfl rfl sz_5 rfl ?_ ?_
  · rw [setCs_size (by rw [bytesV_len]; have : (s.data.toList.take 255).length ≤ 255 := hl; exact Nat.le_trans (Nat.add_le_add_left this 0) (by decide))]; rfl
  have hu : (UInt8.ofNat (s.data.toList.take 255).length).toNat = (s.data.toList.take 255).length := by
    have : (s.data.toList.take 255).length ≤ 255 := hl
    simp
    omega
  rw [hu]
  refine OpsJ.congrH (H' := [.blk nm (nameCs (cut255 s)).toArray 103, _]) (congrArg (fun c => [Res.blk nm c 103, _]) (name_made (cut255 s) hl)) ?_
  refine OpsJ.nil ?_
  refine ExJ.thenN ?_
  refine CodeJ.seq ?_
  refine CodeJ.region ?_
  refine OpsJ.yld rfl rfl rfl (Yld.loadN (vs := nameCs (cut255 s)) rfl Tryd.underlying103 rfl (by rw [hsz]; exact sz_103) rfl (fun w hI => Inv.whole hI (i := 0) rfl)) ?_
  refine OpsJ.op rfl ?_
  refine OpJ.storeW (i := 1) rfl rfl rfl rfl (by show _ = some (nameCs (cut255 s)).toArray.size; rw [List.size_toArray, hsz]; exact sz_103) rfl (nameCs_one _) (by show (nameCs (cut255 s)).toArray.size = _; rw [List.size_toArray, hsz]; rfl) ?_
  refine OpsJ.nil ?_
  refine ExJ.thenN ?_
  refine CodeJ.ret ?_
  exact ExJ.retC (vs := nameCs (cut255 s)) Tryd.results61 rfl Tryd.underlying103 rfl (by rw [hsz]; exact sz_103) (fun w hI => Inv.whole hI (i := 1) rfl) ⟨rfl, rfl⟩ fun w hI => hI.pick (is := []) (by decide) rfl

end Go.Proofs.YtdiememgbnplkaaDoor
