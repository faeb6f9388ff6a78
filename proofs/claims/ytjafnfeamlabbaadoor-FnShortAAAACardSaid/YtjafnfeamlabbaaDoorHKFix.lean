/-
  Contracts of the reference: bytes of a fixed number.
-/
import Derived.Test.YtjafnfeamlabbaaDoorBg
namespace Go.Proofs.YtjafnfeamlabbaaDoor
open Go
set_option maxRecDepth 100000

theorem fixed_spec (v : Value) (data : List UInt8) (n : Nat) (hn : n ≤ 65536) : Spec Tryd.prog 76 [v, .int .i64 (n : Nat)] [] (fun w => Bytes w v data) (RetB 5 (fixN n data)) := by
  refine Spec.of Tryd.func76 rfl Tryd.ntmps76 rfl fun w0 hby => ?_
  refine CodeJ.seq ?_
  refine CodeJ.region ?_
  refine OpsJ.yld rfl rfl rfl (Yld.assign rfl rfl) ?_
  refine OpsJ.nil ?_
  refine ExJ.thenN ?_
  refine CodeJ.seq ?_
  refine CodeJ.region ?_
  refine OpsJ.yld rfl rfl rfl (Yld.move rfl rfl) ?_
  refine OpsJ.op rfl ?_
  refine OpJ.makeZ (c := n) elt_26 rfl rfl rfl rfl rfl (by omega) fun out hout => ?_
  refine OpsJ.yld rfl rfl rfl (Yld.assign rfl rfl) ?_
  refine OpsJ.nil ?_
  refine ExJ.thenN ?_
  refine CodeJ.seq ?_
  refine CodeJ.region ?_
  refine OpsJ.yld rfl rfl rfl (Yld.move rfl rfl) ?_
  refine OpsJ.yld rfl rfl rfl (Yld.move rfl rfl) ?_
  refine OpsJ.op rfl ?_
  refine OpJ.copyB' (i := 0) (bs := data) (cs' := (bytesV (fixN n data)).toArray) rfl rfl rfl Tryd.underlying26 Tryd.underlying26 sz_5 rfl rfl rfl (fun w hI => hby.keep hI.keep (by simp [fp])) (by simp [bytesV_len]) (setCs_fix n data) ?_
  refine OpsJ.nil ?_
  refine ExJ.thenN ?_
  refine CodeJ.seq ?_
  refine CodeJ.region ?_
  refine OpsJ.yld rfl rfl rfl (Yld.move rfl rfl) ?_
  refine OpsJ.yld rfl rfl rfl (Yld.assign rfl rfl) ?_
  refine OpsJ.nil ?_
  refine ExJ.thenN ?_
  refine CodeJ.ret ?_
  refine ExJ.retB Tryd.results76 rfl fun w hI => ?_
  have hJ := hI.shutB (i := 0) (c := n) (bs := fixN n data) rfl (by simp [bytesV_len, fixN_len]) (by rw [fixN_len]; omega) (by rw [fixN_len]; exact List.take_of_length_le (by simp [bytesV_len, fixN_len]))
  rw [fixN_len] at hJ
  exact hJ
/-- a body of a fixed number of bytes -/
def fixK (n t : Nat) : Kind := ⟨fun r => true && decide ((fixN n r.data).length < 65536), fun r => fixN n r.data, fun _ => t⟩
end Go.Proofs.YtjafnfeamlabbaaDoor
