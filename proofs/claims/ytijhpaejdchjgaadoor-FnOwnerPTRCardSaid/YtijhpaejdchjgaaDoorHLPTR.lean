/-
  The laws of PTR records that build without compression: their walks.
-/
import Derived.Test.YtijhpaejdchjgaaDoorBg
import Derived.Test.YtijhpaejdchjgaaDoorHAPTR
import Derived.Test.YtijhpaejdchjgaaDoorHKPTR
namespace Go.Proofs.YtijhpaejdchjgaaDoor
open Go
set_option maxRecDepth 100000

theorem stable_PTR : (hostK 12).Stable 5 := fun _ _ => ⟨rfl, rfl, rfl⟩
theorem build_PTR : BuildMeets ptrAdder 21 := fun G h hw pre bufV stepsV ss hn hpre hok => buildPTR_spec G h hw pre bufV stepsV ss hn hpre hok
theorem good_PTR {x : RecD} (hwf : x.wf) (hok : (hostK 12).recOk x = true) : GoodFor (hostK 12) ptrAdder x := by
  have h : nameOk x.name.data.toList = true ∧ nameOk x.host.data.toList = true ∧ (wire x.host.data.toList).length < 65536 := by
    simpa [Kind.recOk, hostK, and_assoc] using hok
  exact good_for hwf h.1 rfl h.2.2 (host_pok h.2.1) fun base m => by show packN base false (cut255 x.host) m = _; rw [cut_ok h.2.1]; exact packN_wire _ _ _ h.2.1
theorem bad_host_PTR {x : RecD} (hwf : x.wf) (hn : nameOk x.name.data.toList = true) (hh : longLabel x.host.data.toList = true) : BadFor ptrAdder x :=
  bad_body hwf hn (by show PName (cut255 x.host); rw [cut_long hh]; exact long_pname hh) fun base m => by show packN base false (cut255 x.host) m = _; rw [cut_long hh]; exact packN_long _ _ _ hh
end Go.Proofs.YtijhpaejdchjgaaDoor
