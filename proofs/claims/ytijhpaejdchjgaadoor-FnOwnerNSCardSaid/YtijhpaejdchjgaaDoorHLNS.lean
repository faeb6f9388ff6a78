/-
  The laws of NS records that build without compression: their walks.
-/
import Derived.Test.YtijhpaejdchjgaaDoorBg
import Derived.Test.YtijhpaejdchjgaaDoorHANS
import Derived.Test.YtijhpaejdchjgaaDoorHKNS
namespace Go.Proofs.YtijhpaejdchjgaaDoor
open Go
set_option maxRecDepth 100000

theorem stable_NS : (hostK 2).Stable 2 := fun _ _ => ⟨rfl, rfl, rfl⟩
theorem build_NS : BuildMeets nsAdder 16 := fun G h hw pre bufV stepsV ss hn hpre hok => buildNS_spec G h hw pre bufV stepsV ss hn hpre hok
theorem good_NS {x : RecD} (hwf : x.wf) (hok : (hostK 2).recOk x = true) : GoodFor (hostK 2) nsAdder x := by
  have h : nameOk x.name.data.toList = true ∧ nameOk x.host.data.toList = true ∧ (wire x.host.data.toList).length < 65536 := by
    simpa [Kind.recOk, hostK, and_assoc] using hok
  exact good_for hwf h.1 rfl h.2.2 (host_pok h.2.1) fun base m => by show packN base false (cut255 x.host) m = _; rw [cut_ok h.2.1]; exact packN_wire _ _ _ h.2.1
theorem bad_host_NS {x : RecD} (hwf : x.wf) (hn : nameOk x.name.data.toList = true) (hh : longLabel x.host.data.toList = true) : BadFor nsAdder x :=
  bad_body hwf hn (by show PName (cut255 x.host); rw [cut_long hh]; exact long_pname hh) fun base m => by show packN base false (cut255 x.host) m = _; rw [cut_long hh]; exact packN_long _ _ _ hh
end Go.Proofs.YtijhpaejdchjgaaDoor
