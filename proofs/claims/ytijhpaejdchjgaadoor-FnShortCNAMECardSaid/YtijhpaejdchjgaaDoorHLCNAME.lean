/-
  The laws of CNAME records that build without compression: their walks.
-/
import Derived.Test.YtijhpaejdchjgaaDoorBg
import Derived.Test.YtijhpaejdchjgaaDoorHACNAME
import Derived.Test.YtijhpaejdchjgaaDoorHKCNAME
namespace Go.Proofs.YtijhpaejdchjgaaDoor
open Go
set_option maxRecDepth 100000

theorem stable_CNAME : (hostK 5).Stable 3 := fun _ _ => ⟨rfl, rfl, rfl⟩
theorem build_CNAME : BuildMeets cnameAdder 25 := fun G h hw pre bufV stepsV ss hn hpre hok => buildCNAME_spec G h hw pre bufV stepsV ss hn hpre hok
theorem good_CNAME {x : RecD} (hwf : x.wf) (hok : (hostK 5).recOk x = true) : GoodFor (hostK 5) cnameAdder x := by
  have h : nameOk x.name.data.toList = true ∧ nameOk x.host.data.toList = true ∧ (wire x.host.data.toList).length < 65536 := by
    simpa [Kind.recOk, hostK, and_assoc] using hok
  exact good_for hwf h.1 rfl h.2.2 (host_pok h.2.1) fun base m => by show packN base false (cut255 x.host) m = _; rw [cut_ok h.2.1]; exact packN_wire _ _ _ h.2.1
theorem bad_host_CNAME {x : RecD} (hwf : x.wf) (hn : nameOk x.name.data.toList = true) (hh : longLabel x.host.data.toList = true) : BadFor cnameAdder x :=
  bad_body hwf hn (by show PName (cut255 x.host); rw [cut_long hh]; exact long_pname hh) fun base m => by show packN base false (cut255 x.host) m = _; rw [cut_long hh]; exact packN_long _ _ _ hh

theorem fnRefusedCNAME_spec (G : GEnv) (h : Hd) (hw : h.wf) (bad good : RecD) (hbw : bad.wf) (hgw : good.wf) :
    Spec Tryd.prog 8 [.agg (hdCs h).toArray, .agg bad.cells.toArray, .agg good.cells.toArray] [] (fun w => GE G w [] ∧ RecOk w bad ∧ RecOk w good) (fun r H' => r = .bool true ∧ H' = []) := by
  refine Spec.of Tryd.func8 rfl Tryd.ntmps8 rfl fun w0 hR => ?_
  obtain ⟨hge, hrb, hrg⟩ := hR
  refine CodeJ.seq ?_
  refine CodeJ.region ?_
  refine OpsJ.op rfl ?_
  refine OpJ.box rfl rfl rfl rfl fun hd hhd => ?_
  refine OpsJ.op rfl ?_
  refine OpJ.box rfl rfl rfl rfl fun bd hbd => ?_
  refine OpsJ.op rfl ?_
  refine OpJ.box rfl rfl rfl rfl fun gd hgd => ?_
  refine OpsJ.yld rfl rfl rfl (Yld.assign rfl rfl) ?_
  refine OpsJ.nil ?_
  refine ExJ.thenN ?_
  refine CodeJ.seq ?_
  refine CodeJ.seq ?_
  refine CodeJ.region ?_
  refine OpsJ.yld rfl rfl rfl (Yld.fieldAddr fa_43_0 rfl rfl) ?_
  refine OpsJ.yld rfl rfl rfl (Yld.load1 rfl Tryd.underlying9 rfl rfl (fun w hI => Inv.cell1 hI (i := 1) rfl rfl)) ?_
  refine OpsJ.op rfl ?_
  refine OpJ.call (longLabel_spec bad.name (Nat.le_trans hbw.name (Nat.le_of_ble_eq_true rfl))) has_23 rfl rfl rfl rfl rfl [] [0, 1, 2] (by decide) rfl rfl (fun _ _ => trivial) ?_
  rintro _ _ ⟨rfl, rfl⟩
  refine OpsJ.yld rfl rfl rfl (Yld.not rfl rfl) ?_
  refine OpsJ.nil ?_
  refine ExJ.thenN ?_
  refine CodeJ.cond rfl (fun c10 => ?_) (fun c10 => ?_)
  · refine CodeJ.seq ?_
    refine CodeJ.region ?_
    refine OpsJ.yld rfl rfl rfl (Yld.assign rfl rfl) ?_
    refine OpsJ.nil ?_
    refine ExJ.thenN ?_
    refine CodeJ.ret ?_
    refine ExJ.thenR ?_
    exact ExJ.ret1 Tryd.results8 rfl ⟨rfl, rfl⟩ fun w hI => hI.pick (is := []) (by decide) rfl
  · have hll : longLabel bad.name.data.toList = true := by simpa using c10
    refine CodeJ.skip ?_
    refine ExJ.thenN ?_
    refine CodeJ.seq ?_
    refine CodeJ.region ?_
    refine OpsJ.yld rfl rfl rfl (Yld.loadN (vs := hdCs h) rfl Tryd.underlying24 rfl sz_24 rfl (fun w hI => Inv.whole hI (i := 2) rfl)) ?_
    refine OpsJ.yld rfl rfl rfl (Yld.loadN (vs := bad.cells) rfl Tryd.underlying43 rfl sz_43 rfl (fun w hI => Inv.whole hI (i := 1) rfl)) ?_
    refine OpsJ.yld rfl rfl rfl (Yld.loadN (vs := good.cells) rfl Tryd.underlying43 rfl sz_43 rfl (fun w hI => Inv.whole hI (i := 0) rfl)) ?_
    refine OpsJ.op rfl ?_
    refine OpJ.call (refused_spec (hostK 5) 3 (by decide) stable_CNAME cnameAdder 25 has_25 build_CNAME G h hw bad good hgw (bad_name hbw hll) (good_CNAME hgw) (fun pv => one_CNAME _ rfl (specRec_fit hgw.fit _ _))) has_24 rfl rfl rfl rfl rfl [] [0, 1, 2] (by decide) rfl rfl (fun w hI => ⟨hge.call hI (is := []) rfl, hrb.keep0 hI.keep, hrg.keep0 hI.keep⟩) ?_
    rintro _ _ ⟨rfl, rfl⟩
    refine OpsJ.yld rfl rfl rfl (Yld.assign rfl rfl) ?_
    refine OpsJ.nil ?_
    refine ExJ.thenN ?_
    refine CodeJ.ret ?_
    exact ExJ.ret1 Tryd.results8 rfl ⟨rfl, rfl⟩ fun w hI => hI.pick (is := []) (by decide) rfl
end Go.Proofs.YtijhpaejdchjgaaDoor
