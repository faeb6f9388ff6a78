/-
  The laws of SRV records that build without compression: their walks.
-/
import Derived.Test.YtijhpaejdchjgaaDoorBg
import Derived.Test.YtijhpaejdchjgaaDoorHASRV
import Derived.Test.YtijhpaejdchjgaaDoorHKSRV
namespace Go.Proofs.YtijhpaejdchjgaaDoor
open Go
set_option maxRecDepth 100000

theorem stable_SRV : srvK.Stable 9 := fun _ _ => ⟨rfl, rfl, rfl⟩
theorem build_SRV : BuildMeets srvAdder 27 := fun G h hw pre bufV stepsV ss hn hpre hok => buildSRV_spec G h hw pre bufV stepsV ss hn hpre hok
theorem okn_SRV {x : RecD} (hok : srvK.recOk x = true) : nameOk x.name.data.toList = true ∧ nameOk x.host.data.toList = true ∧ (srvK.body x).length < 65536 := by
  have h := hok
  simp only [Kind.recOk, srvK, Bool.and_eq_true, decide_eq_true_eq] at h
  exact ⟨h.1, h.2.1, h.2.2⟩
theorem good_SRV {x : RecD} (hwf : x.wf) (hok : srvK.recOk x = true) : GoodFor srvK srvAdder x := by
  have h := okn_SRV hok
  exact good_for hwf h.1 rfl h.2.2 (host_pok h.2.1) fun base m => by
    show srvP base false (x.n1 % 65536) (x.n2 % 65536) (x.n3 % 65536) (cut255 x.host) m = _
    rw [cut_ok h.2.1]
    simp only [srvP, packN_wire _ _ _ h.2.1]
    simp [srvK, srvBytes]
theorem bad_host_SRV {x : RecD} (hwf : x.wf) (hn : nameOk x.name.data.toList = true) (hh : longLabel x.host.data.toList = true) : BadFor srvAdder x :=
  bad_body hwf hn (by show PName (cut255 x.host); rw [cut_long hh]; exact long_pname hh) fun base m => by
    show srvP base false (x.n1 % 65536) (x.n2 % 65536) (x.n3 % 65536) (cut255 x.host) m = _
    rw [cut_long hh]
    simp only [srvP, packN_long _ _ _ hh]

theorem fnHostSRV_spec (G : GEnv) (h : Hd) (hw : h.wf) (bad good : RecD) (hbw : bad.wf) (hgw : good.wf) :
    Spec Tryd.prog 10 [.agg (hdCs h).toArray, .agg bad.cells.toArray, .agg good.cells.toArray] [] (fun w => GE G w [] ∧ RecOk w bad ∧ RecOk w good) (fun r H' => r = .bool true ∧ H' = []) := by
  refine Spec.of Tryd.func10 rfl Tryd.ntmps10 rfl fun w0 hR => ?_
  obtain ⟨hge, hrb, hrg⟩ := hR
  refine CodeJ.seq ?_
  refine CodeJ.region ?_
  refine OpsJ.op rfl ?_
  refine OpJ.box rfl rfl rfl rfl fun hd hhd => ?_
  refine OpsJ.op rfl ?_
  refine OpJ.box rfl rfl rfl rfl fun bd hbd => ?_
  refine OpsJ.op rfl ?_
  refine OpJ.box rfl rfl rfl rfl fun gd hgd => ?_
  refine OpsJ.yld rfl rfl rfl (Yld.assign rfl rfl) ?_
  refine OpsJ.nil ?_
  refine ExJ.thenN ?_
  refine CodeJ.seq ?_
  refine CodeJ.seq ?_
  refine CodeJ.region ?_
  refine OpsJ.yld rfl rfl rfl (Yld.fieldAddr fa_43_7 rfl rfl) ?_
  refine OpsJ.yld rfl rfl rfl (Yld.load1 rfl Tryd.underlying9 rfl rfl (fun w hI => Inv.cell1 hI (i := 1) rfl rfl)) ?_
  refine OpsJ.op rfl ?_
  refine OpJ.call (longLabel_spec bad.host (Nat.le_trans hbw.host (Nat.le_of_ble_eq_true rfl))) has_23 rfl rfl rfl rfl rfl [] [0, 1, 2] (by decide) rfl rfl (fun _ _ => trivial) ?_
  rintro _ _ ⟨rfl, rfl⟩
  refine OpsJ.yld rfl rfl rfl (Yld.not rfl rfl) ?_
  refine OpsJ.yld rfl rfl rfl (Yld.move rfl rfl) ?_
  refine OpsJ.splitB (s := 11) rfl (fun g11 => ?_) (fun g11 => ?_)
  · refine OpsJ.opF rfl rfl rfl rfl rfl rfl ?_
    refine OpsJ.opF rfl rfl rfl rfl rfl rfl ?_
    refine OpsJ.opF rfl rfl rfl rfl rfl rfl ?_
    refine OpsJ.opF rfl rfl rfl rfl rfl rfl ?_
    refine OpsJ.yld rfl rfl rfl (Yld.pickT rfl rfl rfl) ?_
    refine OpsJ.nil ?_
    refine ExJ.thenN ?_
    refine CodeJ.condT rfl ?_
    refine CodeJ.seq ?_
    refine CodeJ.region ?_
    refine OpsJ.yld rfl rfl rfl (Yld.assign rfl rfl) ?_
    refine OpsJ.nil ?_
    refine ExJ.thenN ?_
    refine CodeJ.ret ?_
    refine ExJ.thenR ?_
    exact ExJ.ret1 Tryd.results10 rfl ⟨rfl, rfl⟩ fun w hI => hI.pick (is := []) (by decide) rfl
  · refine OpsJ.opT rfl rfl rfl ?_
    refine OpJ.yld rfl rfl (Yld.fieldAddr fa_43_0 rfl rfl) ?_
    refine OpsJ.opT rfl rfl rfl ?_
    refine OpJ.yld rfl rfl (Yld.load1 rfl Tryd.underlying9 rfl rfl (fun w hI => Inv.cell1 hI (i := 1) rfl rfl)) ?_
    refine OpsJ.opT rfl rfl rfl ?_
    refine OpJ.call (nameOk_spec bad.name (Nat.le_trans hbw.name (Nat.le_of_ble_eq_true rfl))) has_26 rfl rfl rfl rfl rfl [] [0, 1, 2] (by decide) rfl rfl (fun _ _ => trivial) ?_
    rintro _ _ ⟨rfl, rfl⟩
    refine OpsJ.opT rfl rfl rfl ?_
    refine OpJ.yld rfl rfl (Yld.not rfl rfl) ?_
    refine OpsJ.yld rfl rfl rfl (Yld.pickF rfl rfl rfl) ?_
    refine OpsJ.nil ?_
    refine ExJ.thenN ?_
    refine CodeJ.cond rfl (fun c16 => ?_) (fun c16 => ?_)
    · refine CodeJ.seq ?_
      refine CodeJ.region ?_
      refine OpsJ.yld rfl rfl rfl (Yld.assign rfl rfl) ?_
      refine OpsJ.nil ?_
      refine ExJ.thenN ?_
      refine CodeJ.ret ?_
      refine ExJ.thenR ?_
      exact ExJ.ret1 Tryd.results10 rfl ⟨rfl, rfl⟩ fun w hI => hI.pick (is := []) (by decide) rfl
    · have hll : longLabel bad.host.data.toList = true := by simpa using g11
      have hnn : nameOk bad.name.data.toList = true := by simpa using c16
      refine CodeJ.skip ?_
      refine ExJ.thenN ?_
      refine CodeJ.seq ?_
      refine CodeJ.region ?_
      refine OpsJ.yld rfl rfl rfl (Yld.loadN (vs := hdCs h) rfl Tryd.underlying24 rfl sz_24 rfl (fun w hI => Inv.whole hI (i := 2) rfl)) ?_
      refine OpsJ.yld rfl rfl rfl (Yld.loadN (vs := bad.cells) rfl Tryd.underlying43 rfl sz_43 rfl (fun w hI => Inv.whole hI (i := 1) rfl)) ?_
      refine OpsJ.yld rfl rfl rfl (Yld.loadN (vs := good.cells) rfl Tryd.underlying43 rfl sz_43 rfl (fun w hI => Inv.whole hI (i := 0) rfl)) ?_
      refine OpsJ.op rfl ?_
      refine OpJ.call (refused_spec srvK 9 (by decide) stable_SRV srvAdder 27 has_27 build_SRV G h hw bad good hgw (bad_host_SRV hbw hnn hll) (good_SRV hgw) (fun pv => one_SRV _ rfl (specRec_fit hgw.fit _ _))) has_24 rfl rfl rfl rfl rfl [] [0, 1, 2] (by decide) rfl rfl (fun w hI => ⟨hge.call hI (is := []) rfl, hrb.keep0 hI.keep, hrg.keep0 hI.keep⟩) ?_
      rintro _ _ ⟨rfl, rfl⟩
      refine OpsJ.yld rfl rfl rfl (Yld.assign rfl rfl) ?_
      refine OpsJ.nil ?_
      refine ExJ.thenN ?_
      refine CodeJ.ret ?_
      exact ExJ.ret1 Tryd.results10 rfl ⟨rfl, rfl⟩ fun w hI => hI.pick (is := []) (by decide) rfl
end Go.Proofs.YtijhpaejdchjgaaDoor
