/-
  The laws of HTTPS records that build without compression: their walks.
-/
import Derived.Test.YtamobccbioafmaaDoorBg
import Derived.Test.YtamobccbioafmaaDoorHAHTTPS
import Derived.Test.YtamobccbioafmaaDoorHKHTTPS
import Derived.Test.YtamobccbioafmaaDoorHSvL
namespace Go.Proofs.YtamobccbioafmaaDoor
open Go
set_option maxRecDepth 100000

theorem stable_HTTPS : httpsK.Stable 12 := fun _ _ => ⟨rfl, rfl, rfl⟩
theorem build_HTTPS : BuildMeets httpsAdder 12 := fun G h hw pre bufV stepsV ss hn hpre hok => buildHTTPS_spec G h hw pre bufV stepsV ss hn hpre hok
theorem sv_ok {x : RecD} {base : Nat} {on : Bool} {m : List (List UInt8 × Nat)} (h2 : nameOk x.host.data.toList = true) : svcP base on (cut255 x.host) x m = .ok (httpsK.body x) m := by
  rw [cut_ok h2]
  simp only [svcP, packN_wire _ _ _ h2]
  rfl
theorem sv_fit {x : RecD} (h3 : (httpsK.body x).length < 65536) : (pairsW x.pairs).length < 65536 := by
  have e : httpsK.body x = be16 (x.n1 % 65536) ++ wire x.host.data.toList ++ pairsW x.pairs := rfl
  rw [e] at h3
  simp only [List.length_append] at h3
  omega
theorem sv_pok {x : RecD} (h1 : ascN x.pairs = true) (h2 : nameOk x.host.data.toList = true) (h3 : (httpsK.body x).length < 65536) : svcQ x ∧ PName (cut255 x.host) ∧ (pairsW x.pairs).length ≤ 4398046511104 :=
  ⟨fun _ => parmsFine_ok h1 (fun p hp => by have := pairs_lt (sv_fit h3) p hp; omega), host_pok h2, by have := sv_fit h3; omega⟩
theorem good_HTTPS {x : RecD} (hwf : x.wf) (hok : httpsK.recOk x = true) : GoodFor httpsK httpsAdder x :=
  good_for hwf (okn_HTTPS hok).1 rfl (okn_HTTPS hok).2.2.2 (sv_pok (okn_HTTPS hok).2.1 (okn_HTTPS hok).2.2.1 (okn_HTTPS hok).2.2.2) fun _ _ => sv_ok (okn_HTTPS hok).2.2.1
theorem bad_host_HTTPS {x : RecD} (hwf : x.wf) (hu : x.upto 1048576) (hn : nameOk x.name.data.toList = true) (hh : longLabel x.host.data.toList = true) : BadFor httpsAdder x :=
  bad_body hwf hn (by show svcQ x ∧ PName (cut255 x.host) ∧ (pairsW x.pairs).length ≤ 4398046511104; exact ⟨fun ⟨_, _, _, h⟩ => (by rw [cut_long hh, packN_long _ _ _ hh] at h; cases h), by rw [cut_long hh]; exact long_pname hh, pairs_fit hu⟩) fun base m => by
    show svcP base false (cut255 x.host) x m = _
    rw [cut_long hh]
    simp only [svcP, packN_long _ _ _ hh]

theorem fnHostHTTPS_spec (G : GEnv) (h : Hd) (hw : h.wf) (bad good : RecD) (hbw : bad.wf) (hgw : good.wf) (hbu : bad.upto 1048576) (hgu : good.upto 1048576) :
    Spec Tryd.prog 9 [.agg (hdCs h).toArray, .agg bad.cells.toArray, .agg good.cells.toArray] [] (fun w => GE G w [] ∧ RecOk w bad ∧ RecOk w good) (fun r H' => r = .bool true ∧ H' = []) := by
  refine Spec.of Tryd.func9 rfl Tryd.ntmps9 rfl fun w0 hR => ?_
  obtain ⟨hge, hrb, hrg⟩ := hR
  refine CodeJ.seq ?_
  refine CodeJ.region ?_
  refine OpsJ.op rfl ?_
  refine OpJ.box rfl rfl rfl rfl fun hd hhd => ?_
  refine OpsJ.op rfl ?_
  refine OpJ.box rfl rfl rfl rfl fun bd hbd => ?_
  refine OpsJ.op rfl ?_
  refine OpJ.box rfl rfl rfl rfl fun gd hgd => ?_
  refine OpsJ.yld rfl rfl rfl (Yld.assign rfl rfl) ?_
  refine OpsJ.nil ?_
  refine ExJ.thenN ?_
  refine CodeJ.seq ?_
  refine CodeJ.seq ?_
  refine CodeJ.region ?_
  refine OpsJ.yld rfl rfl rfl (Yld.fieldAddr fa_35_7 rfl rfl) ?_
  refine OpsJ.yld rfl rfl rfl (Yld.load1 rfl Tryd.underlying9 rfl rfl (fun w hI => Inv.cell1 hI (i := 1) rfl rfl)) ?_
  refine OpsJ.op rfl ?_
  refine OpJ.call (longLabel_spec bad.host (Nat.le_trans hbw.host (Nat.le_of_ble_eq_true rfl))) has_19 rfl rfl rfl rfl rfl [] [0, 1, 2] (by decide) rfl rfl (fun _ _ => trivial) ?_
  rintro _ _ ⟨rfl, rfl⟩
  refine OpsJ.yld rfl rfl rfl (Yld.not rfl rfl) ?_
  refine OpsJ.yld rfl rfl rfl (Yld.move rfl rfl) ?_
  refine OpsJ.splitB (s := 11) rfl (fun g11 => ?_) (fun g11 => ?_)
  · refine OpsJ.opF rfl rfl rfl rfl rfl rfl ?_
    refine OpsJ.opF rfl rfl rfl rfl rfl rfl ?_
    refine OpsJ.opF rfl rfl rfl rfl rfl rfl ?_
    refine OpsJ.opF rfl rfl rfl rfl rfl rfl ?_
    refine OpsJ.yld rfl rfl rfl (Yld.pickT rfl rfl rfl) ?_
    refine OpsJ.nil ?_
    refine ExJ.thenN ?_
    refine CodeJ.condT rfl ?_
    refine CodeJ.seq ?_
    refine CodeJ.region ?_
    refine OpsJ.yld rfl rfl rfl (Yld.assign rfl rfl) ?_
    refine OpsJ.nil ?_
    refine ExJ.thenN ?_
    refine CodeJ.ret ?_
    refine ExJ.thenR ?_
    exact ExJ.ret1 Tryd.results9 rfl ⟨rfl, rfl⟩ fun w hI => hI.pick (is := []) (by decide) rfl
  · refine OpsJ.opT rfl rfl rfl ?_
    refine OpJ.yld rfl rfl (Yld.fieldAddr fa_35_0 rfl rfl) ?_
    refine OpsJ.opT rfl rfl rfl ?_
    refine OpJ.yld rfl rfl (Yld.load1 rfl Tryd.underlying9 rfl rfl (fun w hI => Inv.cell1 hI (i := 1) rfl rfl)) ?_
    refine OpsJ.opT rfl rfl rfl ?_
    refine OpJ.call (nameOk_spec bad.name (Nat.le_trans hbw.name (Nat.le_of_ble_eq_true rfl))) has_23 rfl rfl rfl rfl rfl [] [0, 1, 2] (by decide) rfl rfl (fun _ _ => trivial) ?_
    rintro _ _ ⟨rfl, rfl⟩
    refine OpsJ.opT rfl rfl rfl ?_
    refine OpJ.yld rfl rfl (Yld.not rfl rfl) ?_
    refine OpsJ.yld rfl rfl rfl (Yld.pickF rfl rfl rfl) ?_
    refine OpsJ.nil ?_
    refine ExJ.thenN ?_
    refine CodeJ.cond rfl (fun c16 => ?_) (fun c16 => ?_)
    · refine CodeJ.seq ?_
      refine CodeJ.region ?_
      refine OpsJ.yld rfl rfl rfl (Yld.assign rfl rfl) ?_
      refine OpsJ.nil ?_
      refine ExJ.thenN ?_
      refine CodeJ.ret ?_
      refine ExJ.thenR ?_
      exact ExJ.ret1 Tryd.results9 rfl ⟨rfl, rfl⟩ fun w hI => hI.pick (is := []) (by decide) rfl
    · have hll : longLabel bad.host.data.toList = true := by simpa using g11
      have hnn : nameOk bad.name.data.toList = true := by simpa using c16
      refine CodeJ.skip ?_
      refine ExJ.thenN ?_
      refine CodeJ.seq ?_
      refine CodeJ.region ?_
      refine OpsJ.yld rfl rfl rfl (Yld.loadN (vs := hdCs h) rfl Tryd.underlying24 rfl sz_24 rfl (fun w hI => Inv.whole hI (i := 2) rfl)) ?_
      refine OpsJ.yld rfl rfl rfl (Yld.loadN (vs := bad.cells) rfl Tryd.underlying35 rfl sz_35 rfl (fun w hI => Inv.whole hI (i := 1) rfl)) ?_
      refine OpsJ.yld rfl rfl rfl (Yld.loadN (vs := good.cells) rfl Tryd.underlying35 rfl sz_35 rfl (fun w hI => Inv.whole hI (i := 0) rfl)) ?_
      refine OpsJ.op rfl ?_
      refine OpJ.call (refused_spec httpsK 12 (by decide) stable_HTTPS httpsAdder 12 has_12 build_HTTPS G h hw bad good hgw (bad_host_HTTPS hbw hbu hnn hll) (good_HTTPS hgw) (fun pv => one_HTTPS _ rfl (specRec_fit hgw.fit _ _) (pairs_fit ⟨hgu.1, hgu.2, hgu.3, hgu.4⟩))) has_20 rfl rfl rfl rfl rfl [] [0, 1, 2] (by decide) rfl rfl (fun w hI => ⟨hge.call hI (is := []) rfl, hrb.keep0 hI.keep, hrg.keep0 hI.keep⟩) ?_
      rintro _ _ ⟨rfl, rfl⟩
      refine OpsJ.yld rfl rfl rfl (Yld.assign rfl rfl) ?_
      refine OpsJ.nil ?_
      refine ExJ.thenN ?_
      refine CodeJ.ret ?_
      exact ExJ.ret1 Tryd.results9 rfl ⟨rfl, rfl⟩ fun w hI => hI.pick (is := []) (by decide) rfl

theorem fnRefusedHTTPS_spec (G : GEnv) (h : Hd) (hw : h.wf) (bad good : RecD) (hbw : bad.wf) (hgw : good.wf) (_hbu : bad.upto 1048576) (hgu : good.upto 1048576) :
    Spec Tryd.prog 10 [.agg (hdCs h).toArray, .agg bad.cells.toArray, .agg good.cells.toArray] [] (fun w => GE G w [] ∧ RecOk w bad ∧ RecOk w good) (fun r H' => r = .bool true ∧ H' = []) := by
  refine Spec.of Tryd.func10 rfl Tryd.ntmps10 rfl fun w0 hR => ?_
  obtain ⟨hge, hrb, hrg⟩ := hR
  refine CodeJ.seq ?_
  refine CodeJ.region ?_
  refine OpsJ.op rfl ?_
  refine OpJ.box rfl rfl rfl rfl fun hd hhd => ?_
  refine OpsJ.op rfl ?_
  refine OpJ.box rfl rfl rfl rfl fun bd hbd => ?_
  refine OpsJ.op rfl ?_
  refine OpJ.box rfl rfl rfl rfl fun gd hgd => ?_
  refine OpsJ.yld rfl rfl rfl (Yld.assign rfl rfl) ?_
  refine OpsJ.nil ?_
  refine ExJ.thenN ?_
  refine CodeJ.seq ?_
  refine CodeJ.seq ?_
  refine CodeJ.region ?_
  refine OpsJ.yld rfl rfl rfl (Yld.fieldAddr fa_35_0 rfl rfl) ?_
  refine OpsJ.yld rfl rfl rfl (Yld.load1 rfl Tryd.underlying9 rfl rfl (fun w hI => Inv.cell1 hI (i := 1) rfl rfl)) ?_
  refine OpsJ.op rfl ?_
  refine OpJ.call (longLabel_spec bad.name (Nat.le_trans hbw.name (Nat.le_of_ble_eq_true rfl))) has_19 rfl rfl rfl rfl rfl [] [0, 1, 2] (by decide) rfl rfl (fun _ _ => trivial) ?_
  rintro _ _ ⟨rfl, rfl⟩
  refine OpsJ.yld rfl rfl rfl (Yld.not rfl rfl) ?_
  refine OpsJ.nil ?_
  refine ExJ.thenN ?_
  refine CodeJ.cond rfl (fun c10 => ?_) (fun c10 => ?_)
  · refine CodeJ.seq ?_
    refine CodeJ.region ?_
    refine OpsJ.yld rfl rfl rfl (Yld.assign rfl rfl) ?_
    refine OpsJ.nil ?_
    refine ExJ.thenN ?_
    refine CodeJ.ret ?_
    refine ExJ.thenR ?_
    exact ExJ.ret1 Tryd.results10 rfl ⟨rfl, rfl⟩ fun w hI => hI.pick (is := []) (by decide) rfl
  · have hll : longLabel bad.name.data.toList = true := by simpa using c10
    refine CodeJ.skip ?_
    refine ExJ.thenN ?_
    refine CodeJ.seq ?_
    refine CodeJ.region ?_
    refine OpsJ.yld rfl rfl rfl (Yld.loadN (vs := hdCs h) rfl Tryd.underlying24 rfl sz_24 rfl (fun w hI => Inv.whole hI (i := 2) rfl)) ?_
    refine OpsJ.yld rfl rfl rfl (Yld.loadN (vs := bad.cells) rfl Tryd.underlying35 rfl sz_35 rfl (fun w hI => Inv.whole hI (i := 1) rfl)) ?_
    refine OpsJ.yld rfl rfl rfl (Yld.loadN (vs := good.cells) rfl Tryd.underlying35 rfl sz_35 rfl (fun w hI => Inv.whole hI (i := 0) rfl)) ?_
    refine OpsJ.op rfl ?_
    refine OpJ.call (refused_spec httpsK 12 (by decide) stable_HTTPS httpsAdder 12 has_12 build_HTTPS G h hw bad good hgw (bad_name hbw hll) (good_HTTPS hgw) (fun pv => one_HTTPS _ rfl (specRec_fit hgw.fit _ _) (pairs_fit ⟨hgu.1, hgu.2, hgu.3, hgu.4⟩))) has_20 rfl rfl rfl rfl rfl [] [0, 1, 2] (by decide) rfl rfl (fun w hI => ⟨hge.call hI (is := []) rfl, hrb.keep0 hI.keep, hrg.keep0 hI.keep⟩) ?_
    rintro _ _ ⟨rfl, rfl⟩
    refine OpsJ.yld rfl rfl rfl (Yld.assign rfl rfl) ?_
    refine OpsJ.nil ?_
    refine ExJ.thenN ?_
    refine CodeJ.ret ?_
    exact ExJ.ret1 Tryd.results10 rfl ⟨rfl, rfl⟩ fun w hI => hI.pick (is := []) (by decide) rfl

theorem fnTypeHTTPS_spec (G : GEnv) (h : Hd) (hw : h.wf) (x : RecD) (hxw : x.wf) (number : Nat) (hnum : number < 65536) (hxu : x.upto 1048576) :
    Spec Tryd.prog 4 [.agg (hdCs h).toArray, .agg x.cells.toArray, .int .u16 (number : Nat)] [] (fun w => GE G w [] ∧ RecOk w x) (fun r H' => r = .bool true ∧ H' = []) := by
  refine Spec.of Tryd.func4 rfl Tryd.ntmps4 rfl fun w0 hR => ?_
  obtain ⟨hge, hrx⟩ := hR
  refine CodeJ.seq ?_
  refine CodeJ.region ?_
  refine OpsJ.op rfl ?_
  refine OpJ.box rfl rfl rfl rfl fun hd hhd => ?_
  refine OpsJ.op rfl ?_
  refine OpJ.box rfl rfl rfl rfl fun xb hxb => ?_
  refine OpsJ.yld rfl rfl rfl (Yld.assign rfl rfl) ?_
  refine OpsJ.nil ?_
  refine ExJ.thenN ?_
  refine CodeJ.seq ?_
  refine CodeJ.region ?_
  refine OpsJ.yld rfl rfl rfl (Yld.loadN (vs := hdCs h) rfl Tryd.underlying24 rfl sz_24 rfl (fun w hI => Inv.whole hI (i := 1) rfl)) ?_
  refine OpsJ.yld rfl rfl rfl (Yld.loadN (vs := x.cells) rfl Tryd.underlying35 rfl sz_35 rfl (fun w hI => Inv.whole hI (i := 0) rfl)) ?_
  refine OpsJ.op rfl ?_
  refine OpJ.buildSlice (xs := [.tmp 12]) elt_26 rfl rfl rfl rfl rfl rfl (by rfl) (by decide) fun l1 hl1 => ?_
  refine OpsJ.op rfl ?_
  refine OpJ.call (message_spec (12 : Nat) ⟨h, .slice none 0 0, [], .slice (some ⟨l1, 0, none⟩) 1 1, [x], .slice none 0 0, [], .slice none 0 0, []⟩ ⟨by simp, by simp, by simp, by simp, fun r hr => by simp at hr; subst hr; exact hxw.pairs⟩) has_13 rfl rfl rfl rfl rfl [] [0, 1, 2] (by decide) rfl rfl (fun w hI => ⟨.inl ⟨none, 0, rfl, rfl, rfl⟩, recs_one (hI.hs _ (List.mem_of_getElem? (i := 0) rfl)).1 (hrx.keep0 hI.keep), recs_nil _ _ _, recs_nil _ _ _⟩) ?_
  rintro _ _ ⟨m', q, bs, hq', rfl, hof, hmem, rfl⟩
  obtain ⟨h', va, qs', v1, r1, v2, r2, v3, r3⟩ := m'
  have e1 : h' = h := hof.head
  have e2 : qs' = [] := hof.asks
  obtain ⟨pa, ca, e3⟩ := SpecOf.one hof.one
  have e4 : r2 = [] := hof.two.nil
  have e5 : r3 = [] := hof.three.nil
  simp only at e3
  subst e1 e2 e3 e4 e5
  have hall : ∀ r ∈ [specRec (12 : Nat) x (.slice pa x.pairs.length ca)] ++ [] ++ [], ∃ pv, r = specRec (12 : Nat) x pv := fun r hr => by
    simp at hr
    subst hr
    exact ⟨_, rfl⟩
  have hone : ∀ pv, httpsK.One 12 (specRec (12 : Nat) x pv) := fun pv => one_HTTPS _ rfl (specRec_fit hxw.fit _ _) (pairs_fit ⟨hxu.1, hxu.2, hxu.3, hxu.4⟩)
  refine OpsJ.op rfl ?_
  refine OpJ.alloc rfl rfl rfl zero_40 fun mb hmb => ?_
  refine OpsJ.op rfl ?_
  refine OpJ.storeW (i := 0) rfl rfl rfl rfl sz_40 rfl hof.ones rfl ?_
  refine OpsJ.nil ?_
  refine ExJ.thenN ?_
  refine CodeJ.seq ?_
  refine CodeJ.seq ?_
  refine CodeJ.region ?_
  refine OpsJ.yld rfl rfl rfl (Yld.loadN (vs := MsgD.cells ⟨h', va, [], v1, [specRec (12 : Nat) x (.slice pa x.pairs.length ca)], v2, [], v3, []⟩) rfl Tryd.underlying40 rfl sz_40 rfl (fun w hI => Inv.whole hI (i := 0) rfl)) ?_
  refine OpsJ.op rfl ?_
  refine OpJ.call (ok_spec httpsK ⟨h', va, [], v1, [specRec (12 : Nat) x (.slice pa x.pairs.length ca)], v2, [], v3, []⟩ (Kind.meets_of (k := 12) fun r hr => by obtain ⟨pv, rfl⟩ := hall r hr; exact hone pv) (by simp) (fun r hr => by obtain ⟨pv, rfl⟩ := hall r hr; exact Nat.le_trans hxw.name (Nat.le_of_ble_eq_true rfl)) (by simp)) has_14 rfl rfl rfl rfl rfl [] [0, 1, 2, 3, 4] (by decide) rfl rfl (fun w hI => (hmem w (hI.roGet (i := 1) rfl)).ok hof (fun r hr => by simp at hr; subst hr; exact hrx.keep0 hI.keep)) ?_
  rintro _ _ ⟨rfl, rfl⟩
  refine OpsJ.yld rfl rfl rfl (Yld.not rfl rfl) ?_
  refine OpsJ.nil ?_
  refine ExJ.thenN ?_
  refine CodeJ.cond rfl (fun c17 => ?_) (fun c17 => ?_)
  · refine CodeJ.seq ?_
    refine CodeJ.region ?_
    refine OpsJ.yld rfl rfl rfl (Yld.assign rfl rfl) ?_
    refine OpsJ.nil ?_
    refine ExJ.thenN ?_
    refine CodeJ.ret ?_
    refine ExJ.thenR ?_
    exact ExJ.ret1 Tryd.results4 rfl ⟨rfl, rfl⟩ fun w hI => hI.pick (is := []) (by decide) rfl
  · have hokB : httpsK.okB ⟨h', va, [], v1, [specRec (12 : Nat) x (.slice pa x.pairs.length ca)], v2, [], v3, []⟩ = true := by simpa using c17
    have hxok : httpsK.recOk x = true := by
      have := hokB
      simp only [Kind.okB, Bool.and_eq_true, List.all_cons] at this
      have h2 := this.1.1.1.1.1.1.1.1.2.1
      rwa [stable_HTTPS.recOk] at h2
    have hG : GoodFor httpsK httpsAdder (x.other number) := good_HTTPS (other_wf hxw number hnum) hxok
    have hwr : httpsK.Writes ([specRec (12 : Nat) x (.slice pa x.pairs.length ca)] ++ [] ++ []) := Kind.writes_of (k := 12) (by decide) (fun r hr => by obtain ⟨pv, rfl⟩ := hall r hr; exact hone pv) (fun r hr => by obtain ⟨pv, rfl⟩ := hall r hr; rw [stable_HTTPS.recOk]; exact hxok)
    have hrl : (httpsK.recWire x).length ≤ 70000 := by
      have := hwr.len (specRec (12 : Nat) x (.slice pa x.pairs.length ca)) (by simp)
      rwa [stable_HTTPS.wire] at this
    obtain ⟨hrun, hrf⟩ := type_run httpsK httpsAdder h' (x.other number) hG hrl
    have hrw : httpsK.recWire (x.other number) = httpsK.recWire x := rfl
    rw [hrw] at hrf
    refine CodeJ.skip ?_
    refine ExJ.thenN ?_
    refine CodeJ.seq ?_
    refine CodeJ.region ?_
    refine OpsJ.yld rfl rfl rfl (Yld.loadN (vs := x.cells) rfl Tryd.underlying35 rfl sz_35 rfl (fun w hI => Inv.whole hI (i := 3) rfl)) ?_
    refine OpsJ.op rfl ?_
    refine OpJ.alloc rfl rfl rfl zero_35 fun ob hob => ?_
    refine OpsJ.op rfl ?_
    refine OpJ.storeW (i := 0) rfl rfl rfl rfl sz_35 rfl hrx.one rfl ?_
    refine OpsJ.nil ?_
    refine ExJ.thenN ?_
    refine CodeJ.seq ?_
    refine CodeJ.region ?_
    refine OpsJ.yld rfl rfl rfl (Yld.move rfl rfl) ?_
    refine OpsJ.yld rfl rfl rfl (Yld.fieldAddr fa_35_4 rfl rfl) ?_
    refine OpsJ.op rfl ?_
    refine OpJ.store1 (i := 0) rfl rfl rfl rfl rfl sz_22 rfl rfl ?_
    refine OpsJ.nil ?_
    refine ExJ.thenN ?_
    refine CodeJ.seq ?_
    refine CodeJ.region ?_
    refine OpsJ.yld rfl rfl rfl (Yld.move rfl rfl) ?_
    refine OpsJ.yld rfl rfl rfl (Yld.fieldAddr fa_35_1 rfl rfl) ?_
    refine OpsJ.op rfl ?_
    refine OpJ.store1 (i := 0) rfl rfl rfl rfl rfl sz_22 rfl rfl ?_
    refine OpsJ.nil ?_
    refine ExJ.thenN ?_
    refine CodeJ.seq ?_
    refine CodeJ.region ?_
    refine OpsJ.yld rfl rfl rfl (Yld.loadN (vs := (x.other number).cells) rfl Tryd.underlying35 rfl sz_35 rfl (fun w hI => Inv.whole hI (i := 0) rfl)) ?_
    refine OpsJ.op rfl ?_
    refine OpJ.buildSlice (xs := [.tmp 23]) elt_26 rfl rfl rfl rfl rfl rfl (by rfl) (by decide) fun k1 hk1 => ?_
    refine OpsJ.op rfl ?_
    refine OpJ.buildSlice (xs := [.tmp 24]) elt_90 rfl rfl rfl rfl rfl rfl (by rfl) (by decide) fun lists hlists => ?_
    refine OpsJ.op rfl ?_
    refine OpJ.call (steps_spec false [] [[x.other number]] (.slice none 0 0) _ [.slice (some ⟨k1, 0, none⟩) 1 1] rfl (by simp [stepsL, secSteps])) has_15 rfl rfl rfl rfl rfl [] [0, 1, 2, 3, 4, 5, 6, 7] (by decide) rfl rfl (fun w hI => ⟨.inl ⟨none, 0, rfl, rfl, rfl⟩, Own.row (hI.hs _ (List.mem_of_getElem? (i := 0) rfl)).1, fun i v rs h1 h2 => by
    have q1 : Recs w (.slice (some ⟨k1, 0, none⟩) 1 1) [x.other number] := recs_one (hI.hs _ (List.mem_of_getElem? (i := 1) rfl)).1 (other_ok (hrx.keep0 hI.keep) number)
    match i with
    | 0 => simp at h1 h2; subst h1 h2; exact q1
    | i + 1 => simp at h1⟩) ?_
    rintro _ _ ⟨p26, c26, rfl, rfl⟩
    refine OpsJ.yld rfl rfl rfl (Yld.assign rfl rfl) ?_
    refine OpsJ.nil ?_
    refine ExJ.thenN ?_
    refine CodeJ.seq ?_
    refine CodeJ.region ?_
    refine OpsJ.yld rfl rfl rfl (Yld.loadN (vs := hdCs h') rfl Tryd.underlying24 rfl sz_24 rfl (fun w hI => Inv.whole hI (i := 8) rfl)) ?_
    refine OpsJ.yld rfl rfl rfl (Yld.move rfl rfl) ?_
    refine OpsJ.op rfl ?_
    refine OpJ.call (buildHTTPS_spec G h' hw [] (.slice none 0 0) _ (stepsL false [] [[x.other number]]) (by simp [stepsL, secSteps]) (by simp) hrun) has_12 rfl rfl rfl rfl rfl [] [0, 1, 2, 3, 4, 5, 6, 7, 8] (by decide) rfl rfl (fun w hI => ⟨hge.call hI (is := []) rfl, .inl ⟨none, 0, rfl, rfl⟩, Own.row (hI.hs _ (List.mem_of_getElem? (i := 0) rfl)).1, stepsL_rec (fun l hl r hr => by simp at hl; subst hl; simp at hr; subst hr; exact other_ok (hrx.keep0 hI.keep) number)⟩) ?_
    rintro _ _ ⟨p1, c1, p2, c2, rfl, rfl⟩
    rw [hrf]
    simp only
    refine OpsJ.op rfl ?_
    refine OpJ.alloc rfl rfl rfl zero_47 fun got hgot => ?_
    refine OpsJ.op rfl ?_
    refine OpJ.storeW (i := 0) rfl rfl rfl rfl sz_47 rfl rfl rfl ?_
    refine OpsJ.nil ?_
    refine ExJ.thenN ?_
    refine CodeJ.seq ?_
    refine CodeJ.any (fuel := 11) (listed := #[false, false, false, false, false, false, false, false, false, false, false]) [0, 1, 2, 3, 4, 5, 6, 7, 8, 9, 10, 11] rfl follows_mixed rfl rfl ?_
    refine AnyJ.take (fuel := 10) (listed' := #[true, false, false, false, false, false, false, false, false, false, false]) 0 rfl (by kernel_rfl) (by kernel_rfl) (by kernel_rfl) rfl rfl rfl rfl (Yld.loadN (vs := [.slice p1 _ c1, .slice p2 _ c2, .int .i64 0]) rfl Tryd.underlying47 rfl sz_47 rfl (fun w hI => Inv.whole hI (i := 0) rfl)) (fun w hI => hI.pick (is := [0, 1, 2, 3, 4, 5, 6, 7, 8, 9, 10, 11]) (by decide) rfl) ?_
    refine AnyJ.take (fuel := 9) (listed' := #[true, true, false, false, false, false, false, false, false, false, false]) 1 rfl (by kernel_rfl) (by kernel_rfl) (by kernel_rfl) rfl rfl rfl rfl (Yld.move rfl rfl) (fun w hI => hI.pick (is := [0, 1, 2, 3, 4, 5, 6, 7, 8, 9, 10, 11]) (by decide) rfl) ?_
    refine AnyJ.one (fuel := 8) 2 (by kernel_rfl) ?_
    refine StepJ.op (listed' := #[true, true, true, false, false, false, false, false, false, false, false]) rfl rfl rfl ?_
    refine OpJ.call (fine_spec _ _ [0, 0, 0] p26 3 c26 (by decide)) has_16 rfl rfl rfl rfl rfl [] [0, 1, 2, 3, 4, 5, 6, 7, 8, 9, 10, 11] (by decide) rfl rfl (fun w hI => Own.row (hI.hs _ (List.mem_of_getElem? (i := 1) rfl)).1) ?_
    rintro _ _ ⟨rfl, rfl⟩
    refine ⟨fun w hI => hI.pick (is := [0, 1, 2, 3, 4, 5, 6, 7, 8, 9, 10, 11]) (by decide) rfl, ?_⟩
    refine AnyJ.take (fuel := 7) (listed' := #[true, true, true, true, false, false, false, false, false, false, false]) 3 rfl (by kernel_rfl) (by kernel_rfl) (by kernel_rfl) rfl rfl rfl rfl (Yld.move rfl rfl) (fun w hI => hI.pick (is := [0, 1, 2, 3, 4, 5, 6, 7, 8, 9, 10, 11]) (by decide) rfl) ?_
    refine AnyJ.splitB (s := 33) rfl (fun g33 => ?_) (fun g33 => ?_)
    · refine AnyJ.takeT (fuel := 6) (listed' := #[true, true, true, true, true, false, false, false, false, false, false]) 4 rfl (by kernel_rfl) (by kernel_rfl) (by kernel_rfl) rfl rfl rfl rfl rfl rfl (Yld.fieldAddr fa_47_1 rfl rfl) (fun w hI => hI.pick (is := [0, 1, 2, 3, 4, 5, 6, 7, 8, 9, 10, 11]) (by decide) rfl) ?_
      refine AnyJ.takeT (fuel := 5) (listed' := #[true, true, true, true, true, true, false, false, false, false, false]) 5 rfl (by kernel_rfl) (by kernel_rfl) (by kernel_rfl) rfl rfl rfl rfl rfl rfl (Yld.load1 rfl Tryd.underlying31 rfl rfl (fun w hI => Inv.cell1 hI (i := 0) rfl rfl)) (fun w hI => hI.pick (is := [0, 1, 2, 3, 4, 5, 6, 7, 8, 9, 10, 11]) (by decide) rfl) ?_
      refine AnyJ.takeT (fuel := 4) (listed' := #[true, true, true, true, true, true, true, false, false, false, false]) 6 rfl (by kernel_rfl) (by kernel_rfl) (by kernel_rfl) rfl rfl rfl rfl rfl rfl (Yld.loadN (vs := MsgD.cells ⟨h', va, [], v1, [specRec (12 : Nat) x (.slice pa x.pairs.length ca)], v2, [], v3, []⟩) rfl Tryd.underlying40 rfl sz_40 rfl (fun w hI => Inv.whole hI (i := 7) rfl)) (fun w hI => hI.pick (is := [0, 1, 2, 3, 4, 5, 6, 7, 8, 9, 10, 11]) (by decide) rfl) ?_
      refine AnyJ.one (fuel := 3) 7 (by kernel_rfl) ?_
      refine StepJ.opT (listed' := #[true, true, true, true, true, true, true, true, false, false, false]) rfl rfl rfl rfl rfl ?_
      refine OpJ.call (messageWire_spec httpsK ⟨h', va, [], v1, [specRec (12 : Nat) x (.slice pa x.pairs.length ca)], v2, [], v3, []⟩ hw hwr (by simp) ⟨by simp, by simp, by simp, by simp⟩) has_18 rfl rfl rfl rfl rfl [] [0, 1, 2, 3, 4, 5, 6, 7, 8, 9, 10, 11] (by decide) rfl rfl (fun w hI => (hmem w (hI.roGet (i := 8) rfl)).ok hof (fun r hr => by simp at hr; subst hr; exact hrx.keep0 hI.keep)) ?_
      rintro _ _ ⟨p37, c37, rfl, rfl⟩
      refine ⟨fun w hI => hI.pick (is := [1, 2, 3, 4, 5, 6, 7, 8, 9, 10, 11, 12]) (by decide) rfl, ?_⟩
      refine AnyJ.one (fuel := 2) 8 (by kernel_rfl) ?_
      refine StepJ.opT (listed' := #[true, true, true, true, true, true, true, true, true, false, false]) rfl rfl rfl rfl rfl ?_
      refine OpJ.call (same_spec _ _ _ (httpsK.wire ⟨h', va, [], v1, [specRec (12 : Nat) x (.slice pa x.pairs.length ca)], v2, [], v3, []⟩)) has_17 rfl rfl rfl rfl rfl [] [0, 1, 2, 3, 4, 5, 6, 7, 8, 9, 10, 11, 12] (by decide) rfl rfl (fun w hI => ⟨Inv.bytes (k := 3) rfl w hI, Inv.bytes (k := 0) rfl w hI⟩) ?_
      rintro _ _ ⟨rfl, rfl⟩
      refine ⟨fun w hI => hI.pick (is := [1, 2, 3, 4, 5, 6, 7, 8, 9, 10, 11, 12]) (by decide) rfl, ?_⟩
      refine AnyJ.take (fuel := 1) (listed' := #[true, true, true, true, true, true, true, true, true, true, false]) 9 rfl (by kernel_rfl) (by kernel_rfl) (by kernel_rfl) rfl rfl rfl rfl (Yld.pickT rfl rfl rfl) (fun w hI => hI.pick (is := [1, 2, 3, 4, 5, 6, 7, 8, 9, 10, 11, 12]) (by decide) rfl) ?_
      refine AnyJ.take (fuel := 0) (listed' := #[true, true, true, true, true, true, true, true, true, true, true]) 10 rfl (by kernel_rfl) (by kernel_rfl) (by kernel_rfl) rfl rfl rfl rfl (Yld.assign rfl rfl) (fun w hI => hI.pick (is := [1, 2, 3, 4, 5, 6, 7, 8, 9, 10, 11, 12]) (by decide) rfl) ?_
      refine AnyJ.done (by kernel_rfl) ?_
      refine ExJ.thenN ?_
      refine CodeJ.ret ?_
      exact ExJ.ret1 Tryd.results4 rfl ⟨by simp [Kind.wire, Bd.fin, zero12, hd12, headWire]; exact (stable_HTTPS.wire x _).symm, rfl⟩ fun w hI => hI.pick (is := []) (by decide) rfl
    · exact absurd g33 (by decide)
end Go.Proofs.YtamobccbioafmaaDoor
