/-
  The laws of TXT records that build without compression: their walks.
-/
import Derived.Test.YtefncaiooanbeaaDoorBg
import Derived.Test.YtefncaiooanbeaaDoorHATXT
import Derived.Test.YtefncaiooanbeaaDoorHKTXT
namespace Go.Proofs.YtefncaiooanbeaaDoor
open Go
set_option maxRecDepth 100000

theorem stable_TXT : txtK.Stable 7 := fun _ _ => ⟨rfl, rfl, rfl⟩
theorem build_TXT : BuildMeets txtAdder 25 := fun G h hw pre bufV stepsV ss hn hpre hok => buildTXT_spec G h hw pre bufV stepsV ss hn hpre hok
theorem txt_pok {x : RecD} (h1 : shortT x.texts = true) (h2 : (textsW x.texts).length < 65536) : shortT x.texts = true ∧ (textsW x.texts).length ≤ 4398046511104 := ⟨h1, by omega⟩
theorem good_TXT {x : RecD} (hwf : x.wf) (hok : txtK.recOk x = true) : GoodFor txtK txtAdder x :=
  good_for hwf (okn_TXT hok).1 rfl (okn_TXT hok).2.2.2 (txt_pok (okn_TXT hok).2.1 (okn_TXT hok).2.2.2) fun base m => by
    show txtP base false x.texts m = _
    rw [txtP, if_pos (okn_TXT hok).2.1]
    rfl

theorem fnRefusedTXT_spec (G : GEnv) (h : Hd) (hw : h.wf) (bad good : RecD) (hbw : bad.wf) (hgw : good.wf) (_hbu : bad.upto 1048576) (hgu : good.upto 1048576) :
    Spec Tryd.prog 10 [.agg (hdCs h).toArray, .agg bad.cells.toArray, .agg good.cells.toArray] [] (fun w => GE G w [] ∧ RecOk w bad ∧ RecOk w good) (fun r H' => r = .bool true ∧ H' = []) := by
  refine Spec.of Tryd.func10 rfl Tryd.ntmps10 rfl fun w0 hR => ?_
  obtain ⟨hge, hrb, hrg⟩ := hR
  refine CodeJ.seq ?_
  refine CodeJ.region ?_
  refine OpsJ.op rfl ?_
  refine OpJ.box rfl rfl rfl rfl fun hd hhd => ?_
  refine OpsJ.op rfl ?_
  refine OpJ.box rfl rfl rfl rfl fun bd hbd => ?_
  refine OpsJ.op rfl ?_
  refine OpJ.box rfl rfl rfl rfl fun gd hgd => ?_
  refine OpsJ.yld rfl rfl rfl (Yld.assign rfl rfl) ?_
  refine OpsJ.nil ?_
  refine ExJ.thenN ?_
  refine CodeJ.seq ?_
  refine CodeJ.seq ?_
  refine CodeJ.region ?_
  refine OpsJ.yld rfl rfl rfl (Yld.fieldAddr fa_30_0 rfl rfl) ?_
  refine OpsJ.yld rfl rfl rfl (Yld.load1 rfl Tryd.underlying9 rfl rfl (fun w hI => Inv.cell1 hI (i := 1) rfl rfl)) ?_
  refine OpsJ.op rfl ?_
  refine OpJ.call (longLabel_spec bad.name (Nat.le_trans hbw.name (Nat.le_of_ble_eq_true rfl))) has_13 rfl rfl rfl rfl rfl [] [0, 1, 2] (by decide) rfl rfl (fun _ _ => trivial) ?_
  rintro _ _ ⟨rfl, rfl⟩
  refine OpsJ.yld rfl rfl rfl (Yld.not rfl rfl) ?_
  refine OpsJ.nil ?_
  refine ExJ.thenN ?_
  refine CodeJ.cond rfl (fun c10 => ?_) (fun c10 => ?_)
  · refine CodeJ.seq ?_
    refine CodeJ.region ?_
    refine OpsJ.yld rfl rfl rfl (Yld.assign rfl rfl) ?_
    refine OpsJ.nil ?_
    refine ExJ.thenN ?_
    refine CodeJ.ret ?_
    refine ExJ.thenR ?_
    exact ExJ.ret1 Tryd.results10 rfl ⟨rfl, rfl⟩ fun w hI => hI.pick (is := []) (by decide) rfl
  · have hll : longLabel bad.name.data.toList = true := by simpa using c10
    refine CodeJ.skip ?_
    refine ExJ.thenN ?_
    refine CodeJ.seq ?_
    refine CodeJ.region ?_
    refine OpsJ.yld rfl rfl rfl (Yld.loadN (vs := hdCs h) rfl Tryd.underlying24 rfl sz_24 rfl (fun w hI => Inv.whole hI (i := 2) rfl)) ?_
    refine OpsJ.yld rfl rfl rfl (Yld.loadN (vs := bad.cells) rfl Tryd.underlying30 rfl sz_30 rfl (fun w hI => Inv.whole hI (i := 1) rfl)) ?_
    refine OpsJ.yld rfl rfl rfl (Yld.loadN (vs := good.cells) rfl Tryd.underlying30 rfl sz_30 rfl (fun w hI => Inv.whole hI (i := 0) rfl)) ?_
    refine OpsJ.op rfl ?_
    refine OpJ.call (refused_spec txtK 7 (by decide) stable_TXT txtAdder 25 has_25 build_TXT G h hw bad good hgw (bad_name hbw hll) (good_TXT hgw) (fun pv => one_TXT _ rfl (specRec_fit hgw.fit _ _) (texts_fit ⟨hgu.1, hgu.2, hgu.3, hgu.4⟩))) has_14 rfl rfl rfl rfl rfl [] [0, 1, 2] (by decide) rfl rfl (fun w hI => ⟨hge.call hI (is := []) rfl, hrb.keep0 hI.keep, hrg.keep0 hI.keep⟩) ?_
    rintro _ _ ⟨rfl, rfl⟩
    refine OpsJ.yld rfl rfl rfl (Yld.assign rfl rfl) ?_
    refine OpsJ.nil ?_
    refine ExJ.thenN ?_
    refine CodeJ.ret ?_
    exact ExJ.ret1 Tryd.results10 rfl ⟨rfl, rfl⟩ fun w hI => hI.pick (is := []) (by decide) rfl

theorem fnTypeTXT_spec (G : GEnv) (h : Hd) (hw : h.wf) (x : RecD) (hxw : x.wf) (number : Nat) (hnum : number < 65536) (hxu : x.upto 1048576) :
    Spec Tryd.prog 12 [.agg (hdCs h).toArray, .agg x.cells.toArray, .int .u16 (number : Nat)] [] (fun w => GE G w [] ∧ RecOk w x) (fun r H' => r = .bool true ∧ H' = []) := by
  refine Spec.of Tryd.func12 rfl Tryd.ntmps12 rfl fun w0 hR => ?_
  obtain ⟨hge, hrx⟩ := hR
  refine CodeJ.seq ?_
  refine CodeJ.region ?_
  refine OpsJ.op rfl ?_
  refine OpJ.box rfl rfl rfl rfl fun hd hhd => ?_
  refine OpsJ.op rfl ?_
  refine OpJ.box rfl rfl rfl rfl fun xb hxb => ?_
  refine OpsJ.yld rfl rfl rfl (Yld.assign rfl rfl) ?_
  refine OpsJ.nil ?_
  refine ExJ.thenN ?_
  refine CodeJ.seq ?_
  refine CodeJ.region ?_
  refine OpsJ.yld rfl rfl rfl (Yld.loadN (vs := hdCs h) rfl Tryd.underlying24 rfl sz_24 rfl (fun w hI => Inv.whole hI (i := 1) rfl)) ?_
  refine OpsJ.yld rfl rfl rfl (Yld.loadN (vs := x.cells) rfl Tryd.underlying30 rfl sz_30 rfl (fun w hI => Inv.whole hI (i := 0) rfl)) ?_
  refine OpsJ.op rfl ?_
  refine OpJ.buildSlice (xs := [.tmp 12]) elt_36 rfl rfl rfl rfl rfl rfl (by rfl) (by decide) fun l1 hl1 => ?_
  refine OpsJ.op rfl ?_
  refine OpJ.call (message_spec (7 : Nat) ⟨h, .slice none 0 0, [], .slice (some ⟨l1, 0, none⟩) 1 1, [x], .slice none 0 0, [], .slice none 0 0, []⟩ ⟨by simp, by simp, by simp, by simp, fun r hr => by simp at hr; subst hr; exact hxw.pairs⟩) has_17 rfl rfl rfl rfl rfl [] [0, 1, 2] (by decide) rfl rfl (fun w hI => ⟨.inl ⟨none, 0, rfl, rfl, rfl⟩, recs_one (hI.hs _ (List.mem_of_getElem? (i := 0) rfl)).1 (hrx.keep0 hI.keep), recs_nil _ _ _, recs_nil _ _ _⟩) ?_
  rintro _ _ ⟨m', q, bs, hq', rfl, hof, hmem, rfl⟩
  obtain ⟨h', va, qs', v1, r1, v2, r2, v3, r3⟩ := m'
  have e1 : h' = h := hof.head
  have e2 : qs' = [] := hof.asks
  obtain ⟨pa, ca, e3⟩ := SpecOf.one hof.one
  have e4 : r2 = [] := hof.two.nil
  have e5 : r3 = [] := hof.three.nil
  simp only at e3
  subst e1 e2 e3 e4 e5
  have hall : ∀ r ∈ [specRec (7 : Nat) x (.slice pa x.pairs.length ca)] ++ [] ++ [], ∃ pv, r = specRec (7 : Nat) x pv := fun r hr => by
    simp at hr
    subst hr
    exact ⟨_, rfl⟩
  have hone : ∀ pv, txtK.One 7 (specRec (7 : Nat) x pv) := fun pv => one_TXT _ rfl (specRec_fit hxw.fit _ _) (texts_fit ⟨hxu.1, hxu.2, hxu.3, hxu.4⟩)
  refine OpsJ.op rfl ?_
  refine OpJ.alloc rfl rfl rfl zero_43 fun mb hmb => ?_
  refine OpsJ.op rfl ?_
  refine OpJ.storeW (i := 0) rfl rfl rfl rfl sz_43 rfl hof.ones rfl ?_
  refine OpsJ.nil ?_
  refine ExJ.thenN ?_
  refine CodeJ.seq ?_
  refine CodeJ.seq ?_
  refine CodeJ.region ?_
  refine OpsJ.yld rfl rfl rfl (Yld.loadN (vs := MsgD.cells ⟨h', va, [], v1, [specRec (7 : Nat) x (.slice pa x.pairs.length ca)], v2, [], v3, []⟩) rfl Tryd.underlying43 rfl sz_43 rfl (fun w hI => Inv.whole hI (i := 0) rfl)) ?_
  refine OpsJ.op rfl ?_
  refine OpJ.call (ok_spec txtK ⟨h', va, [], v1, [specRec (7 : Nat) x (.slice pa x.pairs.length ca)], v2, [], v3, []⟩ (Kind.meets_of (k := 7) fun r hr => by obtain ⟨pv, rfl⟩ := hall r hr; exact hone pv) (by simp) (fun r hr => by obtain ⟨pv, rfl⟩ := hall r hr; exact Nat.le_trans hxw.name (Nat.le_of_ble_eq_true rfl)) (by simp)) has_18 rfl rfl rfl rfl rfl [] [0, 1, 2, 3, 4] (by decide) rfl rfl (fun w hI => (hmem w (hI.roGet (i := 1) rfl)).ok hof (fun r hr => by simp at hr; subst hr; exact hrx.keep0 hI.keep)) ?_
  rintro _ _ ⟨rfl, rfl⟩
  refine OpsJ.yld rfl rfl rfl (Yld.not rfl rfl) ?_
  refine OpsJ.nil ?_
  refine ExJ.thenN ?_
  refine CodeJ.cond rfl (fun c17 => ?_) (fun c17 => ?_)
  · refine CodeJ.seq ?_
    refine CodeJ.region ?_
    refine OpsJ.yld rfl rfl rfl (Yld.assign rfl rfl) ?_
    refine OpsJ.nil ?_
    refine ExJ.thenN ?_
    refine CodeJ.ret ?_
    refine ExJ.thenR ?_
    exact ExJ.ret1 Tryd.results12 rfl ⟨rfl, rfl⟩ fun w hI => hI.pick (is := []) (by decide) rfl
  · have hokB : txtK.okB ⟨h', va, [], v1, [specRec (7 : Nat) x (.slice pa x.pairs.length ca)], v2, [], v3, []⟩ = true := by simpa using c17
    have hxok : txtK.recOk x = true := by
      have := hokB
      simp only [Kind.okB, Bool.and_eq_true, List.all_cons] at this
      have h2 := this.1.1.1.1.1.1.1.1.2.1
      rwa [stable_TXT.recOk] at h2
    have hG : GoodFor txtK txtAdder (x.other number) := good_TXT (other_wf hxw number hnum) hxok
    have hwr : txtK.Writes ([specRec (7 : Nat) x (.slice pa x.pairs.length ca)] ++ [] ++ []) := Kind.writes_of (k := 7) (by decide) (fun r hr => by obtain ⟨pv, rfl⟩ := hall r hr; exact hone pv) (fun r hr => by obtain ⟨pv, rfl⟩ := hall r hr; rw [stable_TXT.recOk]; exact hxok)
    have hrl : (txtK.recWire x).length ≤ 70000 := by
      have := hwr.len (specRec (7 : Nat) x (.slice pa x.pairs.length ca)) (by simp)
      rwa [stable_TXT.wire] at this
    obtain ⟨hrun, hrf⟩ := type_run txtK txtAdder h' (x.other number) hG hrl
    have hrw : txtK.recWire (x.other number) = txtK.recWire x := rfl
    rw [hrw] at hrf
    refine CodeJ.skip ?_
    refine ExJ.thenN ?_
    refine CodeJ.seq ?_
    refine CodeJ.region ?_
    refine OpsJ.yld rfl rfl rfl (Yld.loadN (vs := x.cells) rfl Tryd.underlying30 rfl sz_30 rfl (fun w hI => Inv.whole hI (i := 3) rfl)) ?_
    refine OpsJ.op rfl ?_
    refine OpJ.alloc rfl rfl rfl zero_30 fun ob hob => ?_
    refine OpsJ.op rfl ?_
    refine OpJ.storeW (i := 0) rfl rfl rfl rfl sz_30 rfl hrx.one rfl ?_
    refine OpsJ.nil ?_
    refine ExJ.thenN ?_
    refine CodeJ.seq ?_
    refine CodeJ.region ?_
    refine OpsJ.yld rfl rfl rfl (Yld.move rfl rfl) ?_
    refine OpsJ.yld rfl rfl rfl (Yld.fieldAddr fa_30_4 rfl rfl) ?_
    refine OpsJ.op rfl ?_
    refine OpJ.store1 (i := 0) rfl rfl rfl rfl rfl sz_22 rfl rfl ?_
    refine OpsJ.nil ?_
    refine ExJ.thenN ?_
    refine CodeJ.seq ?_
    refine CodeJ.region ?_
    refine OpsJ.yld rfl rfl rfl (Yld.move rfl rfl) ?_
    refine OpsJ.yld rfl rfl rfl (Yld.fieldAddr fa_30_1 rfl rfl) ?_
    refine OpsJ.op rfl ?_
    refine OpJ.store1 (i := 0) rfl rfl rfl rfl rfl sz_22 rfl rfl ?_
    refine OpsJ.nil ?_
    refine ExJ.thenN ?_
    refine CodeJ.seq ?_
    refine CodeJ.region ?_
    refine OpsJ.yld rfl rfl rfl (Yld.loadN (vs := (x.other number).cells) rfl Tryd.underlying30 rfl sz_30 rfl (fun w hI => Inv.whole hI (i := 0) rfl)) ?_
    refine OpsJ.op rfl ?_
    refine OpJ.buildSlice (xs := [.tmp 23]) elt_36 rfl rfl rfl rfl rfl rfl (by rfl) (by decide) fun k1 hk1 => ?_
    refine OpsJ.op rfl ?_
    refine OpJ.buildSlice (xs := [.tmp 24]) elt_87 rfl rfl rfl rfl rfl rfl (by rfl) (by decide) fun lists hlists => ?_
    refine OpsJ.op rfl ?_
    refine OpJ.call (steps_spec false [] [[x.other number]] (.slice none 0 0) _ [.slice (some ⟨k1, 0, none⟩) 1 1] rfl (by simp [stepsL, secSteps])) has_19 rfl rfl rfl rfl rfl [] [0, 1, 2, 3, 4, 5, 6, 7] (by decide) rfl rfl (fun w hI => ⟨.inl ⟨none, 0, rfl, rfl, rfl⟩, Own.row (hI.hs _ (List.mem_of_getElem? (i := 0) rfl)).1, fun i v rs h1 h2 => by
    have q1 : Recs w (.slice (some ⟨k1, 0, none⟩) 1 1) [x.other number] := recs_one (hI.hs _ (List.mem_of_getElem? (i := 1) rfl)).1 (other_ok (hrx.keep0 hI.keep) number)
    match i with
    | 0 => simp at h1 h2; subst h1 h2; exact q1
    | i + 1 => simp at h1⟩) ?_
    rintro _ _ ⟨p26, c26, rfl, rfl⟩
    refine OpsJ.yld rfl rfl rfl (Yld.assign rfl rfl) ?_
    refine OpsJ.nil ?_
    refine ExJ.thenN ?_
    refine CodeJ.seq ?_
    refine CodeJ.region ?_
    refine OpsJ.yld rfl rfl rfl (Yld.loadN (vs := hdCs h') rfl Tryd.underlying24 rfl sz_24 rfl (fun w hI => Inv.whole hI (i := 8) rfl)) ?_
    refine OpsJ.yld rfl rfl rfl (Yld.move rfl rfl) ?_
    refine OpsJ.op rfl ?_
    refine OpJ.call (buildTXT_spec G h' hw [] (.slice none 0 0) _ (stepsL false [] [[x.other number]]) (by simp [stepsL, secSteps]) (by simp) hrun) has_25 rfl rfl rfl rfl rfl [] [0, 1, 2, 3, 4, 5, 6, 7, 8] (by decide) rfl rfl (fun w hI => ⟨hge.call hI (is := []) rfl, .inl ⟨none, 0, rfl, rfl⟩, Own.row (hI.hs _ (List.mem_of_getElem? (i := 0) rfl)).1, stepsL_rec (fun l hl r hr => by simp at hl; subst hl; simp at hr; subst hr; exact other_ok (hrx.keep0 hI.keep) number)⟩) ?_
    rintro _ _ ⟨p1, c1, p2, c2, rfl, rfl⟩
    rw [hrf]
    simp only
    refine OpsJ.op rfl ?_
    refine OpJ.alloc rfl rfl rfl zero_50 fun got hgot => ?_
    refine OpsJ.op rfl ?_
    refine OpJ.storeW (i := 0) rfl rfl rfl rfl sz_50 rfl rfl rfl ?_
    refine OpsJ.nil ?_
    refine ExJ.thenN ?_
    refine CodeJ.seq ?_
    refine CodeJ.any (fuel := 11) (listed := #[false, false, false, false, false, false, false, false, false, false, false]) [0, 1, 2, 3, 4, 5, 6, 7, 8, 9, 10, 11] rfl follows_mixed rfl rfl ?_
    refine AnyJ.take (fuel := 10) (listed' := #[true, false, false, false, false, false, false, false, false, false, false]) 0 rfl (by kernel_rfl) (by kernel_rfl) (by kernel_rfl) rfl rfl rfl rfl (Yld.loadN (vs := [.slice p1 _ c1, .slice p2 _ c2, .int .i64 0]) rfl Tryd.underlying50 rfl sz_50 rfl (fun w hI => Inv.whole hI (i := 0) rfl)) (fun w hI => hI.pick (is := [0, 1, 2, 3, 4, 5, 6, 7, 8, 9, 10, 11]) (by decide) rfl) ?_
    refine AnyJ.take (fuel := 9) (listed' := #[true, true, false, false, false, false, false, false, false, false, false]) 1 rfl (by kernel_rfl) (by kernel_rfl) (by kernel_rfl) rfl rfl rfl rfl (Yld.move rfl rfl) (fun w hI => hI.pick (is := [0, 1, 2, 3, 4, 5, 6, 7, 8, 9, 10, 11]) (by decide) rfl) ?_
    refine AnyJ.one (fuel := 8) 2 (by kernel_rfl) ?_
    refine StepJ.op (listed' := #[true, true, true, false, false, false, false, false, false, false, false]) rfl rfl rfl ?_
    refine OpJ.call (fine_spec _ _ [0, 0, 0] p26 3 c26 (by decide)) has_20 rfl rfl rfl rfl rfl [] [0, 1, 2, 3, 4, 5, 6, 7, 8, 9, 10, 11] (by decide) rfl rfl (fun w hI => Own.row (hI.hs _ (List.mem_of_getElem? (i := 1) rfl)).1) ?_
    rintro _ _ ⟨rfl, rfl⟩
    refine ⟨fun w hI => hI.pick (is := [0, 1, 2, 3, 4, 5, 6, 7, 8, 9, 10, 11]) (by decide) rfl, ?_⟩
    refine AnyJ.take (fuel := 7) (listed' := #[true, true, true, true, false, false, false, false, false, false, false]) 3 rfl (by kernel_rfl) (by kernel_rfl) (by kernel_rfl) rfl rfl rfl rfl (Yld.move rfl rfl) (fun w hI => hI.pick (is := [0, 1, 2, 3, 4, 5, 6, 7, 8, 9, 10, 11]) (by decide) rfl) ?_
    refine AnyJ.splitB (s := 33) rfl (fun g33 => ?_) (fun g33 => ?_)
    · refine AnyJ.takeT (fuel := 6) (listed' := #[true, true, true, true, true, false, false, false, false, false, false]) 4 rfl (by kernel_rfl) (by kernel_rfl) (by kernel_rfl) rfl rfl rfl rfl rfl rfl (Yld.fieldAddr fa_50_1 rfl rfl) (fun w hI => hI.pick (is := [0, 1, 2, 3, 4, 5, 6, 7, 8, 9, 10, 11]) (by decide) rfl) ?_
      refine AnyJ.takeT (fuel := 5) (listed' := #[true, true, true, true, true, true, false, false, false, false, false]) 5 rfl (by kernel_rfl) (by kernel_rfl) (by kernel_rfl) rfl rfl rfl rfl rfl rfl (Yld.load1 rfl Tryd.underlying26 rfl rfl (fun w hI => Inv.cell1 hI (i := 0) rfl rfl)) (fun w hI => hI.pick (is := [0, 1, 2, 3, 4, 5, 6, 7, 8, 9, 10, 11]) (by decide) rfl) ?_
      refine AnyJ.takeT (fuel := 4) (listed' := #[true, true, true, true, true, true, true, false, false, false, false]) 6 rfl (by kernel_rfl) (by kernel_rfl) (by kernel_rfl) rfl rfl rfl rfl rfl rfl (Yld.loadN (vs := MsgD.cells ⟨h', va, [], v1, [specRec (7 : Nat) x (.slice pa x.pairs.length ca)], v2, [], v3, []⟩) rfl Tryd.underlying43 rfl sz_43 rfl (fun w hI => Inv.whole hI (i := 7) rfl)) (fun w hI => hI.pick (is := [0, 1, 2, 3, 4, 5, 6, 7, 8, 9, 10, 11]) (by decide) rfl) ?_
      refine AnyJ.one (fuel := 3) 7 (by kernel_rfl) ?_
      refine StepJ.opT (listed' := #[true, true, true, true, true, true, true, true, false, false, false]) rfl rfl rfl rfl rfl ?_
      refine OpJ.call (messageWire_spec txtK ⟨h', va, [], v1, [specRec (7 : Nat) x (.slice pa x.pairs.length ca)], v2, [], v3, []⟩ hw hwr (by simp) ⟨by simp, by simp, by simp, by simp⟩) has_22 rfl rfl rfl rfl rfl [] [0, 1, 2, 3, 4, 5, 6, 7, 8, 9, 10, 11] (by decide) rfl rfl (fun w hI => (hmem w (hI.roGet (i := 8) rfl)).ok hof (fun r hr => by simp at hr; subst hr; exact hrx.keep0 hI.keep)) ?_
      rintro _ _ ⟨p37, c37, rfl, rfl⟩
      refine ⟨fun w hI => hI.pick (is := [1, 2, 3, 4, 5, 6, 7, 8, 9, 10, 11, 12]) (by decide) rfl, ?_⟩
      refine AnyJ.one (fuel := 2) 8 (by kernel_rfl) ?_
      refine StepJ.opT (listed' := #[true, true, true, true, true, true, true, true, true, false, false]) rfl rfl rfl rfl rfl ?_
      refine OpJ.call (same_spec _ _ _ (txtK.wire ⟨h', va, [], v1, [specRec (7 : Nat) x (.slice pa x.pairs.length ca)], v2, [], v3, []⟩)) has_21 rfl rfl rfl rfl rfl [] [0, 1, 2, 3, 4, 5, 6, 7, 8, 9, 10, 11, 12] (by decide) rfl rfl (fun w hI => ⟨Inv.bytes (k := 3) rfl w hI, Inv.bytes (k := 0) rfl w hI⟩) ?_
      rintro _ _ ⟨rfl, rfl⟩
      refine ⟨fun w hI => hI.pick (is := [1, 2, 3, 4, 5, 6, 7, 8, 9, 10, 11, 12]) (by decide) rfl, ?_⟩
      refine AnyJ.take (fuel := 1) (listed' := #[true, true, true, true, true, true, true, true, true, true, false]) 9 rfl (by kernel_rfl) (by kernel_rfl) (by kernel_rfl) rfl rfl rfl rfl (Yld.pickT rfl rfl rfl) (fun w hI => hI.pick (is := [1, 2, 3, 4, 5, 6, 7, 8, 9, 10, 11, 12]) (by decide) rfl) ?_
      refine AnyJ.take (fuel := 0) (listed' := #[true, true, true, true, true, true, true, true, true, true, true]) 10 rfl (by kernel_rfl) (by kernel_rfl) (by kernel_rfl) rfl rfl rfl rfl (Yld.assign rfl rfl) (fun w hI => hI.pick (is := [1, 2, 3, 4, 5, 6, 7, 8, 9, 10, 11, 12]) (by decide) rfl) ?_
      refine AnyJ.done (by kernel_rfl) ?_
      refine ExJ.thenN ?_
      refine CodeJ.ret ?_
      exact ExJ.ret1 Tryd.results12 rfl ⟨by simp [Kind.wire, Bd.fin, zero12, hd12, headWire]; exact (stable_TXT.wire x _).symm, rfl⟩ fun w hI => hI.pick (is := []) (by decide) rfl
    · exact absurd g33 (by decide)
end Go.Proofs.YtefncaiooanbeaaDoor
