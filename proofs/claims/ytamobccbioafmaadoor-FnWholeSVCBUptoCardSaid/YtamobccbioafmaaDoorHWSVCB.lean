/-
  The law FnWholeSVCB: its walk.
-/
import Derived.Test.YtamobccbioafmaaDoorBh
import Derived.Test.YtamobccbioafmaaDoorHSSVCB
import Derived.Test.YtamobccbioafmaaDoorHWholeP
namespace Go.Proofs.YtamobccbioafmaaDoor
open Go
set_option maxRecDepth 100000
set_option maxHeartbeats 1600000

theorem fnWholeSVCB_spec (G : GEnv) (h : Hd) (hw : h.wf) (y : RecD) (hyw : y.wf) (hyu : y.upto 1048576) :
    Spec Tryd.prog 8 [.agg (hdCs h).toArray, .agg y.cells.toArray] [] (fun w => GE G w [] ∧ RecOk w y) (fun r H' => r = .bool true ∧ H' = []) := by
  refine Spec.of Tryd.func8 rfl Tryd.ntmps8 rfl fun w0 hR => ?_
  obtain ⟨hge, hry⟩ := hR
  have hrx : RecOk w0 y.ownH := ⟨hry.data, hry.texts, hry.pairs, hry.pdata⟩
  have hxw := ownH_wf hyw
  have hxu : y.ownH.upto 1048576 := ⟨hyu.texts, hyu.text, hyu.pairs, hyu.pair⟩
  refine CodeJ.seq ?_
  refine CodeJ.region ?_
  refine OpsJ.op rfl ?_
  refine OpJ.box rfl rfl rfl rfl fun hd hhd => ?_
  refine OpsJ.op rfl ?_
  refine OpJ.box rfl rfl rfl rfl fun xb hxb => ?_
  refine OpsJ.yld rfl rfl rfl (Yld.assign rfl rfl) ?_
  refine OpsJ.nil ?_
  refine ExJ.thenN ?_
  refine CodeJ.seq ?_
  refine CodeJ.region ?_
  refine OpsJ.yld rfl rfl rfl (Yld.fieldAddr fa_35_0 rfl rfl) ?_
  refine OpsJ.yld rfl rfl rfl (Yld.load1 rfl Tryd.underlying9 rfl rfl (fun w hI => Inv.cell1 hI (i := 0) rfl rfl)) ?_
  refine OpsJ.yld rfl rfl rfl (Yld.fieldAddr fa_35_7 rfl rfl) ?_
  refine OpsJ.op rfl ?_
  refine OpJ.store1 (i := 0) rfl rfl rfl rfl rfl sz_9 rfl rfl ?_
  refine OpsJ.nil ?_
  refine ExJ.thenN ?_
  refine CodeJ.seq ?_
  refine CodeJ.region ?_
  refine OpsJ.yld rfl rfl rfl (Yld.loadN (vs := hdCs h) rfl Tryd.underlying24 rfl sz_24 rfl (fun w hI => Inv.whole hI (i := 1) rfl)) ?_
  refine OpsJ.yld rfl rfl rfl (Yld.loadN (vs := y.ownH.cells) rfl Tryd.underlying35 rfl sz_35 rfl (fun w hI => Inv.whole hI (i := 0) rfl)) ?_
  refine OpsJ.op rfl ?_
  refine OpJ.buildSlice (xs := [.tmp 12]) elt_26 rfl rfl rfl rfl rfl rfl (by rfl) (by decide) fun l1 hl1 => ?_
  refine OpsJ.op rfl ?_
  refine OpJ.call (message_spec (11 : Nat) ⟨h, .slice none 0 0, [], .slice (some ⟨l1, 0, none⟩) 1 1, [y.ownH], .slice none 0 0, [], .slice none 0 0, []⟩ ⟨by simp, by simp, by simp, by simp, fun r hr => by simp at hr; subst hr; exact hxw.pairs⟩) has_13 rfl rfl rfl rfl rfl [] [0, 1, 2] (by decide) rfl rfl (fun w hI => ⟨.inl ⟨none, 0, rfl, rfl, rfl⟩, recs_one (hI.hs _ (List.mem_of_getElem? (i := 0) rfl)).1 (hrx.keep0 hI.keep), recs_nil _ _ _, recs_nil _ _ _⟩) ?_
  rintro _ _ ⟨m', q, bs, hq', rfl, hof, hmem, rfl⟩
  have hfrom := hof.from_
  have hmok : ∀ w, Keep [] w0 w → q w → MsgOk w m' := fun w hk hw => (hmem w hw).ok hof fun r hr => by simp at hr; subst hr; exact hrx.keep0 hk
  have hall : ∀ r' ∈ m'.one ++ m'.two ++ m'.three, ∃ pv, r' = specRec (11 : Nat) y.ownH pv := fun r' hr' => by
    obtain ⟨r, hr, pv, e⟩ := hfrom r' hr'
    simp at hr
    subst hr
    exact ⟨pv, e⟩
  have hones : ∀ r' ∈ m'.one ++ m'.two ++ m'.three, svcbK.One 11 r' := fun r' hr' => by
    obtain ⟨pv, rfl⟩ := hall r' hr'
    exact one_SVCB _ rfl (specRec_fit hxw.fit _ _) (pairs_fit ⟨hxu.1, hxu.2, hxu.3, hxu.4⟩)
  have hnames : ∀ r' ∈ m'.one ++ m'.two ++ m'.three, r'.name.size ≤ 140737488355328 ∧ r'.host.size ≤ 140737488355328 ∧ r'.box.size ≤ 140737488355328 ∧ r'.typ < 65536 := fun r' hr' => by
    obtain ⟨pv, rfl⟩ := hall r' hr'
    exact ⟨Nat.le_trans hxw.name (Nat.le_of_ble_eq_true rfl), Nat.le_trans hxw.host (Nat.le_of_ble_eq_true rfl), Nat.le_trans hxw.box (Nat.le_of_ble_eq_true rfl), hxw.typ⟩
  have e1 : m'.asks = [] := hof.asks
  have e2 : m'.one.length = 1 := hof.one.len
  have e3 : m'.two.length = 0 := hof.two.len
  have e4 : m'.three.length = 0 := hof.three.len
  have hasks : ∀ a ∈ m'.asks, a.name.size ≤ 140737488355328 := fun a ha => by rw [e1] at ha; cases ha
  have hlens : m'.asks.length + m'.one.length + m'.two.length + m'.three.length ≤ 17592186044416 := by rw [e1, e2, e3, e4]; decide
  refine OpsJ.op rfl ?_
  refine OpJ.alloc rfl rfl rfl zero_40 fun mb hmb => ?_
  refine OpsJ.op rfl ?_
  refine OpJ.storeW (i := 0) rfl rfl rfl rfl sz_40 rfl hof.ones rfl ?_
  refine OpsJ.nil ?_
  refine ExJ.thenN ?_
  refine CodeJ.seq ?_
  refine CodeJ.seq ?_
  refine CodeJ.region ?_
  refine OpsJ.yld rfl rfl rfl (Yld.loadN (vs := m'.cells) rfl Tryd.underlying40 rfl sz_40 rfl (fun w hI => Inv.whole hI (i := 0) rfl)) ?_
  refine OpsJ.op rfl ?_
  refine OpJ.call (ok_spec svcbK m' (Kind.meets_of hones) hasks (fun r hr => (hnames r hr).1) hlens) has_14 rfl rfl rfl rfl rfl [] [0, 1, 2, 3, 4] (by decide) rfl rfl (fun w hI => hmok w hI.keep (hI.roGet (i := 1) rfl)) ?_
  rintro _ _ ⟨rfl, rfl⟩
  refine OpsJ.yld rfl rfl rfl (Yld.not rfl rfl) ?_
  refine OpsJ.yld rfl rfl rfl (Yld.move rfl rfl) ?_
  refine OpsJ.splitB (s := 18) rfl (fun g18 => ?_) (fun g18 => ?_)
  · refine OpsJ.opF rfl rfl rfl rfl rfl rfl ?_
    refine OpsJ.opF rfl rfl rfl rfl rfl rfl ?_
    refine OpsJ.opF rfl rfl rfl rfl rfl rfl ?_
    refine OpsJ.yld rfl rfl rfl (Yld.pickT rfl rfl rfl) ?_
    refine OpsJ.nil ?_
    refine ExJ.thenN ?_
    refine CodeJ.condT rfl ?_
    refine CodeJ.seq ?_
    refine CodeJ.region ?_
    refine OpsJ.yld rfl rfl rfl (Yld.assign rfl rfl) ?_
    refine OpsJ.nil ?_
    refine ExJ.thenN ?_
    refine CodeJ.ret ?_
    refine ExJ.thenR ?_
    exact ExJ.ret1 Tryd.results8 rfl ⟨rfl, rfl⟩ fun w hI => hI.pick (is := []) (by decide) rfl
  · have hokB : svcbK.okB m' = true := by simpa using g18
    have hO : OkMsg svcbK h [] [y.ownH] [] [] := ok_msg stable_SVCB hof hokB
    refine OpsJ.opT rfl rfl rfl ?_
    refine OpJ.yld rfl rfl (Yld.loadN (vs := m'.cells) rfl Tryd.underlying40 rfl sz_40 rfl (fun w hI => Inv.whole hI (i := 0) rfl)) ?_
    refine OpsJ.opT rfl rfl rfl ?_
    refine OpJ.call (small_spec m' ⟨hasks, hnames, hlens⟩) has_22 rfl rfl rfl rfl rfl [] [0, 1, 2, 3, 4] (by decide) rfl rfl (fun w hI => hmok w hI.keep (hI.roGet (i := 1) rfl)) ?_
    rintro _ _ ⟨⟨bsm, rfl⟩, rfl⟩
    refine OpsJ.opT rfl rfl rfl ?_
    refine OpJ.yld rfl rfl (Yld.not rfl rfl) ?_
    refine OpsJ.yld rfl rfl rfl (Yld.pickF rfl rfl rfl) ?_
    refine OpsJ.nil ?_
    refine ExJ.thenN ?_
    refine CodeJ.cond rfl (fun c22 => ?_) (fun c22 => ?_)
    · refine CodeJ.seq ?_
      refine CodeJ.region ?_
      refine OpsJ.yld rfl rfl rfl (Yld.assign rfl rfl) ?_
      refine OpsJ.nil ?_
      refine ExJ.thenN ?_
      refine CodeJ.ret ?_
      refine ExJ.thenR ?_
      exact ExJ.ret1 Tryd.results8 rfl ⟨rfl, rfl⟩ fun w hI => hI.pick (is := []) (by decide) rfl
    · have hxok : svcbK.recOk y.ownH = true := hO.recs y.ownH (by simp)
      have hk := okn_SVCB hxok
      obtain ⟨mt, hrun, hrf⟩ := whole_run h y.ownH (recShort_SVCB hxw hxok) hk.1 rfl hk.2.2.2 (fun base m => sv_ok hk.2.2.1)
      change runF svcbAdder _ _ _ = _ at hrf
      have hfin := fin_own h (svcbK.recWire y.ownH) mt
      have hwm : svcbK.Writes (m'.one ++ m'.two ++ m'.three) := Kind.writes_of (by decide) hones (fun r' hr' => by obtain ⟨pv, rfl⟩ := hall r' hr'; rw [stable_SVCB.recOk]; exact hxok)
      have hcm : m'.asks.length < 60000 ∧ m'.one.length < 60000 ∧ m'.two.length < 60000 ∧ m'.three.length < 60000 := by rw [e1, e2, e3, e4]; decide
      have hwh : m'.head.wf := by
        have : m'.head = h := hof.head
        rw [this]
        exact hw
      have has2 : ∀ a ∈ m'.asks, a.name.size ≤ 254 := fun a ha => by rw [e1] at ha; cases ha
      refine CodeJ.skip ?_
      refine ExJ.thenN ?_
      refine CodeJ.seq ?_
      refine CodeJ.region ?_
      refine OpsJ.yld rfl rfl rfl (Yld.loadN (vs := y.ownH.cells) rfl Tryd.underlying35 rfl sz_35 rfl (fun w hI => Inv.whole hI (i := 3) rfl)) ?_
      refine OpsJ.op rfl ?_
      refine OpJ.buildSlice (xs := [.tmp 23]) elt_26 rfl rfl rfl rfl rfl rfl (by rfl) (by decide) fun k1 hk1 => ?_
      refine OpsJ.op rfl ?_
      refine OpJ.buildSlice (xs := [.tmp 24]) elt_90 rfl rfl rfl rfl rfl rfl (by rfl) (by decide) fun lists hlists => ?_
      refine OpsJ.op rfl ?_
      refine OpJ.call (steps_spec true [] [[y.ownH]] (.slice none 0 0) _ [.slice (some ⟨k1, 0, none⟩) 1 1] rfl (by simp [stepsL, secSteps])) has_15 rfl rfl rfl rfl rfl [] [0, 1, 2, 3, 4, 5, 6] (by decide) rfl rfl (fun w hI => ⟨.inl ⟨none, 0, rfl, rfl, rfl⟩, Own.row (hI.hs _ (List.mem_of_getElem? (i := 0) rfl)).1, fun i v rs h1 h2 => by
      have q1 : Recs w (.slice (some ⟨k1, 0, none⟩) 1 1) [y.ownH] := recs_one (hI.hs _ (List.mem_of_getElem? (i := 1) rfl)).1 (hrx.keep0 hI.keep)
      match i with
      | 0 => simp at h1 h2; subst h1 h2; exact q1
      | i + 1 => simp at h1⟩) ?_
      rintro _ _ ⟨p26, c26, rfl, rfl⟩
      refine OpsJ.yld rfl rfl rfl (Yld.assign rfl rfl) ?_
      refine OpsJ.nil ?_
      refine ExJ.thenN ?_
      refine CodeJ.seq ?_
      refine CodeJ.region ?_
      refine OpsJ.yld rfl rfl rfl (Yld.loadN (vs := hdCs h) rfl Tryd.underlying24 rfl sz_24 rfl (fun w hI => Inv.whole hI (i := 7) rfl)) ?_
      refine OpsJ.yld rfl rfl rfl (Yld.move rfl rfl) ?_
      refine OpsJ.op rfl ?_
      refine OpJ.call (build_SVCB G h hw [] (.slice none 0 0) _ (stepsL true [] [[y.ownH]]) (by simp [stepsL, secSteps]) (by simp) hrun) has_21 rfl rfl rfl rfl rfl [] [0, 1, 2, 3, 4, 5, 6, 7] (by decide) rfl rfl (fun w hI => ⟨hge.call hI (is := []) rfl, .inl ⟨none, 0, rfl, rfl⟩, Own.row (hI.hs _ (List.mem_of_getElem? (i := 0) rfl)).1, stepsL_rec (fun l hl r hr => by simp at hl; subst hl; simp at hr; subst hr; exact hrx.keep0 hI.keep)⟩) ?_
      rintro _ _ ⟨q1, d1', q2, d2', rfl, rfl⟩
      rw [hrf]
      simp only [hfin]
      refine OpsJ.op rfl ?_
      refine OpJ.alloc rfl rfl rfl zero_47 fun got hgot => ?_
      refine OpsJ.op rfl ?_
      refine OpJ.storeW (i := 0) rfl rfl rfl rfl sz_47 rfl rfl rfl ?_
      refine OpsJ.nil ?_
      refine ExJ.thenN ?_
      refine CodeJ.seq ?_
      refine CodeJ.any (fuel := 11) (listed := #[false, false, false, false, false, false, false, false, false, false, false]) [0, 1, 2, 3, 4, 5, 6, 7, 8, 9, 10] rfl follows_mixed rfl rfl ?_
      refine AnyJ.take (fuel := 10) (listed' := #[true, false, false, false, false, false, false, false, false, false, false]) 0 rfl (by kernel_rfl) (by kernel_rfl) (by kernel_rfl) rfl rfl rfl rfl (Yld.loadN (vs := [.slice q1 _ d1', .slice q2 _ d2', .int .i64 0]) rfl Tryd.underlying47 rfl sz_47 rfl (fun w hI => Inv.whole hI (i := 0) rfl)) (fun w hI => hI.pick (is := [0, 1, 2, 3, 4, 5, 6, 7, 8, 9, 10]) (by decide) rfl) ?_
      refine AnyJ.take (fuel := 9) (listed' := #[true, true, false, false, false, false, false, false, false, false, false]) 1 rfl (by kernel_rfl) (by kernel_rfl) (by kernel_rfl) rfl rfl rfl rfl (Yld.move rfl rfl) (fun w hI => hI.pick (is := [0, 1, 2, 3, 4, 5, 6, 7, 8, 9, 10]) (by decide) rfl) ?_
      refine AnyJ.one (fuel := 8) 2 (by kernel_rfl) ?_
      refine StepJ.op (listed' := #[true, true, true, false, false, false, false, false, false, false, false]) rfl rfl rfl ?_
      refine OpJ.call (fine_spec _ _ [0, 0, 0, 0] p26 4 c26 (by decide)) has_16 rfl rfl rfl rfl rfl [] [0, 1, 2, 3, 4, 5, 6, 7, 8, 9, 10] (by decide) rfl rfl (fun w hI => Own.row (hI.hs _ (List.mem_of_getElem? (i := 1) rfl)).1) ?_
      rintro _ _ ⟨rfl, rfl⟩
      refine ⟨fun w hI => hI.pick (is := [0, 1, 2, 3, 4, 5, 6, 7, 8, 9, 10]) (by decide) rfl, ?_⟩
      refine AnyJ.take (fuel := 7) (listed' := #[true, true, true, true, false, false, false, false, false, false, false]) 3 rfl (by kernel_rfl) (by kernel_rfl) (by kernel_rfl) rfl rfl rfl rfl (Yld.move rfl rfl) (fun w hI => hI.pick (is := [0, 1, 2, 3, 4, 5, 6, 7, 8, 9, 10]) (by decide) rfl) ?_
      refine AnyJ.splitB (s := 33) rfl (fun g33 => ?_) (fun g33 => ?_)
      · refine AnyJ.takeT (fuel := 6) (listed' := #[true, true, true, true, true, false, false, false, false, false, false]) 4 rfl (by kernel_rfl) (by kernel_rfl) (by kernel_rfl) rfl rfl rfl rfl rfl rfl (Yld.fieldAddr fa_47_1 rfl rfl) (fun w hI => hI.pick (is := [0, 1, 2, 3, 4, 5, 6, 7, 8, 9, 10]) (by decide) rfl) ?_
        refine AnyJ.takeT (fuel := 5) (listed' := #[true, true, true, true, true, true, false, false, false, false, false]) 5 rfl (by kernel_rfl) (by kernel_rfl) (by kernel_rfl) rfl rfl rfl rfl rfl rfl (Yld.load1 rfl Tryd.underlying31 rfl rfl (fun w hI => Inv.cell1 hI (i := 0) rfl rfl)) (fun w hI => hI.pick (is := [0, 1, 2, 3, 4, 5, 6, 7, 8, 9, 10]) (by decide) rfl) ?_
        refine AnyJ.takeT (fuel := 4) (listed' := #[true, true, true, true, true, true, true, false, false, false, false]) 6 rfl (by kernel_rfl) (by kernel_rfl) (by kernel_rfl) rfl rfl rfl rfl rfl rfl (Yld.loadN (vs := m'.cells) rfl Tryd.underlying40 rfl sz_40 rfl (fun w hI => Inv.whole hI (i := 6) rfl)) (fun w hI => hI.pick (is := [0, 1, 2, 3, 4, 5, 6, 7, 8, 9, 10]) (by decide) rfl) ?_
        refine AnyJ.one (fuel := 3) 7 (by kernel_rfl) ?_
        refine StepJ.opT (listed' := #[true, true, true, true, true, true, true, true, false, false, false]) rfl rfl rfl rfl rfl ?_
        refine OpJ.call (messageWire_spec svcbK m' hwh hwm has2 hcm) has_18 rfl rfl rfl rfl rfl [] [0, 1, 2, 3, 4, 5, 6, 7, 8, 9, 10] (by decide) rfl rfl (fun w hI => hmok w hI.keep (hI.roGet (i := 7) rfl)) ?_
        rintro _ _ ⟨p37, c37, rfl, rfl⟩
        refine ⟨fun w hI => hI.pick (is := [1, 2, 3, 4, 5, 6, 7, 8, 9, 10, 11]) (by decide) rfl, ?_⟩
        refine AnyJ.one (fuel := 2) 8 (by kernel_rfl) ?_
        refine StepJ.opT (listed' := #[true, true, true, true, true, true, true, true, true, false, false]) rfl rfl rfl rfl rfl ?_
        refine OpJ.call (same_spec _ _ _ (svcbK.wire m')) has_17 rfl rfl rfl rfl rfl [] [0, 1, 2, 3, 4, 5, 6, 7, 8, 9, 10, 11] (by decide) rfl rfl (fun w hI => ⟨Inv.bytes (k := 3) rfl w hI, Inv.bytes (k := 0) rfl w hI⟩) ?_
        rintro _ _ ⟨rfl, rfl⟩
        refine ⟨fun w hI => hI.pick (is := [1, 2, 3, 4, 5, 6, 7, 8, 9, 10, 11]) (by decide) rfl, ?_⟩
        refine AnyJ.take (fuel := 1) (listed' := #[true, true, true, true, true, true, true, true, true, true, false]) 9 rfl (by kernel_rfl) (by kernel_rfl) (by kernel_rfl) rfl rfl rfl rfl (Yld.pickT rfl rfl rfl) (fun w hI => hI.pick (is := [1, 2, 3, 4, 5, 6, 7, 8, 9, 10, 11]) (by decide) rfl) ?_
        refine AnyJ.take (fuel := 0) (listed' := #[true, true, true, true, true, true, true, true, true, true, true]) 10 rfl (by kernel_rfl) (by kernel_rfl) (by kernel_rfl) rfl rfl rfl rfl (Yld.assign rfl rfl) (fun w hI => hI.pick (is := [1, 2, 3, 4, 5, 6, 7, 8, 9, 10, 11]) (by decide) rfl) ?_
        refine AnyJ.done (by kernel_rfl) ?_
        refine ExJ.thenN ?_
        refine CodeJ.ret ?_
        exact ExJ.ret1 Tryd.results8 rfl ⟨by rw [wire_of stable_SVCB hof]; simp, rfl⟩ fun w hI => hI.pick (is := []) (by decide) rfl
      · exact absurd g33 (by decide)
end Go.Proofs.YtamobccbioafmaaDoor
