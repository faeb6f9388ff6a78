/-
  The law FnNoLonger: its walk.
-/
import Derived.Test.YtijhpaejdchjgaaDoorBh
import Derived.Test.YtijhpaejdchjgaaDoorHRNS
namespace Go.Proofs.YtijhpaejdchjgaaDoor
open Go
set_option maxRecDepth 100000
set_option maxHeartbeats 1600000

theorem fnNoLonger_spec (G : GEnv) (h : Hd) (hw : h.wf) (qs : List AskD) (av : Value) (hq : ∀ a ∈ qs, a.wf) (hn : qs.length * 24 ≤ 140737488351232) (one two three : List RecD) (v1 v2 v3 : Value) (h1w : ∀ r ∈ one, r.wf) (l1 : one.length * 168 ≤ 140737488351232) (h2w : ∀ r ∈ two, r.wf) (l2 : two.length * 168 ≤ 140737488351232) (h3w : ∀ r ∈ three, r.wf) (l3 : three.length * 168 ≤ 140737488351232) :
    Spec Tryd.prog 4 [.agg (hdCs h).toArray, av, v1, v2, v3] [] (fun w => GE G w [] ∧ Asks w av qs ∧ Recs w v1 one ∧ Recs w v2 two ∧ Recs w v3 three) (fun r H' => r = .bool true ∧ H' = []) := by
  refine Spec.of Tryd.func4 rfl Tryd.ntmps4 rfl fun w0 hR => ?_
  obtain ⟨hge, hask, hr1, hr2, hr3⟩ := hR
  have hrw : ∀ r ∈ one ++ two ++ three, r.wf := fun r hr => by
    rcases List.mem_append.1 hr with hr | hr
    · rcases List.mem_append.1 hr with hr | hr
      · exact h1w r hr
      · exact h2w r hr
    · exact h3w r hr
  have hfit : MsgFit ⟨h, av, qs, v1, one, v2, two, v3, three⟩ := ⟨hn, l1, l2, l3, fun r hr => (hrw r hr).pairs⟩
  have hmo : MsgOk w0 ⟨h, av, qs, v1, one, v2, two, v3, three⟩ := ⟨hask, hr1, hr2, hr3⟩
  have hst := stable_NS
  have hone : ∀ r : RecD, r.kind = ((2 : Nat) : Int) → RecFit r → (hostK 2).One 2 r := fun r hr hf => one_NS r hr hf
  obtain ⟨p1, c1, e1⟩ := hmo.one.1.shape
  obtain ⟨p2, c2, e2⟩ := hmo.two.1.shape
  obtain ⟨p3, c3, e3⟩ := hmo.three.1.shape
  simp only at e1 e2 e3
  subst e1 e2 e3
  have hro : ∀ r ∈ one ++ two ++ three, RecOk w0 r := fun r hr => by
    rcases List.mem_append.1 hr with hr | hr
    · rcases List.mem_append.1 hr with hr | hr
      · exact hmo.one.2 r hr
      · exact hmo.two.2 r hr
    · exact hmo.three.2 r hr
  refine CodeJ.seq ?_
  refine CodeJ.region ?_
  refine OpsJ.op rfl ?_
  refine OpJ.box rfl rfl rfl rfl fun hd hhd => ?_
  refine OpsJ.yld rfl rfl rfl (Yld.assign rfl rfl) ?_
  refine OpsJ.nil ?_
  refine ExJ.thenN ?_
  refine CodeJ.seq ?_
  refine CodeJ.region ?_
  refine OpsJ.yld rfl rfl rfl (Yld.loadN (vs := hdCs h) rfl Tryd.underlying24 rfl sz_24 rfl (fun w hI => Inv.whole hI (i := 0) rfl)) ?_
  refine OpsJ.yld rfl rfl rfl (Yld.move rfl rfl) ?_
  refine OpsJ.yld rfl rfl rfl (Yld.move rfl rfl) ?_
  refine OpsJ.yld rfl rfl rfl (Yld.move rfl rfl) ?_
  refine OpsJ.yld rfl rfl rfl (Yld.move rfl rfl) ?_
  refine OpsJ.op rfl ?_
  refine OpJ.call (message_spec ((2 : Nat) : Int) ⟨h, av, qs, .slice p1 one.length c1, one, .slice p2 two.length c2, two, .slice p3 three.length c3, three⟩ hfit) has_12 rfl rfl rfl rfl rfl [] [0] (by decide) rfl rfl (fun w hI => hmo.keep0 hI.keep) ?_
  rintro _ _ ⟨m', q, bs, hq', rfl, hof, hmem, rfl⟩
  have hfrom := hof.from_
  have hmok : ∀ w, Keep [] w0 w → q w → MsgOk w m' := fun w hk hw => (hmem w hw).ok hof fun r hr => (hro r hr).keep0 hk
  have hnames : ∀ r' ∈ m'.one ++ m'.two ++ m'.three, r'.name.size ≤ 140737488355328 ∧ r'.host.size ≤ 140737488355328 ∧ r'.box.size ≤ 140737488355328 ∧ r'.typ < 65536 := fun r' hr' => by
    obtain ⟨r, hr, pv, rfl⟩ := hfrom r' hr'
    have := hrw r hr
    exact ⟨Nat.le_trans this.name (Nat.le_of_ble_eq_true rfl), Nat.le_trans this.host (Nat.le_of_ble_eq_true rfl), Nat.le_trans this.box (Nat.le_of_ble_eq_true rfl), this.typ⟩
  have hasks : ∀ a ∈ m'.asks, a.name.size ≤ 140737488355328 := fun a ha => by
    have e : m'.asks = qs := hof.asks
    rw [e] at ha
    exact Nat.le_trans (hq a ha).2.2 (Nat.le_of_ble_eq_true rfl)
  have hlens : m'.asks.length + m'.one.length + m'.two.length + m'.three.length ≤ 17592186044416 := by
    have e1 : m'.asks = qs := hof.asks
    have e2 : m'.one.length = one.length := hof.one.len
    have e3 : m'.two.length = two.length := hof.two.len
    have e4 : m'.three.length = three.length := hof.three.len
    have a1 : qs.length * 24 ≤ 140737488351232 := hfit.asks
    have a2 : one.length * 168 ≤ 140737488351232 := hfit.one
    have a3 : two.length * 168 ≤ 140737488351232 := hfit.two
    have a4 : three.length * 168 ≤ 140737488351232 := hfit.three
    rw [e1, e2, e3, e4]
    omega
  have hones : ∀ r' ∈ m'.one ++ m'.two ++ m'.three, (hostK 2).One 2 r' := fun r' hr' => by
    obtain ⟨r, hr, pv, rfl⟩ := hfrom r' hr'
    exact hone _ rfl (specRec_fit (hrw r hr).fit _ _)
  refine OpsJ.op rfl ?_
  refine OpJ.alloc rfl rfl rfl zero_31 fun mb hmb => ?_
  refine OpsJ.op rfl ?_
  refine OpJ.storeW (i := 0) rfl rfl rfl rfl sz_31 rfl hof.ones rfl ?_
  refine OpsJ.nil ?_
  refine ExJ.thenN ?_
  refine CodeJ.seq ?_
  refine CodeJ.seq ?_
  refine CodeJ.region ?_
  refine OpsJ.yld rfl rfl rfl (Yld.loadN (vs := m'.cells) rfl Tryd.underlying31 rfl sz_31 rfl (fun w hI => Inv.whole hI (i := 0) rfl)) ?_
  refine OpsJ.op rfl ?_
  refine OpJ.call (ok_spec (hostK 2) m' (Kind.meets_of hones) hasks (fun r hr => (hnames r hr).1) hlens) has_13 rfl rfl rfl rfl rfl [] [0, 1, 2] (by decide) rfl rfl (fun w hI => hmok w hI.keep (hI.roGet (i := 1) rfl)) ?_
  rintro _ _ ⟨rfl, rfl⟩
  refine OpsJ.yld rfl rfl rfl (Yld.not rfl rfl) ?_
  refine OpsJ.yld rfl rfl rfl (Yld.move rfl rfl) ?_
  refine OpsJ.splitB (s := 23) rfl (fun g23 => ?_) (fun g23 => ?_)
  · refine OpsJ.opF rfl rfl rfl rfl rfl rfl ?_
    refine OpsJ.opF rfl rfl rfl rfl rfl rfl ?_
    refine OpsJ.opF rfl rfl rfl rfl rfl rfl ?_
    refine OpsJ.yld rfl rfl rfl (Yld.pickT rfl rfl rfl) ?_
    refine OpsJ.nil ?_
    refine ExJ.thenN ?_
    refine CodeJ.condT rfl ?_
    refine CodeJ.seq ?_
    refine CodeJ.region ?_
    refine OpsJ.yld rfl rfl rfl (Yld.assign rfl rfl) ?_
    refine OpsJ.nil ?_
    refine ExJ.thenN ?_
    refine CodeJ.ret ?_
    refine ExJ.thenR ?_
    exact ExJ.ret1 Tryd.results4 rfl ⟨rfl, rfl⟩ fun w hI => hI.pick (is := []) (by decide) rfl
  · have hokB : (hostK 2).okB m' = true := by simpa using g23
    have hO : OkMsg (hostK 2) h qs one two three := ok_msg hst hof hokB
    refine OpsJ.opT rfl rfl rfl ?_
    refine OpJ.yld rfl rfl (Yld.loadN (vs := m'.cells) rfl Tryd.underlying31 rfl sz_31 rfl (fun w hI => Inv.whole hI (i := 0) rfl)) ?_
    refine OpsJ.opT rfl rfl rfl ?_
    refine OpJ.call (small_spec m' ⟨hasks, hnames, hlens⟩) has_14 rfl rfl rfl rfl rfl [] [0, 1, 2] (by decide) rfl rfl (fun w hI => hmok w hI.keep (hI.roGet (i := 1) rfl)) ?_
    rintro _ _ ⟨⟨bsm, rfl⟩, rfl⟩
    refine OpsJ.opT rfl rfl rfl ?_
    refine OpJ.yld rfl rfl (Yld.not rfl rfl) ?_
    refine OpsJ.yld rfl rfl rfl (Yld.pickF rfl rfl rfl) ?_
    refine OpsJ.nil ?_
    refine ExJ.thenN ?_
    refine CodeJ.cond rfl (fun c27 => ?_) (fun c27 => ?_)
    · refine CodeJ.seq ?_
      refine CodeJ.region ?_
      refine OpsJ.yld rfl rfl rfl (Yld.assign rfl rfl) ?_
      refine OpsJ.nil ?_
      refine ExJ.thenN ?_
      refine CodeJ.ret ?_
      refine ExJ.thenR ?_
      exact ExJ.ret1 Tryd.results4 rfl ⟨rfl, rfl⟩ fun w hI => hI.pick (is := []) (by decide) rfl
    · obtain ⟨t, mt, d1, d2, d3, ha, h1, h2, h3, hlt, hlt2, hrun, hrf⟩ := all_short hostBA_grows nsAdder h qs one two three hO.asks (fun x hx => recShort_NS (hrw x hx) (hO.recs x hx)) hO.len
      have hk : 2 ≤ 13 := by decide
      have hln := hO.len
      have hfin := fin_short h t qs.length one.length two.length three.length mt ⟨by omega, by omega, by omega, by omega⟩
      obtain ⟨hdr, hhdr⟩ : ∃ hdr, hdr = headWire h [qs.length, one.length, two.length, three.length] := ⟨_, rfl⟩
      have hh : hdr.length = 12 := by rw [hhdr]; rfl
      rw [← hhdr] at hfin
      have hsl : (stepsL true qs [one, two, three]).length ≤ 1000000 := by
        simp only [stepsL, secSteps, if_true, List.length_append, List.length_cons, List.length_map, List.length_nil]
        omega
      have hlenm : (hdr ++ t).length = 12 + t.length := by rw [List.length_append, hh]
      have hwm : (hostK 2).Writes (m'.one ++ m'.two ++ m'.three) := Kind.writes_of hk hones (fun r' hr' => by obtain ⟨r, hr, pv, rfl⟩ := hfrom r' hr'; rw [hst.recOk]; exact hO.recs r hr)
      have hcm : m'.asks.length < 60000 ∧ m'.one.length < 60000 ∧ m'.two.length < 60000 ∧ m'.three.length < 60000 := by
        have e1 : m'.asks = qs := hof.asks
        have e2 : m'.one.length = one.length := hof.one.len
        have e3 : m'.two.length = two.length := hof.two.len
        have e4 : m'.three.length = three.length := hof.three.len
        rw [e1, e2, e3, e4]
        exact hln
      have hwh : m'.head.wf := by
        have : m'.head = h := hof.head
        rw [this]
        exact hw
      have has2 : ∀ a ∈ m'.asks, a.name.size ≤ 254 := fun a ha => by
        have e : m'.asks = qs := hof.asks
        rw [e] at ha
        exact nameOk_size _ (hO.asks a ha)
      refine CodeJ.skip ?_
      refine ExJ.thenN ?_
      refine CodeJ.seq ?_
      refine CodeJ.region ?_
      refine OpsJ.yld rfl rfl rfl (Yld.move rfl rfl) ?_
      refine OpsJ.yld rfl rfl rfl (Yld.move rfl rfl) ?_
      refine OpsJ.yld rfl rfl rfl (Yld.move rfl rfl) ?_
      refine OpsJ.yld rfl rfl rfl (Yld.move rfl rfl) ?_
      refine OpsJ.op rfl ?_
      refine OpJ.buildSlice (xs := [.tmp 29, .tmp 30, .tmp 31]) elt_72 rfl rfl rfl rfl rfl rfl (by rfl) (by decide) fun lists hlists => ?_
      refine OpsJ.op rfl ?_
      refine OpJ.call (steps_spec true qs [one, two, three] av _ [.slice p1 one.length c1, .slice p2 two.length c2, .slice p3 three.length c3] rfl (by omega)) has_15 rfl rfl rfl rfl rfl [] [0, 1, 2, 3] (by decide) rfl rfl (fun w hI => ⟨Row.keep0 hmo.asks hI.keep, Own.row (hI.hs _ (List.mem_of_getElem? (i := 0) rfl)).1, fun i v rs h1 h2 => by
      match i with
      | 0 => simp at h1 h2; subst h1 h2; exact hmo.one.keep0 hI.keep
      | 1 => simp at h1 h2; subst h1 h2; exact hmo.two.keep0 hI.keep
      | 2 => simp at h1 h2; subst h1 h2; exact hmo.three.keep0 hI.keep
      | i + 3 => simp at h1⟩) ?_
      rintro _ _ ⟨p46, c46, rfl, rfl⟩
      refine OpsJ.yld rfl rfl rfl (Yld.assign rfl rfl) ?_
      refine OpsJ.nil ?_
      refine ExJ.thenN ?_
      refine CodeJ.seq ?_
      refine CodeJ.region ?_
      refine OpsJ.yld rfl rfl rfl (Yld.loadN (vs := hdCs h) rfl Tryd.underlying24 rfl sz_24 rfl (fun w hI => Inv.whole hI (i := 4) rfl)) ?_
      refine OpsJ.yld rfl rfl rfl (Yld.move rfl rfl) ?_
      refine OpsJ.op rfl ?_
      refine OpJ.call (build_NS G h hw [] (.slice none 0 0) _ (stepsL true qs [one, two, three]) (by omega) (by simp) hrun) has_16 rfl rfl rfl rfl rfl [] [0, 1, 2, 3, 4] (by decide) rfl rfl (fun w hI => ⟨hge.call hI (is := []) rfl, .inl ⟨none, 0, rfl, rfl⟩, Own.row (hI.hs _ (List.mem_of_getElem? (i := 0) rfl)).1, stepsL_rec (fun l hl r hr => (hro r (by simp at hl; rcases hl with rfl | rfl | rfl <;> simp [hr])).keep0 hI.keep)⟩) ?_
      rintro _ _ ⟨q1, d1', q2, d2', rfl, rfl⟩
      rw [hrf]
      simp only [hfin]
      refine OpsJ.op rfl ?_
      refine OpJ.alloc rfl rfl rfl zero_48 fun got hgot => ?_
      refine OpsJ.op rfl ?_
      refine OpJ.storeW (i := 0) rfl rfl rfl rfl sz_48 rfl rfl rfl ?_
      refine OpsJ.nil ?_
      refine ExJ.thenN ?_
      refine CodeJ.seq ?_
      refine CodeJ.any (fuel := 19) (listed := #[false, false, false, false, false, false, false, false, false, false, false, false, false, false, false, false, false, false, false]) [0, 1, 2, 3, 4, 5, 6, 7] rfl follows_mixed rfl rfl ?_
      refine AnyJ.take (fuel := 18) (listed' := #[true, false, false, false, false, false, false, false, false, false, false, false, false, false, false, false, false, false, false]) 0 rfl (by kernel_rfl) (by kernel_rfl) (by kernel_rfl) rfl rfl rfl rfl (Yld.loadN (vs := [.slice q1 _ d1', .slice q2 _ d2', .int .i64 0]) rfl Tryd.underlying48 rfl sz_48 rfl (fun w hI => Inv.whole hI (i := 0) rfl)) (fun w hI => hI.pick (is := [0, 1, 2, 3, 4, 5, 6, 7]) (by decide) rfl) ?_
      refine AnyJ.take (fuel := 17) (listed' := #[true, true, false, false, false, false, false, false, false, false, false, false, false, false, false, false, false, false, false]) 1 rfl (by kernel_rfl) (by kernel_rfl) (by kernel_rfl) rfl rfl rfl rfl (Yld.move rfl rfl) (fun w hI => hI.pick (is := [0, 1, 2, 3, 4, 5, 6, 7]) (by decide) rfl) ?_
      refine AnyJ.one (fuel := 16) 2 (by kernel_rfl) ?_
      refine StepJ.op (listed' := #[true, true, true, false, false, false, false, false, false, false, false, false, false, false, false, false, false, false, false]) rfl rfl rfl ?_
      refine OpJ.call (fine_spec _ _ (List.replicate (stepsL true qs [one, two, three]).length 0) p46 (stepsL true qs [one, two, three]).length c46 (by rw [List.length_replicate]; omega)) has_18 rfl rfl rfl rfl rfl [] [0, 1, 2, 3, 4, 5, 6, 7] (by decide) rfl rfl (fun w hI => Own.row (hI.hs _ (List.mem_of_getElem? (i := 1) rfl)).1) ?_
      rintro _ _ ⟨rfl, rfl⟩
      refine ⟨fun w hI => hI.pick (is := [0, 1, 2, 3, 4, 5, 6, 7]) (by decide) rfl, ?_⟩
      refine AnyJ.take (fuel := 15) (listed' := #[true, true, true, true, false, false, false, false, false, false, false, false, false, false, false, false, false, false, false]) 3 rfl (by kernel_rfl) (by kernel_rfl) (by kernel_rfl) rfl rfl rfl rfl (Yld.move rfl rfl) (fun w hI => hI.pick (is := [0, 1, 2, 3, 4, 5, 6, 7]) (by decide) rfl) ?_
      refine AnyJ.splitB (s := 40) rfl (fun g40 => ?_) (fun g40 => ?_)
      · refine AnyJ.takeT (fuel := 14) (listed' := #[true, true, true, true, true, false, false, false, false, false, false, false, false, false, false, false, false, false, false]) 4 rfl (by kernel_rfl) (by kernel_rfl) (by kernel_rfl) rfl rfl rfl rfl rfl rfl (Yld.fieldAddr fa_48_1 rfl rfl) (fun w hI => hI.pick (is := [0, 1, 2, 3, 4, 5, 6, 7]) (by decide) rfl) ?_
        refine AnyJ.takeT (fuel := 13) (listed' := #[true, true, true, true, true, true, false, false, false, false, false, false, false, false, false, false, false, false, false]) 5 rfl (by kernel_rfl) (by kernel_rfl) (by kernel_rfl) rfl rfl rfl rfl rfl rfl (Yld.load1 rfl Tryd.underlying39 rfl rfl (fun w hI => Inv.cell1 hI (i := 0) rfl rfl)) (fun w hI => hI.pick (is := [0, 1, 2, 3, 4, 5, 6, 7]) (by decide) rfl) ?_
        refine AnyJ.takeT (fuel := 12) (listed' := #[true, true, true, true, true, true, true, false, false, false, false, false, false, false, false, false, false, false, false]) 6 rfl (by kernel_rfl) (by kernel_rfl) (by kernel_rfl) rfl rfl rfl rfl rfl rfl (Yld.lenSlice rfl rfl rfl Tryd.underlying39 rfl) (fun w hI => hI.pick (is := [0, 1, 2, 3, 4, 5, 6, 7]) (by decide) rfl) ?_
        refine AnyJ.takeT (fuel := 11) (listed' := #[true, true, true, true, true, true, true, true, false, false, false, false, false, false, false, false, false, false, false]) 7 rfl (by kernel_rfl) (by kernel_rfl) (by kernel_rfl) rfl rfl rfl rfl rfl rfl (Yld.intBin rfl rfl rfl rfl) (fun w hI => hI.pick (is := [0, 1, 2, 3, 4, 5, 6, 7]) (by decide) rfl) ?_
        refine AnyJ.take (fuel := 10) (listed' := #[true, true, true, true, true, true, true, true, true, false, false, false, false, false, false, false, false, false, false]) 8 rfl (by kernel_rfl) (by kernel_rfl) (by kernel_rfl) rfl rfl rfl rfl (Yld.pickT rfl rfl rfl) (fun w hI => hI.pick (is := [0, 1, 2, 3, 4, 5, 6, 7]) (by decide) rfl) ?_
        refine AnyJ.take (fuel := 9) (listed' := #[true, true, true, true, true, true, true, true, true, true, false, false, false, false, false, false, false, false, false]) 9 rfl (by kernel_rfl) (by kernel_rfl) (by kernel_rfl) rfl rfl rfl rfl (Yld.move rfl rfl) (fun w hI => hI.pick (is := [0, 1, 2, 3, 4, 5, 6, 7]) (by decide) rfl) ?_
        refine AnyJ.splitP (s := 46) rfl (fun g46 => ?_) (fun g46 => ?_)
        · refine AnyJ.takeT (fuel := 8) (listed' := #[true, true, true, true, true, true, true, true, true, true, true, false, false, false, false, false, false, false, false]) 10 rfl (by kernel_rfl) (by kernel_rfl) (by kernel_rfl) rfl rfl rfl rfl rfl rfl (Yld.fieldAddr fa_48_1 rfl rfl) (fun w hI => hI.pick (is := [0, 1, 2, 3, 4, 5, 6, 7]) (by decide) rfl) ?_
          refine AnyJ.takeT (fuel := 7) (listed' := #[true, true, true, true, true, true, true, true, true, true, true, true, false, false, false, false, false, false, false]) 11 rfl (by kernel_rfl) (by kernel_rfl) (by kernel_rfl) rfl rfl rfl rfl rfl rfl (Yld.load1 rfl Tryd.underlying39 rfl rfl (fun w hI => Inv.cell1 hI (i := 0) rfl rfl)) (fun w hI => hI.pick (is := [0, 1, 2, 3, 4, 5, 6, 7]) (by decide) rfl) ?_
          refine AnyJ.takeT (fuel := 6) (listed' := #[true, true, true, true, true, true, true, true, true, true, true, true, true, false, false, false, false, false, false]) 12 rfl (by kernel_rfl) (by kernel_rfl) (by kernel_rfl) rfl rfl rfl rfl rfl rfl (Yld.lenSlice rfl rfl rfl Tryd.underlying39 rfl) (fun w hI => hI.pick (is := [0, 1, 2, 3, 4, 5, 6, 7]) (by decide) rfl) ?_
          refine AnyJ.takeT (fuel := 5) (listed' := #[true, true, true, true, true, true, true, true, true, true, true, true, true, true, false, false, false, false, false]) 13 rfl (by kernel_rfl) (by kernel_rfl) (by kernel_rfl) rfl rfl rfl rfl rfl rfl (Yld.loadN (vs := m'.cells) rfl Tryd.underlying31 rfl sz_31 rfl (fun w hI => Inv.whole hI (i := 5) rfl)) (fun w hI => hI.pick (is := [0, 1, 2, 3, 4, 5, 6, 7]) (by decide) rfl) ?_
          refine AnyJ.one (fuel := 4) 14 (by kernel_rfl) ?_
          refine StepJ.opT (listed' := #[true, true, true, true, true, true, true, true, true, true, true, true, true, true, true, false, false, false, false]) rfl rfl rfl rfl rfl ?_
          refine OpJ.call (messageWire_spec (hostK 2) m' hwh hwm has2 hcm) has_20 rfl rfl rfl rfl rfl [] [0, 1, 2, 3, 4, 5, 6, 7] (by decide) rfl rfl (fun w hI => hmok w hI.keep (hI.roGet (i := 6) rfl)) ?_
          rintro _ _ ⟨p58, c58, rfl, rfl⟩
          refine ⟨fun w hI => hI.pick (is := [1, 2, 3, 4, 5, 6, 7, 8]) (by decide) rfl, ?_⟩
          refine AnyJ.takeT (fuel := 3) (listed' := #[true, true, true, true, true, true, true, true, true, true, true, true, true, true, true, true, false, false, false]) 15 rfl (by kernel_rfl) (by kernel_rfl) (by kernel_rfl) rfl rfl rfl rfl rfl rfl (Yld.lenSlice rfl rfl rfl Tryd.underlying39 rfl) (fun w hI => hI.pick (is := [1, 2, 3, 4, 5, 6, 7, 8]) (by decide) rfl) ?_
          refine AnyJ.takeT (fuel := 2) (listed' := #[true, true, true, true, true, true, true, true, true, true, true, true, true, true, true, true, true, false, false]) 16 rfl (by kernel_rfl) (by kernel_rfl) (by kernel_rfl) rfl rfl rfl rfl rfl rfl (Yld.intBin rfl rfl rfl rfl) (fun w hI => hI.pick (is := [1, 2, 3, 4, 5, 6, 7, 8]) (by decide) rfl) ?_
          refine AnyJ.take (fuel := 1) (listed' := #[true, true, true, true, true, true, true, true, true, true, true, true, true, true, true, true, true, true, false]) 17 rfl (by kernel_rfl) (by kernel_rfl) (by kernel_rfl) rfl rfl rfl rfl (Yld.pickT rfl rfl rfl) (fun w hI => hI.pick (is := [1, 2, 3, 4, 5, 6, 7, 8]) (by decide) rfl) ?_
          refine AnyJ.take (fuel := 0) (listed' := #[true, true, true, true, true, true, true, true, true, true, true, true, true, true, true, true, true, true, true]) 18 rfl (by kernel_rfl) (by kernel_rfl) (by kernel_rfl) rfl rfl rfl rfl (Yld.assign rfl rfl) (fun w hI => hI.pick (is := [1, 2, 3, 4, 5, 6, 7, 8]) (by decide) rfl) ?_
          refine AnyJ.done (by kernel_rfl) ?_
          refine ExJ.thenN ?_
          refine CodeJ.ret ?_
          refine ExJ.ret1 Tryd.results4 rfl ⟨?_, rfl⟩ fun w hI => hI.pick (is := []) (by decide) rfl
          have hwl : ((hostK 2).wire m').length = 12 + ((qs.map askWire).flatten).length + (((one ++ two ++ three).map (hostK 2).recWire).flatten).length := by rw [wire_of hst hof, List.length_append, List.length_append]; rfl
          exact congrArg Value.bool (decide_eq_true (show (((hdr ++ t).length : Nat) : Int) ≤ ((((hostK 2).wire m').length : Nat) : Int) by omega))
        · exact absurd (show (((hdr ++ t).length : Nat) : Int) ≥ 12 by omega) g46
      · exact absurd g40 (by rw [all_zero]; decide)
end Go.Proofs.YtijhpaejdchjgaaDoor
