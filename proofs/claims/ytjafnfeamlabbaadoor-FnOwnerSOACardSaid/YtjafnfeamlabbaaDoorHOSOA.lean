/-
  The law FnOwnerSOA: its walk.
-/
import Derived.Test.YtjafnfeamlabbaaDoorBh
import Derived.Test.YtjafnfeamlabbaaDoorHRSOA
import Derived.Test.YtjafnfeamlabbaaDoorHOwnP
namespace Go.Proofs.YtjafnfeamlabbaaDoor
open Go
set_option maxRecDepth 100000
set_option maxHeartbeats 1600000

theorem own_SOA {x : RecD} (hwf : x.own.wf) (hok : soaK.recOk x.own = true) (hl : 1 < x.own.name.data.toList.length) : OwnShort soaK (fun _ => 6) soaPk (fun x => PName (cut255 x.host) ∧ PName (cut255 x.box)) soaAdder x.own := by
  have h := okn_SOA hok
  refine ⟨rfl, h.1, hl, rfl, fun base m p hp => ⟨ptrB p ++ ptrB p ++ nums20 x.own, m, ?_, ?_⟩⟩
  · show soaP base true (cut255 x.own.host) (cut255 x.own.box) x.own m = _
    rw [cut_ok h.2.1, cut_ok h.2.2.1]
    have e1 := packN_hit base x.own.name.data.toList m p h.1 hl hp
    have e2 := packN_hit (base + (ptrB p).length) x.own.name.data.toList m p h.1 hl hp
    have e3 : x.own.host.data.toList = x.own.name.data.toList := rfl
    have e4 : x.own.box.data.toList = x.own.name.data.toList := rfl
    simp only [soaP, e3, e4, e1, e2]
  · have h1 := wire_long x.own.name.data.toList h.1 hl
    have e3 : x.own.host.data.toList = x.own.name.data.toList := rfl
    have e4 : x.own.box.data.toList = x.own.name.data.toList := rfl
    show (ptrB p ++ ptrB p ++ nums20 x.own).length < (wire x.own.host.data.toList ++ wire x.own.box.data.toList ++ nums20 x.own).length
    rw [e3, e4]
    simp only [List.length_append, ptrB, List.length_cons, List.length_nil]
    omega

theorem fnOwnerSOA_spec (G : GEnv) (h : Hd) (hw : h.wf) (y : RecD) (hyw : y.wf) :
    Spec Tryd.prog 9 [.agg (hdCs h).toArray, .agg y.cells.toArray] [] (fun w => GE G w [] ∧ RecOk w y) (fun r H' => r = .bool true ∧ H' = []) := by
  refine Spec.of Tryd.func9 rfl Tryd.ntmps9 rfl fun w0 hR => ?_
  obtain ⟨hge, hry⟩ := hR
  have hrx : RecOk w0 y.own := ⟨hry.data, hry.texts, hry.pairs, hry.pdata⟩
  have hxw := own_wf hyw
  obtain ⟨x, hxdef⟩ : ∃ x, x = y.own := ⟨_, rfl⟩
  refine CodeJ.seq ?_
  refine CodeJ.region ?_
  refine OpsJ.op rfl ?_
  refine OpJ.box rfl rfl rfl rfl fun hd hhd => ?_
  refine OpsJ.op rfl ?_
  refine OpJ.box rfl rfl rfl rfl fun xb hxb => ?_
  refine OpsJ.yld rfl rfl rfl (Yld.assign rfl rfl) ?_
  refine OpsJ.nil ?_
  refine ExJ.thenN ?_
  refine CodeJ.seq ?_
  refine CodeJ.region ?_
  refine OpsJ.yld rfl rfl rfl (Yld.fieldAddr fa_30_0 rfl rfl) ?_
  refine OpsJ.yld rfl rfl rfl (Yld.load1 rfl Tryd.underlying9 rfl rfl (fun w hI => Inv.cell1 hI (i := 0) rfl rfl)) ?_
  refine OpsJ.yld rfl rfl rfl (Yld.fieldAddr fa_30_0 rfl rfl) ?_
  refine OpsJ.yld rfl rfl rfl (Yld.load1 rfl Tryd.underlying9 rfl rfl (fun w hI => Inv.cell1 hI (i := 0) rfl rfl)) ?_
  refine OpsJ.yld rfl rfl rfl (Yld.fieldAddr fa_30_7 rfl rfl) ?_
  refine OpsJ.op rfl ?_
  refine OpJ.store1 (i := 0) rfl rfl rfl rfl rfl sz_9 rfl rfl ?_
  refine OpsJ.yld rfl rfl rfl (Yld.fieldAddr fa_30_8 rfl rfl) ?_
  refine OpsJ.op rfl ?_
  refine OpJ.store1 (i := 0) rfl rfl rfl rfl rfl sz_9 rfl rfl ?_
  refine OpsJ.nil ?_
  refine ExJ.thenN ?_
  refine CodeJ.seq ?_
  refine CodeJ.region ?_
  refine OpsJ.yld rfl rfl rfl (Yld.loadN (vs := hdCs h) rfl Tryd.underlying24 rfl sz_24 rfl (fun w hI => Inv.whole hI (i := 1) rfl)) ?_
  refine OpsJ.yld rfl rfl rfl (Yld.loadN (vs := y.own.cells) rfl Tryd.underlying30 rfl sz_30 rfl (fun w hI => Inv.whole hI (i := 0) rfl)) ?_
  refine OpsJ.op rfl ?_
  refine OpJ.buildSlice (xs := [.tmp 18]) elt_36 rfl rfl rfl rfl rfl rfl (by rfl) (by decide) fun l1 hl1 => ?_
  refine OpsJ.op rfl ?_
  refine OpJ.call (message_spec (4 : Nat) ⟨h, .slice none 0 0, [], .slice (some ⟨l1, 0, none⟩) 1 1, [y.own], .slice none 0 0, [], .slice none 0 0, []⟩ ⟨by simp, by simp, by simp, by simp, fun r hr => by simp at hr; subst hr; exact hxw.pairs⟩) has_18 rfl rfl rfl rfl rfl [] [0, 1, 2] (by decide) rfl rfl (fun w hI => ⟨.inl ⟨none, 0, rfl, rfl, rfl⟩, recs_one (hI.hs _ (List.mem_of_getElem? (i := 0) rfl)).1 (hrx.keep0 hI.keep), recs_nil _ _ _, recs_nil _ _ _⟩) ?_
  rintro _ _ ⟨m', q, bs, hq', rfl, hof, hmem, rfl⟩
  have hfrom := hof.from_
  have hmok : ∀ w, Keep [] w0 w → q w → MsgOk w m' := fun w hk hw => (hmem w hw).ok hof fun r hr => by simp at hr; subst hr; exact hrx.keep0 hk
  have hall : ∀ r' ∈ m'.one ++ m'.two ++ m'.three, ∃ pv, r' = specRec (4 : Nat) y.own pv := fun r' hr' => by
    obtain ⟨r, hr, pv, e⟩ := hfrom r' hr'
    simp at hr
    subst hr
    exact ⟨pv, e⟩
  have hones : ∀ r' ∈ m'.one ++ m'.two ++ m'.three, soaK.One 4 r' := fun r' hr' => by
    obtain ⟨pv, rfl⟩ := hall r' hr'
    exact one_SOA _ rfl (specRec_fit hxw.fit _ _)
  have hnames : ∀ r' ∈ m'.one ++ m'.two ++ m'.three, r'.name.size ≤ 140737488355328 ∧ r'.host.size ≤ 140737488355328 ∧ r'.box.size ≤ 140737488355328 ∧ r'.typ < 65536 := fun r' hr' => by
    obtain ⟨pv, rfl⟩ := hall r' hr'
    exact ⟨Nat.le_trans hxw.name (Nat.le_of_ble_eq_true rfl), Nat.le_trans hxw.host (Nat.le_of_ble_eq_true rfl), Nat.le_trans hxw.box (Nat.le_of_ble_eq_true rfl), hxw.typ⟩
  have e1 : m'.asks = [] := hof.asks
  have e2 : m'.one.length = 1 := hof.one.len
  have e3 : m'.two.length = 0 := hof.two.len
  have e4 : m'.three.length = 0 := hof.three.len
  have hasks : ∀ a ∈ m'.asks, a.name.size ≤ 140737488355328 := fun a ha => by rw [e1] at ha; cases ha
  have hlens : m'.asks.length + m'.one.length + m'.two.length + m'.three.length ≤ 17592186044416 := by rw [e1, e2, e3, e4]; decide
  refine OpsJ.op rfl ?_
  refine OpJ.alloc rfl rfl rfl zero_43 fun mb hmb => ?_
  refine OpsJ.op rfl ?_
  refine OpJ.storeW (i := 0) rfl rfl rfl rfl sz_43 rfl hof.ones rfl ?_
  refine OpsJ.nil ?_
  refine ExJ.thenN ?_
  refine CodeJ.seq ?_
  refine CodeJ.seq ?_
  refine CodeJ.region ?_
  refine OpsJ.yld rfl rfl rfl (Yld.loadN (vs := m'.cells) rfl Tryd.underlying43 rfl sz_43 rfl (fun w hI => Inv.whole hI (i := 0) rfl)) ?_
  refine OpsJ.op rfl ?_
  refine OpJ.call (ok_spec soaK m' (Kind.meets_of hones) hasks (fun r hr => (hnames r hr).1) hlens) has_19 rfl rfl rfl rfl rfl [] [0, 1, 2, 3, 4] (by decide) rfl rfl (fun w hI => hmok w hI.keep (hI.roGet (i := 1) rfl)) ?_
  rintro _ _ ⟨rfl, rfl⟩
  refine OpsJ.yld rfl rfl rfl (Yld.not rfl rfl) ?_
  refine OpsJ.yld rfl rfl rfl (Yld.move rfl rfl) ?_
  refine OpsJ.splitB (s := 24) rfl (fun g24 => ?_) (fun g24 => ?_)
  · refine OpsJ.opF rfl rfl rfl rfl rfl rfl ?_
    refine OpsJ.opF rfl rfl rfl rfl rfl rfl ?_
    refine OpsJ.opF rfl rfl rfl rfl rfl rfl ?_
    refine OpsJ.yld rfl rfl rfl (Yld.pickT rfl rfl rfl) ?_
    refine OpsJ.yld rfl rfl rfl (Yld.move rfl rfl) ?_
    refine OpsJ.opF rfl rfl rfl rfl rfl rfl ?_
    refine OpsJ.opF rfl rfl rfl rfl rfl rfl ?_
    refine OpsJ.opF rfl rfl rfl rfl rfl rfl ?_
    refine OpsJ.opF rfl rfl rfl rfl rfl rfl ?_
    refine OpsJ.yld rfl rfl rfl (Yld.pickT rfl rfl rfl) ?_
    refine OpsJ.nil ?_
    refine ExJ.thenN ?_
    refine CodeJ.condT rfl ?_
    refine CodeJ.seq ?_
    refine CodeJ.region ?_
    refine OpsJ.yld rfl rfl rfl (Yld.assign rfl rfl) ?_
    refine OpsJ.nil ?_
    refine ExJ.thenN ?_
    refine CodeJ.ret ?_
    refine ExJ.thenR ?_
    exact ExJ.ret1 Tryd.results9 rfl ⟨rfl, rfl⟩ fun w hI => hI.pick (is := []) (by decide) rfl
  · have hokB : soaK.okB m' = true := by simpa using g24
    have hO : OkMsg soaK h [] [y.own] [] [] := ok_msg stable_SOA hof hokB
    refine OpsJ.opT rfl rfl rfl ?_
    refine OpJ.yld rfl rfl (Yld.loadN (vs := m'.cells) rfl Tryd.underlying43 rfl sz_43 rfl (fun w hI => Inv.whole hI (i := 0) rfl)) ?_
    refine OpsJ.opT rfl rfl rfl ?_
    refine OpJ.call (small_spec m' ⟨hasks, hnames, hlens⟩) has_24 rfl rfl rfl rfl rfl [] [0, 1, 2, 3, 4] (by decide) rfl rfl (fun w hI => hmok w hI.keep (hI.roGet (i := 1) rfl)) ?_
    rintro _ _ ⟨⟨bsm, rfl⟩, rfl⟩
    refine OpsJ.opT rfl rfl rfl ?_
    refine OpJ.yld rfl rfl (Yld.not rfl rfl) ?_
    refine OpsJ.yld rfl rfl rfl (Yld.pickF rfl rfl rfl) ?_
    refine OpsJ.yld rfl rfl rfl (Yld.move rfl rfl) ?_
    refine OpsJ.splitB (s := 29) rfl (fun g29 => ?_) (fun g29 => ?_)
    · refine OpsJ.opF rfl rfl rfl rfl rfl rfl ?_
      refine OpsJ.opF rfl rfl rfl rfl rfl rfl ?_
      refine OpsJ.opF rfl rfl rfl rfl rfl rfl ?_
      refine OpsJ.opF rfl rfl rfl rfl rfl rfl ?_
      refine OpsJ.yld rfl rfl rfl (Yld.pickT rfl rfl rfl) ?_
      refine OpsJ.nil ?_
      refine ExJ.thenN ?_
      refine CodeJ.condT rfl ?_
      refine CodeJ.seq ?_
      refine CodeJ.region ?_
      refine OpsJ.yld rfl rfl rfl (Yld.assign rfl rfl) ?_
      refine OpsJ.nil ?_
      refine ExJ.thenN ?_
      refine CodeJ.ret ?_
      refine ExJ.thenR ?_
      exact ExJ.ret1 Tryd.results9 rfl ⟨rfl, rfl⟩ fun w hI => hI.pick (is := []) (by decide) rfl
    · refine OpsJ.opT rfl rfl rfl ?_
      refine OpJ.yld rfl rfl (Yld.fieldAddr fa_30_0 rfl rfl) ?_
      refine OpsJ.opT rfl rfl rfl ?_
      refine OpJ.yld rfl rfl (Yld.load1 rfl Tryd.underlying9 rfl rfl (fun w hI => Inv.cell1 hI (i := 3) rfl rfl)) ?_
      refine OpsJ.opT rfl rfl rfl ?_
      refine OpJ.yld rfl rfl (Yld.lenString rfl rfl rfl Tryd.underlying9 rfl) ?_
      refine OpsJ.opT rfl rfl rfl ?_
      refine OpJ.yld rfl rfl (Yld.intBin rfl rfl rfl rfl) ?_
      refine OpsJ.yld rfl rfl rfl (Yld.pickF rfl rfl rfl) ?_
      refine OpsJ.nil ?_
      refine ExJ.thenN ?_
      refine CodeJ.condP rfl (fun c34 => ?_) (fun c34 => ?_)
      · refine CodeJ.seq ?_
        refine CodeJ.region ?_
        refine OpsJ.yld rfl rfl rfl (Yld.assign rfl rfl) ?_
        refine OpsJ.nil ?_
        refine ExJ.thenN ?_
        refine CodeJ.ret ?_
        refine ExJ.thenR ?_
        exact ExJ.ret1 Tryd.results9 rfl ⟨rfl, rfl⟩ fun w hI => hI.pick (is := []) (by decide) rfl
      · have hlong : 1 < y.own.name.data.toList.length := by
          have c34' : ¬ ((y.name.size : Nat) : Int) < 2 := c34
          rw [str_len]
          show 1 < y.name.size
          omega
        have hxok : soaK.recOk y.own = true := hO.recs y.own (by simp)
        obtain ⟨t, mt, hra, hlt, hlt2, hrun, hrf⟩ := own_short soaBA_grows soaAdder h y.own (recShort_SOA hxw hxok) (own_SOA hxw hxok hlong)
        have hfin := fin_own h t mt
        obtain ⟨hdr, hhdr⟩ : ∃ hdr, hdr = headWire h [([] : List AskD).length, [y.own].length, ([] : List RecD).length, ([] : List RecD).length] := ⟨_, rfl⟩
        have hh : hdr.length = 12 := by rw [hhdr]; rfl
        rw [show headWire h [0, 1, 0, 0] = hdr from hhdr.symm] at hfin
        have hlenm : (hdr ++ t).length = 12 + t.length := by rw [List.length_append, hh]
        have hwm : soaK.Writes (m'.one ++ m'.two ++ m'.three) := Kind.writes_of (by decide) hones (fun r' hr' => by obtain ⟨pv, rfl⟩ := hall r' hr'; rw [stable_SOA.recOk]; exact hxok)
        have hcm : m'.asks.length < 60000 ∧ m'.one.length < 60000 ∧ m'.two.length < 60000 ∧ m'.three.length < 60000 := by rw [e1, e2, e3, e4]; decide
        have hwh : m'.head.wf := by
          have : m'.head = h := hof.head
          rw [this]
          exact hw
        have has2 : ∀ a ∈ m'.asks, a.name.size ≤ 254 := fun a ha => by rw [e1] at ha; cases ha
        refine CodeJ.skip ?_
        refine ExJ.thenN ?_
        refine CodeJ.seq ?_
        refine CodeJ.region ?_
        refine OpsJ.yld rfl rfl rfl (Yld.loadN (vs := y.own.cells) rfl Tryd.underlying30 rfl sz_30 rfl (fun w hI => Inv.whole hI (i := 3) rfl)) ?_
        refine OpsJ.op rfl ?_
        refine OpJ.buildSlice (xs := [.tmp 35]) elt_36 rfl rfl rfl rfl rfl rfl (by rfl) (by decide) fun k1 hk1 => ?_
        refine OpsJ.op rfl ?_
        refine OpJ.buildSlice (xs := [.tmp 36]) elt_93 rfl rfl rfl rfl rfl rfl (by rfl) (by decide) fun lists hlists => ?_
        refine OpsJ.op rfl ?_
        refine OpJ.call (steps_spec true [] [[y.own]] (.slice none 0 0) _ [.slice (some ⟨k1, 0, none⟩) 1 1] rfl (by simp [stepsL, secSteps])) has_20 rfl rfl rfl rfl rfl [] [0, 1, 2, 3, 4, 5, 6] (by decide) rfl rfl (fun w hI => ⟨.inl ⟨none, 0, rfl, rfl, rfl⟩, Own.row (hI.hs _ (List.mem_of_getElem? (i := 0) rfl)).1, fun i v rs h1 h2 => by
        have q1 : Recs w (.slice (some ⟨k1, 0, none⟩) 1 1) [y.own] := recs_one (hI.hs _ (List.mem_of_getElem? (i := 1) rfl)).1 (hrx.keep0 hI.keep)
        match i with
        | 0 => simp at h1 h2; subst h1 h2; exact q1
        | i + 1 => simp at h1⟩) ?_
        rintro _ _ ⟨p38, c38, rfl, rfl⟩
        refine OpsJ.yld rfl rfl rfl (Yld.assign rfl rfl) ?_
        refine OpsJ.nil ?_
        refine ExJ.thenN ?_
        refine CodeJ.seq ?_
        refine CodeJ.region ?_
        refine OpsJ.yld rfl rfl rfl (Yld.loadN (vs := hdCs h) rfl Tryd.underlying24 rfl sz_24 rfl (fun w hI => Inv.whole hI (i := 7) rfl)) ?_
        refine OpsJ.yld rfl rfl rfl (Yld.move rfl rfl) ?_
        refine OpsJ.op rfl ?_
        refine OpJ.call (build_SOA G h hw [] (.slice none 0 0) _ (stepsL true [] [[y.own]]) (by simp [stepsL, secSteps]) (by simp) hrun) has_25 rfl rfl rfl rfl rfl [] [0, 1, 2, 3, 4, 5, 6, 7] (by decide) rfl rfl (fun w hI => ⟨hge.call hI (is := []) rfl, .inl ⟨none, 0, rfl, rfl⟩, Own.row (hI.hs _ (List.mem_of_getElem? (i := 0) rfl)).1, stepsL_rec (fun l hl r hr => by simp at hl; subst hl; simp at hr; subst hr; exact hrx.keep0 hI.keep)⟩) ?_
        rintro _ _ ⟨q1, d1', q2, d2', rfl, rfl⟩
        rw [hrf]
        simp only [hfin]
        refine OpsJ.op rfl ?_
        refine OpJ.alloc rfl rfl rfl zero_50 fun got hgot => ?_
        refine OpsJ.op rfl ?_
        refine OpJ.storeW (i := 0) rfl rfl rfl rfl sz_50 rfl rfl rfl ?_
        refine OpsJ.nil ?_
        refine ExJ.thenN ?_
        refine CodeJ.seq ?_
        refine CodeJ.region ?_
        refine OpsJ.yld rfl rfl rfl (Yld.fieldAddr fa_50_1 rfl rfl) ?_
        refine OpsJ.yld rfl rfl rfl (Yld.load1 rfl Tryd.underlying26 rfl rfl (fun w hI => Inv.cell1 hI (i := 0) rfl rfl)) ?_
        refine OpsJ.someOwn (i := 2) (m := (hdr ++ t).length) rfl (by omega) fun db hdb hcap3 => ?_
        subst hdb
        refine OpsJ.op rfl ?_
        refine OpJ.call (read_spec soaK 4 soaBA reads_SOA h hw hO.head [] (fun a ha => by cases ha) [y.own] [] [] (fun r hr => by simp at hr; subst hr; exact ⟨hxok, hxw.fit, hxw, by show 6 < 65536; decide, rfl⟩) ⟨by simp, by simp, by simp, by simp⟩ t 12 (12 + t.length) (12 + t.length) rfl hra rfl rfl db 0 d2' hdr hhdr hcap3 (by omega)) has_26 rfl rfl rfl rfl rfl [] [0, 1, 2, 3, 4, 5, 6, 7, 8, 9, 10] (by decide) rfl rfl (fun w hI => (Own.cells (hI.hs _ (List.mem_of_getElem? (i := 2) rfl)).1 _ _ _ _ rfl).2.2) ?_
        rintro _ _ ⟨mk, qk, bk, hk', rfl, rfl, hkok, hbm⟩
        refine OpsJ.yld rfl rfl rfl (Yld.move rfl rfl) ?_
        refine OpsJ.yld rfl rfl rfl (Yld.extract rfl rfl rfl) ?_
        refine OpsJ.yld rfl rfl rfl (Yld.extract rfl rfl rfl) ?_
        refine OpsJ.op rfl ?_
        refine OpJ.alloc rfl rfl rfl zero_43 fun kb hkb => ?_
        refine OpsJ.op rfl ?_
        refine OpJ.storeW (i := 0) rfl rfl rfl rfl sz_43 rfl hbm.ones rfl ?_
        refine OpsJ.yld rfl rfl rfl (Yld.assign rfl rfl) ?_
        refine OpsJ.nil ?_
        refine ExJ.thenN ?_
        refine CodeJ.seq ?_
        refine CodeJ.region ?_
        refine OpsJ.yld rfl rfl rfl (Yld.loadN (vs := m'.cells) rfl Tryd.underlying43 rfl sz_43 rfl (fun w hI => Inv.whole hI (i := 8) rfl)) ?_
        refine OpsJ.op rfl ?_
        refine OpJ.call (messageWire_spec soaK m' hwh hwm has2 hcm) has_23 rfl rfl rfl rfl rfl [] [0, 1, 2, 3, 4, 5, 6, 7, 8, 9, 10, 11, 12] (by decide) rfl rfl (fun w hI => hmok w hI.keep (hI.roGet (i := 9) rfl)) ?_
        rintro _ _ ⟨p58, c58, rfl, rfl⟩
        refine OpsJ.yld rfl rfl rfl (Yld.assign rfl rfl) ?_
        refine OpsJ.nil ?_
        refine ExJ.thenN ?_
        refine CodeJ.seq ?_
        refine CodeJ.region ?_
        refine OpsJ.yld rfl rfl rfl (Yld.loadN (vs := [.slice q1 _ d1', .slice (some ⟨db, 0, none⟩) _ d2', .int .i64 0]) rfl Tryd.underlying50 rfl sz_50 rfl (fun w hI => Inv.whole hI (i := 3) rfl)) ?_
        refine OpsJ.yld rfl rfl rfl (Yld.move rfl rfl) ?_
        refine OpsJ.op rfl ?_
        refine OpJ.call (fine_spec _ _ [0, 0, 0, 0] p38 4 c38 (by decide)) has_21 rfl rfl rfl rfl rfl [] [0, 1, 2, 3, 4, 5, 6, 7, 8, 9, 10, 11, 12, 13] (by decide) rfl rfl (fun w hI => Own.row (hI.hs _ (List.mem_of_getElem? (i := 4) rfl)).1) ?_
        rintro _ _ ⟨rfl, rfl⟩
        refine OpsJ.yld rfl rfl rfl (Yld.move rfl rfl) ?_
        refine OpsJ.splitB (s := 53) rfl (fun g53 => ?_) (fun g53 => ?_)
        · refine OpsJ.opT rfl rfl rfl ?_
          refine OpJ.yld rfl rfl (Yld.move rfl rfl) ?_
          refine OpsJ.yld rfl rfl rfl (Yld.pickT rfl rfl rfl) ?_
          refine OpsJ.yld rfl rfl rfl (Yld.move rfl rfl) ?_
          refine OpsJ.splitB (s := 56) rfl (fun g56 => ?_) (fun g56 => ?_)
          · refine OpsJ.opT rfl rfl rfl ?_
            refine OpJ.yld rfl rfl (Yld.loadN (vs := mk.cells) rfl Tryd.underlying43 rfl sz_43 rfl (fun w hI => Inv.whole hI (i := 1) rfl)) ?_
            refine OpsJ.opT rfl rfl rfl ?_
            refine OpJ.call (messageWire_spec soaK mk (by rw [hbm.head]; exact hw) (back_writes (by decide) (fun r hr hf => one_SOA r hr hf) hbm) (fun a ha => by rw [hbm.asks] at ha; cases ha) (by rw [hbm.asks, hbm.one.len, hbm.two.len, hbm.three.len]; exact ⟨by simp, by simp, by simp, by simp⟩)) has_23 rfl rfl rfl rfl rfl [] [0, 1, 2, 3, 4, 5, 6, 7, 8, 9, 10, 11, 12, 13] (by decide) rfl rfl (fun w hI => hkok w (hI.roGet (i := 2) rfl)) ?_
            rintro _ _ ⟨p67, c67, rfl, rfl⟩
            refine OpsJ.opT rfl rfl rfl ?_
            refine OpJ.yld rfl rfl (Yld.move rfl rfl) ?_
            refine OpsJ.opT rfl rfl rfl ?_
            refine OpJ.call (same_spec _ _ (soaK.wire mk) (soaK.wire m')) has_22 rfl rfl rfl rfl rfl [] [0, 1, 2, 3, 4, 5, 6, 7, 8, 9, 10, 11, 12, 13, 14] (by decide) rfl rfl (fun w hI => ⟨Inv.bytes (k := 0) rfl w hI, Inv.bytes (k := 1) rfl w hI⟩) ?_
            rintro _ _ ⟨rfl, rfl⟩
            refine OpsJ.yld rfl rfl rfl (Yld.pickT rfl rfl rfl) ?_
            refine OpsJ.yld rfl rfl rfl (Yld.move rfl rfl) ?_
            refine OpsJ.splitB (s := 62) rfl (fun g62 => ?_) (fun g62 => ?_)
            · refine OpsJ.opT rfl rfl rfl ?_
              refine OpJ.yld rfl rfl (Yld.fieldAddr fa_50_1 rfl rfl) ?_
              refine OpsJ.opT rfl rfl rfl ?_
              refine OpJ.yld rfl rfl (Yld.load1 rfl Tryd.underlying26 rfl rfl (fun w hI => Inv.cell1 hI (i := 4) rfl rfl)) ?_
              refine OpsJ.opT rfl rfl rfl ?_
              refine OpJ.yld rfl rfl (Yld.lenSlice rfl rfl rfl Tryd.underlying26 rfl) ?_
              refine OpsJ.opT rfl rfl rfl ?_
              refine OpJ.yld rfl rfl (Yld.move rfl rfl) ?_
              refine OpsJ.opT rfl rfl rfl ?_
              refine OpJ.yld rfl rfl (Yld.lenSlice rfl rfl rfl Tryd.underlying26 rfl) ?_
              refine OpsJ.opT rfl rfl rfl ?_
              refine OpJ.yld rfl rfl (Yld.intBin rfl rfl rfl rfl) ?_
              refine OpsJ.yld rfl rfl rfl (Yld.pickT rfl rfl rfl) ?_
              refine OpsJ.yld rfl rfl rfl (Yld.assign rfl rfl) ?_
              refine OpsJ.nil ?_
              refine ExJ.thenN ?_
              refine CodeJ.ret ?_
              refine ExJ.ret1 Tryd.results9 rfl ⟨?_, rfl⟩ fun w hI => hI.pick (is := []) (by decide) rfl
              have hwl : (soaK.wire m').length = 12 + (soaK.recWire y.own).length := by
                rw [wire_of stable_SOA hof]
                simp [headWire_len]
              exact congrArg Value.bool (decide_eq_true (show (((hdr ++ t).length : Nat) : Int) < (((soaK.wire m').length : Nat) : Int) by omega))
            · exact absurd g62 (by rw [wire_back hbm, wire_of stable_SOA hof]; simp)
          · exact absurd g56 (by decide)
        · exact absurd g53 (by decide)
end Go.Proofs.YtjafnfeamlabbaaDoor
