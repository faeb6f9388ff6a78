/-
  The law FnLongText: its walk.
-/
import Derived.Test.YtbfopgnhdelioaaDoorHLTXT
import Derived.Test.YtbfopgnhdelioaaDoorBh
namespace Go.Proofs.YtbfopgnhdelioaaDoor
open Go
set_option maxRecDepth 100000

/-- a record with one text more -/
def RecD.texted (r : RecD) (v : Value) (s : ByteArray) : RecD := { r with textsV := v, texts := r.texts ++ [s] }
theorem texted_wf {r : RecD} (h : r.wf) (hu : r.upto 1048576) (v : Value) (s : ByteArray) (hs : s.size ≤ 2000) : (r.texted v s).wf :=
  ⟨h.typ, h.cls, h.ttl, h.len, h.n1, h.n2, h.n3, h.n4, h.n5, h.name, h.host, h.box, h.data, by show (r.texts ++ [s]).length * 16 ≤ _; rw [List.length_append]; have := hu.texts; simp only [List.length_cons, List.length_nil]; omega, fun t ht => by
    rcases List.mem_append.1 ht with ht | ht
    · exact h.text t ht
    · obtain rfl := List.mem_singleton.1 ht; omega, h.pairs, h.pair⟩
theorem texted_ok {w : World} {r : RecD} (h : RecOk w r) (p : Option Addr) (c : Nat) (s : ByteArray) (hr : Row w 1 (.slice p (r.texts.length + 1) c) (r.texts.length + 1) (r.texts.map Value.string ++ [.string s])) : RecOk w (r.texted (.slice p (r.texts.length + 1) c) s) :=
  ⟨h.data, by
    show Row w 1 (.slice p (r.texts.length + 1) c) (r.texts ++ [s]).length ((r.texts ++ [s]).map Value.string)
    rw [List.length_append, List.map_append]
    exact hr, h.pairs, h.pdata⟩
theorem texted_bad {r : RecD} (h : r.wf) (hu : r.upto 1048576) (hn : nameOk r.name.data.toList = true) (v : Value) (s : ByteArray) (hs : s.size ≤ 2000) (h2 : 255 < s.size) : BadFor (txtAdderQ fun _ => True) (r.texted v s) :=
  bad_body (texted_wf h hu v s hs) hn ⟨trivial, by
    show (textsW (r.texts ++ [s])).length ≤ _
    have h1 := sized_le textW 1048577 r.texts fun t ht => by rw [textW_len]; have := hu.text t ht; omega
    have h3 : r.texts.length * 1048577 ≤ 1048576 * 1048577 := Nat.mul_le_mul_right _ hu.texts
    have h4 : (textsW r.texts).length ≤ 1048576 * 1048577 := Nat.le_trans h1 h3
    rw [textsW_snoc, List.length_append, textW_len]
    omega⟩ fun base m => by
    show txtP base false (r.texts ++ [s]) m = _
    have : ¬ shortT (r.texts ++ [s]) = true := fun h => by
      have := List.all_eq_true.1 h s (by simp)
      simp at this
      omega
    rw [txtP, if_neg this]
theorem texted_good {x : RecD} (hwf : x.wf) (hok : txtK.recOk x = true) : GoodFor txtK (txtAdderQ fun _ => True) x :=
  good_for hwf (okn_TXT hok).1 rfl (okn_TXT hok).2.2.2 ⟨trivial, by have := (okn_TXT hok).2.2.2; have e : txtK.body x = textsW x.texts := rfl; omega⟩ fun base m => by
    show txtP base false x.texts m = _
    rw [txtP, if_pos (okn_TXT hok).2.1]
    rfl

theorem fnLongText_spec (G : GEnv) (hmore : G.more = [11]) (h : Hd) (hw : h.wf) (bad good : RecD) (more : Nat) (hnum : more < 65536) (hbw : bad.wf) (hgw : good.wf) (hbu : bad.upto 1048576) (hgu : good.upto 1048576) :
    Spec Tryd.prog 3 [.agg (hdCs h).toArray, .agg bad.cells.toArray, .agg good.cells.toArray, .int .u16 (more : Nat)] [] (fun w => GE G w [] ∧ RecOk w bad ∧ RecOk w good) (fun r H' => r = .bool true ∧ H' = []) := by
  refine Spec.of Tryd.func3 rfl Tryd.ntmps3 rfl fun w0 hR => ?_
  obtain ⟨hge, hrb, hrg⟩ := hR
  have htl := hbu.texts
  have hmod : more % 1000 < 1000 := Nat.mod_lt _ (by decide)
  have hbq : ∀ x : RecD, (fun _ : RecD => True) x → shortT x.texts = true ∨ G.more.contains 11 = true := fun _ _ => .inr (by rw [hmore]; decide)
  have hbm : BuildMeetsG G (txtAdderQ fun _ => True) 7 := fun h hw pre bufV stepsV ss hn hpre hok => buildTXT_specG _ G hbq h hw pre bufV stepsV ss hn hpre hok
  refine CodeJ.seq ?_
  refine CodeJ.region ?_
  refine OpsJ.op rfl ?_
  refine OpJ.box rfl rfl rfl rfl fun hd hhd => ?_
  refine OpsJ.op rfl ?_
  refine OpJ.box rfl rfl rfl rfl fun bd hbd => ?_
  refine OpsJ.op rfl ?_
  refine OpJ.box rfl rfl rfl rfl fun gd hgd => ?_
  refine OpsJ.yld rfl rfl rfl (Yld.assign rfl rfl) ?_
  refine OpsJ.nil ?_
  refine ExJ.thenN ?_
  refine CodeJ.seq ?_
  refine CodeJ.seq ?_
  refine CodeJ.region ?_
  refine OpsJ.yld rfl rfl rfl (Yld.fieldAddr fa_30_0 rfl rfl) ?_
  refine OpsJ.yld rfl rfl rfl (Yld.load1 rfl Tryd.underlying9 rfl rfl (fun w hI => Inv.cell1 hI (i := 1) rfl rfl)) ?_
  refine OpsJ.op rfl ?_
  refine OpJ.call (nameOk_spec bad.name (Nat.le_trans hbw.name (Nat.le_of_ble_eq_true rfl))) has_5 rfl rfl rfl rfl rfl [] [0, 1, 2] (by decide) rfl rfl (fun _ _ => trivial) ?_
  rintro _ _ ⟨rfl, rfl⟩
  refine OpsJ.yld rfl rfl rfl (Yld.not rfl rfl) ?_
  refine OpsJ.nil ?_
  refine ExJ.thenN ?_
  refine CodeJ.cond rfl (fun c13 => ?_) (fun c13 => ?_)
  · refine CodeJ.seq ?_
    refine CodeJ.region ?_
    refine OpsJ.yld rfl rfl rfl (Yld.assign rfl rfl) ?_
    refine OpsJ.nil ?_
    refine ExJ.thenN ?_
    refine CodeJ.ret ?_
    refine ExJ.thenR ?_
    exact ExJ.ret1 Tryd.results3 rfl ⟨rfl, rfl⟩ fun w hI => hI.pick (is := []) (by decide) rfl
  · have hnn : nameOk bad.name.data.toList = true := by simpa using c13
    refine CodeJ.skip ?_
    refine ExJ.thenN ?_
    refine CodeJ.seq ?_
    refine CodeJ.region ?_
    refine OpsJ.yld rfl rfl rfl (Yld.move rfl rfl) ?_
    refine OpsJ.yld rfl rfl rfl (Yld.convInt rfl Tryd.underlying22 Tryd.underlying3 rfl) ?_
    rw [i64_wrap more (by omega)]
    refine OpsJ.yld rfl rfl rfl (Yld.remN (p := more) (q := 1000) rfl rfl rfl (by decide)) ?_
    refine OpsJ.yld rfl rfl rfl (Yld.intBin rfl rfl rfl rfl) ?_
    rw [show (256 : Int) + ((more % 1000 : Nat) : Int) = ((256 + more % 1000 : Nat) : Int) by omega, i64_wrap _ (by omega)]
    refine OpsJ.op rfl ?_
    refine OpJ.makeZ (c := 256 + more % 1000) elt_26 rfl rfl rfl rfl rfl (by omega) fun long hlong => ?_
    refine OpsJ.yld rfl rfl rfl (Yld.assign rfl rfl) ?_
    refine OpsJ.nil ?_
    refine ExJ.thenN ?_
    refine CodeJ.seq ?_
    refine CodeJ.any (fuel := 10) (listed := #[false, false, false, false, false, false, false, false, false, false]) [0, 1, 3] rfl follows_mixed rfl rfl ?_
    refine AnyJ.take (fuel := 9) (listed' := #[false, true, false, false, false, false, false, false, false, false]) 1 rfl (by kernel_rfl) (by kernel_rfl) (by kernel_rfl) rfl rfl rfl rfl (Yld.fieldAddr fa_30_14 rfl rfl) (fun w hI => hI.pick (is := [0, 1, 3]) (by decide) rfl) ?_
    refine AnyJ.take (fuel := 8) (listed' := #[false, true, false, false, true, false, false, false, false, false]) 4 rfl (by kernel_rfl) (by kernel_rfl) (by kernel_rfl) rfl rfl rfl rfl (Yld.move rfl rfl) (fun w hI => hI.pick (is := [0, 1, 3]) (by decide) rfl) ?_
    refine AnyJ.take (fuel := 7) (listed' := #[false, true, false, false, true, true, false, false, false, false]) 5 rfl (by kernel_rfl) (by kernel_rfl) (by kernel_rfl) rfl rfl rfl rfl (Yld.bytesStrV (bs := List.replicate (256 + more % 1000) 0) rfl Tryd.underlying26 Tryd.underlying5 Tryd.underlying9 rfl (fun w hI => .inr ⟨long, 0, 256 + more % 1000, by rw [List.length_replicate], Inv.whole hI (i := 0) rfl⟩)) (fun w hI => hI.pick (is := [0, 1, 3]) (by decide) rfl) ?_
    refine AnyJ.three (fuel := 6) 0 2 6 (by kernel_rfl) ?_ ?_ ?_
    · refine StepJ.op (listed' := #[true, true, false, false, true, true, false, false, false, false]) rfl rfl rfl ?_
      refine OpJ.buildSlice (xs := []) elt_27 rfl rfl rfl rfl rfl rfl (by rfl) (by decide) fun ts hts => ?_
      refine ⟨fun w hI => hI.pick (is := [1, 2, 4]) (by decide) rfl, ?_⟩
      refine AnyJ.two (fuel := 5) 2 6 (by kernel_rfl) ?_ ?_
      · refine StepJ.op (listed' := #[true, true, true, false, true, true, false, false, false, false]) rfl rfl rfl ?_
        refine OpJ.yld rfl rfl (Yld.load1 rfl Tryd.underlying27 rfl rfl (fun w hI => Inv.cell1 hI (i := 3) rfl rfl)) ?_
        refine ⟨fun w hI => hI.pick (is := [1, 2, 4]) (by decide) rfl, ?_⟩
        refine AnyJ.two (fuel := 4) 3 6 (by kernel_rfl) ?_ ?_
        · refine StepJ.op (listed' := #[true, true, true, true, true, true, false, false, false, false]) rfl rfl rfl ?_
          refine OpJ.appendOwn (xs := []) (k := 0) (m := bad.texts.length) (i := 0) (news := bad.texts.map Value.string) elt_27 rfl rfl rfl rfl rfl rfl (fun w hI => Row.src (Row.keep0 hrb.texts hI.keep) Tryd.underlying27 (fun u hu => by obtain ⟨y, _, rfl⟩ := List.mem_map.1 hu; rfl)) (by omega) (by omega) fun p22 c22 => ?_
          refine ⟨fun w hI => hI.pick (is := [1, 2, 4]) (by decide) rfl, ?_⟩
          simp only [Nat.zero_add, List.nil_append]
          refine AnyJ.one (fuel := 3) 6 (by kernel_rfl) ?_
          refine StepJ.op (listed' := #[true, true, true, true, true, true, true, false, false, false]) rfl rfl rfl ?_
          refine OpJ.buildSlice (xs := [.tmp 24]) elt_27 rfl rfl rfl rfl rfl rfl (by rfl) (by decide) fun one hone => ?_
          refine ⟨fun w hI => hI.pick (is := [2, 3, 5]) (by decide) rfl, ?_⟩
          refine AnyJ.one (fuel := 2) 7 (by kernel_rfl) ?_
          refine StepJ.op (listed' := #[true, true, true, true, true, true, true, true, false, false]) rfl rfl rfl ?_
          refine OpJ.appendOwn (xs := bad.texts.map Value.string) (k := bad.texts.length) (m := 1) (i := 1) (news := [strV (List.replicate (256 + more % 1000) 0)]) elt_27 rfl rfl rfl rfl rfl rfl (fun w hI => Own.src (hI.hs _ (List.mem_of_getElem? (i := 0) rfl)).1 Tryd.underlying27 (fun u hu => by simp at hu; subst hu; rfl)) (by omega) (by omega) fun p26 c26 => ?_
          refine ⟨fun w hI => hI.pick (is := [2, 3, 5]) (by decide) rfl, ?_⟩
          refine AnyJ.take (fuel := 1) (listed' := #[true, true, true, true, true, true, true, true, true, false]) 8 rfl (by kernel_rfl) (by kernel_rfl) (by kernel_rfl) rfl rfl rfl rfl (Yld.fieldAddr fa_30_14 rfl rfl) (fun w hI => hI.pick (is := [2, 3, 5]) (by decide) rfl) ?_
          refine AnyJ.one (fuel := 0) 9 (by kernel_rfl) ?_
          refine StepJ.op (listed' := #[true, true, true, true, true, true, true, true, true, true]) rfl rfl rfl ?_
          refine OpJ.store1 (i := 4) rfl rfl rfl rfl rfl sz_27 rfl rfl ?_
          refine ⟨fun w hI => hI.pick (is := [2, 3, 5]) (by decide) rfl, ?_⟩
          refine AnyJ.done (by kernel_rfl) ?_
          refine ExJ.thenN ?_
          refine CodeJ.seq ?_
          refine CodeJ.region ?_
          refine OpsJ.yld rfl rfl rfl (Yld.loadN (vs := hdCs h) rfl Tryd.underlying24 rfl sz_24 rfl (fun w hI => Inv.whole hI (i := 5) rfl)) ?_
          refine OpsJ.yld rfl rfl rfl (Yld.loadN (vs := (bad.texted (.slice p26 (bad.texts.length + 1) c26) ⟨(List.replicate (256 + more % 1000) (0 : UInt8)).toArray⟩).cells) rfl Tryd.underlying30 rfl sz_30 rfl (fun w hI => Inv.whole hI (i := 4) rfl)) ?_
          refine OpsJ.yld rfl rfl rfl (Yld.loadN (vs := good.cells) rfl Tryd.underlying30 rfl sz_30 rfl (fun w hI => Inv.whole hI (i := 3) rfl)) ?_
          refine OpsJ.op rfl ?_
          refine OpJ.call (refused_specG txtK 7 (by decide) stable_TXT (txtAdderQ fun _ => True) 7 has_7 G hbm h hw (bad.texted (.slice p26 (bad.texts.length + 1) c26) ⟨(List.replicate (256 + more % 1000) (0 : UInt8)).toArray⟩) good hgw (texted_bad hbw hbu hnn _ _ (by show (List.replicate _ _).toArray.size ≤ _; simp; omega) (by show _ < (List.replicate _ _).toArray.size; simp; omega)) (texted_good hgw) (fun pv => one_TXT _ rfl (specRec_fit hgw.fit _ _) (texts_fit ⟨hgu.1, hgu.2, hgu.3, hgu.4⟩))) has_6 rfl rfl rfl rfl rfl [] [0, 1, 2, 3, 4, 5] (by decide) rfl rfl (fun w hI => ⟨hge.call hI (is := []) rfl, texted_ok (hrb.keep0 hI.keep) _ _ _ (Own.row (hI.hs _ (List.mem_of_getElem? (i := 1) rfl)).1), hrg.keep0 hI.keep⟩) ?_
          rintro _ _ ⟨rfl, rfl⟩
          refine OpsJ.yld rfl rfl rfl (Yld.assign rfl rfl) ?_
          refine OpsJ.nil ?_
          refine ExJ.thenN ?_
          refine CodeJ.ret ?_
          exact ExJ.ret1 Tryd.results3 rfl ⟨rfl, rfl⟩ fun w hI => hI.pick (is := []) (by decide) rfl
        · refine StepJ.op (listed' := #[true, true, true, false, true, true, true, false, false, false]) rfl rfl rfl ?_
          refine OpJ.buildSlice (xs := [.tmp 24]) elt_27 rfl rfl rfl rfl rfl rfl (by rfl) (by decide) fun one hone => ?_
          refine ⟨fun w hI => hI.pick (is := [2, 3, 5]) (by decide) rfl, ?_⟩
          refine AnyJ.one (fuel := 3) 3 (by kernel_rfl) ?_
          refine StepJ.op (listed' := #[true, true, true, true, true, true, true, false, false, false]) rfl rfl rfl ?_
          refine OpJ.appendOwn (xs := []) (k := 0) (m := bad.texts.length) (i := 1) (news := bad.texts.map Value.string) elt_27 rfl rfl rfl rfl rfl rfl (fun w hI => Row.src (Row.keep0 hrb.texts hI.keep) Tryd.underlying27 (fun u hu => by obtain ⟨y, _, rfl⟩ := List.mem_map.1 hu; rfl)) (by omega) (by omega) fun p22 c22 => ?_
          refine ⟨fun w hI => hI.pick (is := [2, 3, 5]) (by decide) rfl, ?_⟩
          simp only [Nat.zero_add, List.nil_append]
          refine AnyJ.one (fuel := 2) 7 (by kernel_rfl) ?_
          refine StepJ.op (listed' := #[true, true, true, true, true, true, true, true, false, false]) rfl rfl rfl ?_
          refine OpJ.appendOwn (xs := bad.texts.map Value.string) (k := bad.texts.length) (m := 1) (i := 1) (news := [strV (List.replicate (256 + more % 1000) 0)]) elt_27 rfl rfl rfl rfl rfl rfl (fun w hI => Own.src (hI.hs _ (List.mem_of_getElem? (i := 0) rfl)).1 Tryd.underlying27 (fun u hu => by simp at hu; subst hu; rfl)) (by omega) (by omega) fun p26 c26 => ?_
          refine ⟨fun w hI => hI.pick (is := [2, 3, 5]) (by decide) rfl, ?_⟩
          refine AnyJ.take (fuel := 1) (listed' := #[true, true, true, true, true, true, true, true, true, false]) 8 rfl (by kernel_rfl) (by kernel_rfl) (by kernel_rfl) rfl rfl rfl rfl (Yld.fieldAddr fa_30_14 rfl rfl) (fun w hI => hI.pick (is := [2, 3, 5]) (by decide) rfl) ?_
          refine AnyJ.one (fuel := 0) 9 (by kernel_rfl) ?_
          refine StepJ.op (listed' := #[true, true, true, true, true, true, true, true, true, true]) rfl rfl rfl ?_
          refine OpJ.store1 (i := 4) rfl rfl rfl rfl rfl sz_27 rfl rfl ?_
          refine ⟨fun w hI => hI.pick (is := [2, 3, 5]) (by decide) rfl, ?_⟩
          refine AnyJ.done (by kernel_rfl) ?_
          refine ExJ.thenN ?_
          refine CodeJ.seq ?_
          refine CodeJ.region ?_
          refine OpsJ.yld rfl rfl rfl (Yld.loadN (vs := hdCs h) rfl Tryd.underlying24 rfl sz_24 rfl (fun w hI => Inv.whole hI (i := 5) rfl)) ?_
          refine OpsJ.yld rfl rfl rfl (Yld.loadN (vs := (bad.texted (.slice p26 (bad.texts.length + 1) c26) ⟨(List.replicate (256 + more % 1000) (0 : UInt8)).toArray⟩).cells) rfl Tryd.underlying30 rfl sz_30 rfl (fun w hI => Inv.whole hI (i := 4) rfl)) ?_
          refine OpsJ.yld rfl rfl rfl (Yld.loadN (vs := good.cells) rfl Tryd.underlying30 rfl sz_30 rfl (fun w hI => Inv.whole hI (i := 3) rfl)) ?_
          refine OpsJ.op rfl ?_
          refine OpJ.call (refused_specG txtK 7 (by decide) stable_TXT (txtAdderQ fun _ => True) 7 has_7 G hbm h hw (bad.texted (.slice p26 (bad.texts.length + 1) c26) ⟨(List.replicate (256 + more % 1000) (0 : UInt8)).toArray⟩) good hgw (texted_bad hbw hbu hnn _ _ (by show (List.replicate _ _).toArray.size ≤ _; simp; omega) (by show _ < (List.replicate _ _).toArray.size; simp; omega)) (texted_good hgw) (fun pv => one_TXT _ rfl (specRec_fit hgw.fit _ _) (texts_fit ⟨hgu.1, hgu.2, hgu.3, hgu.4⟩))) has_6 rfl rfl rfl rfl rfl [] [0, 1, 2, 3, 4, 5] (by decide) rfl rfl (fun w hI => ⟨hge.call hI (is := []) rfl, texted_ok (hrb.keep0 hI.keep) _ _ _ (Own.row (hI.hs _ (List.mem_of_getElem? (i := 1) rfl)).1), hrg.keep0 hI.keep⟩) ?_
          rintro _ _ ⟨rfl, rfl⟩
          refine OpsJ.yld rfl rfl rfl (Yld.assign rfl rfl) ?_
          refine OpsJ.nil ?_
          refine ExJ.thenN ?_
          refine CodeJ.ret ?_
          exact ExJ.ret1 Tryd.results3 rfl ⟨rfl, rfl⟩ fun w hI => hI.pick (is := []) (by decide) rfl
      · refine StepJ.op (listed' := #[true, true, false, false, true, true, true, false, false, false]) rfl rfl rfl ?_
        refine OpJ.buildSlice (xs := [.tmp 24]) elt_27 rfl rfl rfl rfl rfl rfl (by rfl) (by decide) fun one hone => ?_
        refine ⟨fun w hI => hI.pick (is := [2, 3, 5]) (by decide) rfl, ?_⟩
        refine AnyJ.one (fuel := 4) 2 (by kernel_rfl) ?_
        refine StepJ.op (listed' := #[true, true, true, false, true, true, true, false, false, false]) rfl rfl rfl ?_
        refine OpJ.yld rfl rfl (Yld.load1 rfl Tryd.underlying27 rfl rfl (fun w hI => Inv.cell1 hI (i := 4) rfl rfl)) ?_
        refine ⟨fun w hI => hI.pick (is := [2, 3, 5]) (by decide) rfl, ?_⟩
        refine AnyJ.one (fuel := 3) 3 (by kernel_rfl) ?_
        refine StepJ.op (listed' := #[true, true, true, true, true, true, true, false, false, false]) rfl rfl rfl ?_
        refine OpJ.appendOwn (xs := []) (k := 0) (m := bad.texts.length) (i := 1) (news := bad.texts.map Value.string) elt_27 rfl rfl rfl rfl rfl rfl (fun w hI => Row.src (Row.keep0 hrb.texts hI.keep) Tryd.underlying27 (fun u hu => by obtain ⟨y, _, rfl⟩ := List.mem_map.1 hu; rfl)) (by omega) (by omega) fun p22 c22 => ?_
        refine ⟨fun w hI => hI.pick (is := [2, 3, 5]) (by decide) rfl, ?_⟩
        simp only [Nat.zero_add, List.nil_append]
        refine AnyJ.one (fuel := 2) 7 (by kernel_rfl) ?_
        refine StepJ.op (listed' := #[true, true, true, true, true, true, true, true, false, false]) rfl rfl rfl ?_
        refine OpJ.appendOwn (xs := bad.texts.map Value.string) (k := bad.texts.length) (m := 1) (i := 1) (news := [strV (List.replicate (256 + more % 1000) 0)]) elt_27 rfl rfl rfl rfl rfl rfl (fun w hI => Own.src (hI.hs _ (List.mem_of_getElem? (i := 0) rfl)).1 Tryd.underlying27 (fun u hu => by simp at hu; subst hu; rfl)) (by omega) (by omega) fun p26 c26 => ?_
        refine ⟨fun w hI => hI.pick (is := [2, 3, 5]) (by decide) rfl, ?_⟩
        refine AnyJ.take (fuel := 1) (listed' := #[true, true, true, true, true, true, true, true, true, false]) 8 rfl (by kernel_rfl) (by kernel_rfl) (by kernel_rfl) rfl rfl rfl rfl (Yld.fieldAddr fa_30_14 rfl rfl) (fun w hI => hI.pick (is := [2, 3, 5]) (by decide) rfl) ?_
        refine AnyJ.one (fuel := 0) 9 (by kernel_rfl) ?_
        refine StepJ.op (listed' := #[true, true, true, true, true, true, true, true, true, true]) rfl rfl rfl ?_
        refine OpJ.store1 (i := 4) rfl rfl rfl rfl rfl sz_27 rfl rfl ?_
        refine ⟨fun w hI => hI.pick (is := [2, 3, 5]) (by decide) rfl, ?_⟩
        refine AnyJ.done (by kernel_rfl) ?_
        refine ExJ.thenN ?_
        refine CodeJ.seq ?_
        refine CodeJ.region ?_
        refine OpsJ.yld rfl rfl rfl (Yld.loadN (vs := hdCs h) rfl Tryd.underlying24 rfl sz_24 rfl (fun w hI => Inv.whole hI (i := 5) rfl)) ?_
        refine OpsJ.yld rfl rfl rfl (Yld.loadN (vs := (bad.texted (.slice p26 (bad.texts.length + 1) c26) ⟨(List.replicate (256 + more % 1000) (0 : UInt8)).toArray⟩).cells) rfl Tryd.underlying30 rfl sz_30 rfl (fun w hI => Inv.whole hI (i := 4) rfl)) ?_
        refine OpsJ.yld rfl rfl rfl (Yld.loadN (vs := good.cells) rfl Tryd.underlying30 rfl sz_30 rfl (fun w hI => Inv.whole hI (i := 3) rfl)) ?_
        refine OpsJ.op rfl ?_
        refine OpJ.call (refused_specG txtK 7 (by decide) stable_TXT (txtAdderQ fun _ => True) 7 has_7 G hbm h hw (bad.texted (.slice p26 (bad.texts.length + 1) c26) ⟨(List.replicate (256 + more % 1000) (0 : UInt8)).toArray⟩) good hgw (texted_bad hbw hbu hnn _ _ (by show (List.replicate _ _).toArray.size ≤ _; simp; omega) (by show _ < (List.replicate _ _).toArray.size; simp; omega)) (texted_good hgw) (fun pv => one_TXT _ rfl (specRec_fit hgw.fit _ _) (texts_fit ⟨hgu.1, hgu.2, hgu.3, hgu.4⟩))) has_6 rfl rfl rfl rfl rfl [] [0, 1, 2, 3, 4, 5] (by decide) rfl rfl (fun w hI => ⟨hge.call hI (is := []) rfl, texted_ok (hrb.keep0 hI.keep) _ _ _ (Own.row (hI.hs _ (List.mem_of_getElem? (i := 1) rfl)).1), hrg.keep0 hI.keep⟩) ?_
        rintro _ _ ⟨rfl, rfl⟩
        refine OpsJ.yld rfl rfl rfl (Yld.assign rfl rfl) ?_
        refine OpsJ.nil ?_
        refine ExJ.thenN ?_
        refine CodeJ.ret ?_
        exact ExJ.ret1 Tryd.results3 rfl ⟨rfl, rfl⟩ fun w hI => hI.pick (is := []) (by decide) rfl
    · refine StepJ.op (listed' := #[false, true, true, false, true, true, false, false, false, false]) rfl rfl rfl ?_
      refine OpJ.yld rfl rfl (Yld.load1 rfl Tryd.underlying27 rfl rfl (fun w hI => Inv.cell1 hI (i := 2) rfl rfl)) ?_
      refine ⟨fun w hI => hI.pick (is := [0, 1, 3]) (by decide) rfl, ?_⟩
      refine AnyJ.two (fuel := 5) 0 6 (by kernel_rfl) ?_ ?_
      · refine StepJ.op (listed' := #[true, true, true, false, true, true, false, false, false, false]) rfl rfl rfl ?_
        refine OpJ.buildSlice (xs := []) elt_27 rfl rfl rfl rfl rfl rfl (by rfl) (by decide) fun ts hts => ?_
        refine ⟨fun w hI => hI.pick (is := [1, 2, 4]) (by decide) rfl, ?_⟩
        refine AnyJ.two (fuel := 4) 3 6 (by kernel_rfl) ?_ ?_
        · refine StepJ.op (listed' := #[true, true, true, true, true, true, false, false, false, false]) rfl rfl rfl ?_
          refine OpJ.appendOwn (xs := []) (k := 0) (m := bad.texts.length) (i := 0) (news := bad.texts.map Value.string) elt_27 rfl rfl rfl rfl rfl rfl (fun w hI => Row.src (Row.keep0 hrb.texts hI.keep) Tryd.underlying27 (fun u hu => by obtain ⟨y, _, rfl⟩ := List.mem_map.1 hu; rfl)) (by omega) (by omega) fun p22 c22 => ?_
          refine ⟨fun w hI => hI.pick (is := [1, 2, 4]) (by decide) rfl, ?_⟩
          simp only [Nat.zero_add, List.nil_append]
          refine AnyJ.one (fuel := 3) 6 (by kernel_rfl) ?_
          refine StepJ.op (listed' := #[true, true, true, true, true, true, true, false, false, false]) rfl rfl rfl ?_
          refine OpJ.buildSlice (xs := [.tmp 24]) elt_27 rfl rfl rfl rfl rfl rfl (by rfl) (by decide) fun one hone => ?_
          refine ⟨fun w hI => hI.pick (is := [2, 3, 5]) (by decide) rfl, ?_⟩
          refine AnyJ.one (fuel := 2) 7 (by kernel_rfl) ?_
          refine StepJ.op (listed' := #[true, true, true, true, true, true, true, true, false, false]) rfl rfl rfl ?_
          refine OpJ.appendOwn (xs := bad.texts.map Value.string) (k := bad.texts.length) (m := 1) (i := 1) (news := [strV (List.replicate (256 + more % 1000) 0)]) elt_27 rfl rfl rfl rfl rfl rfl (fun w hI => Own.src (hI.hs _ (List.mem_of_getElem? (i := 0) rfl)).1 Tryd.underlying27 (fun u hu => by simp at hu; subst hu; rfl)) (by omega) (by omega) fun p26 c26 => ?_
          refine ⟨fun w hI => hI.pick (is := [2, 3, 5]) (by decide) rfl, ?_⟩
          refine AnyJ.take (fuel := 1) (listed' := #[true, true, true, true, true, true, true, true, true, false]) 8 rfl (by kernel_rfl) (by kernel_rfl) (by kernel_rfl) rfl rfl rfl rfl (Yld.fieldAddr fa_30_14 rfl rfl) (fun w hI => hI.pick (is := [2, 3, 5]) (by decide) rfl) ?_
          refine AnyJ.one (fuel := 0) 9 (by kernel_rfl) ?_
          refine StepJ.op (listed' := #[true, true, true, true, true, true, true, true, true, true]) rfl rfl rfl ?_
          refine OpJ.store1 (i := 4) rfl rfl rfl rfl rfl sz_27 rfl rfl ?_
          refine ⟨fun w hI => hI.pick (is := [2, 3, 5]) (by decide) rfl, ?_⟩
          refine AnyJ.done (by kernel_rfl) ?_
          refine ExJ.thenN ?_
          refine CodeJ.seq ?_
          refine CodeJ.region ?_
          refine OpsJ.yld rfl rfl rfl (Yld.loadN (vs := hdCs h) rfl Tryd.underlying24 rfl sz_24 rfl (fun w hI => Inv.whole hI (i := 5) rfl)) ?_
          refine OpsJ.yld rfl rfl rfl (Yld.loadN (vs := (bad.texted (.slice p26 (bad.texts.length + 1) c26) ⟨(List.replicate (256 + more % 1000) (0 : UInt8)).toArray⟩).cells) rfl Tryd.underlying30 rfl sz_30 rfl (fun w hI => Inv.whole hI (i := 4) rfl)) ?_
          refine OpsJ.yld rfl rfl rfl (Yld.loadN (vs := good.cells) rfl Tryd.underlying30 rfl sz_30 rfl (fun w hI => Inv.whole hI (i := 3) rfl)) ?_
          refine OpsJ.op rfl ?_
          refine OpJ.call (refused_specG txtK 7 (by decide) stable_TXT (txtAdderQ fun _ => True) 7 has_7 G hbm h hw (bad.texted (.slice p26 (bad.texts.length + 1) c26) ⟨(List.replicate (256 + more % 1000) (0 : UInt8)).toArray⟩) good hgw (texted_bad hbw hbu hnn _ _ (by show (List.replicate _ _).toArray.size ≤ _; simp; omega) (by show _ < (List.replicate _ _).toArray.size; simp; omega)) (texted_good hgw) (fun pv => one_TXT _ rfl (specRec_fit hgw.fit _ _) (texts_fit ⟨hgu.1, hgu.2, hgu.3, hgu.4⟩))) has_6 rfl rfl rfl rfl rfl [] [0, 1, 2, 3, 4, 5] (by decide) rfl rfl (fun w hI => ⟨hge.call hI (is := []) rfl, texted_ok (hrb.keep0 hI.keep) _ _ _ (Own.row (hI.hs _ (List.mem_of_getElem? (i := 1) rfl)).1), hrg.keep0 hI.keep⟩) ?_
          rintro _ _ ⟨rfl, rfl⟩
          refine OpsJ.yld rfl rfl rfl (Yld.assign rfl rfl) ?_
          refine OpsJ.nil ?_
          refine ExJ.thenN ?_
          refine CodeJ.ret ?_
          exact ExJ.ret1 Tryd.results3 rfl ⟨rfl, rfl⟩ fun w hI => hI.pick (is := []) (by decide) rfl
        · refine StepJ.op (listed' := #[true, true, true, false, true, true, true, false, false, false]) rfl rfl rfl ?_
          refine OpJ.buildSlice (xs := [.tmp 24]) elt_27 rfl rfl rfl rfl rfl rfl (by rfl) (by decide) fun one hone => ?_
          refine ⟨fun w hI => hI.pick (is := [2, 3, 5]) (by decide) rfl, ?_⟩
          refine AnyJ.one (fuel := 3) 3 (by kernel_rfl) ?_
          refine StepJ.op (listed' := #[true, true, true, true, true, true, true, false, false, false]) rfl rfl rfl ?_
          refine OpJ.appendOwn (xs := []) (k := 0) (m := bad.texts.length) (i := 1) (news := bad.texts.map Value.string) elt_27 rfl rfl rfl rfl rfl rfl (fun w hI => Row.src (Row.keep0 hrb.texts hI.keep) Tryd.underlying27 (fun u hu => by obtain ⟨y, _, rfl⟩ := List.mem_map.1 hu; rfl)) (by omega) (by omega) fun p22 c22 => ?_
          refine ⟨fun w hI => hI.pick (is := [2, 3, 5]) (by decide) rfl, ?_⟩
          simp only [Nat.zero_add, List.nil_append]
          refine AnyJ.one (fuel := 2) 7 (by kernel_rfl) ?_
          refine StepJ.op (listed' := #[true, true, true, true, true, true, true, true, false, false]) rfl rfl rfl ?_
          refine OpJ.appendOwn (xs := bad.texts.map Value.string) (k := bad.texts.length) (m := 1) (i := 1) (news := [strV (List.replicate (256 + more % 1000) 0)]) elt_27 rfl rfl rfl rfl rfl rfl (fun w hI => Own.src (hI.hs _ (List.mem_of_getElem? (i := 0) rfl)).1 Tryd.underlying27 (fun u hu => by simp at hu; subst hu; rfl)) (by omega) (by omega) fun p26 c26 => ?_
          refine ⟨fun w hI => hI.pick (is := [2, 3, 5]) (by decide) rfl, ?_⟩
          refine AnyJ.take (fuel := 1) (listed' := #[true, true, true, true, true, true, true, true, true, false]) 8 rfl (by kernel_rfl) (by kernel_rfl) (by kernel_rfl) rfl rfl rfl rfl (Yld.fieldAddr fa_30_14 rfl rfl) (fun w hI => hI.pick (is := [2, 3, 5]) (by decide) rfl) ?_
          refine AnyJ.one (fuel := 0) 9 (by kernel_rfl) ?_
          refine StepJ.op (listed' := #[true, true, true, true, true, true, true, true, true, true]) rfl rfl rfl ?_
          refine OpJ.store1 (i := 4) rfl rfl rfl rfl rfl sz_27 rfl rfl ?_
          refine ⟨fun w hI => hI.pick (is := [2, 3, 5]) (by decide) rfl, ?_⟩
          refine AnyJ.done (by kernel_rfl) ?_
          refine ExJ.thenN ?_
          refine CodeJ.seq ?_
          refine CodeJ.region ?_
          refine OpsJ.yld rfl rfl rfl (Yld.loadN (vs := hdCs h) rfl Tryd.underlying24 rfl sz_24 rfl (fun w hI => Inv.whole hI (i := 5) rfl)) ?_
          refine OpsJ.yld rfl rfl rfl (Yld.loadN (vs := (bad.texted (.slice p26 (bad.texts.length + 1) c26) ⟨(List.replicate (256 + more % 1000) (0 : UInt8)).toArray⟩).cells) rfl Tryd.underlying30 rfl sz_30 rfl (fun w hI => Inv.whole hI (i := 4) rfl)) ?_
          refine OpsJ.yld rfl rfl rfl (Yld.loadN (vs := good.cells) rfl Tryd.underlying30 rfl sz_30 rfl (fun w hI => Inv.whole hI (i := 3) rfl)) ?_
          refine OpsJ.op rfl ?_
          refine OpJ.call (refused_specG txtK 7 (by decide) stable_TXT (txtAdderQ fun _ => True) 7 has_7 G hbm h hw (bad.texted (.slice p26 (bad.texts.length + 1) c26) ⟨(List.replicate (256 + more % 1000) (0 : UInt8)).toArray⟩) good hgw (texted_bad hbw hbu hnn _ _ (by show (List.replicate _ _).toArray.size ≤ _; simp; omega) (by show _ < (List.replicate _ _).toArray.size; simp; omega)) (texted_good hgw) (fun pv => one_TXT _ rfl (specRec_fit hgw.fit _ _) (texts_fit ⟨hgu.1, hgu.2, hgu.3, hgu.4⟩))) has_6 rfl rfl rfl rfl rfl [] [0, 1, 2, 3, 4, 5] (by decide) rfl rfl (fun w hI => ⟨hge.call hI (is := []) rfl, texted_ok (hrb.keep0 hI.keep) _ _ _ (Own.row (hI.hs _ (List.mem_of_getElem? (i := 1) rfl)).1), hrg.keep0 hI.keep⟩) ?_
          rintro _ _ ⟨rfl, rfl⟩
          refine OpsJ.yld rfl rfl rfl (Yld.assign rfl rfl) ?_
          refine OpsJ.nil ?_
          refine ExJ.thenN ?_
          refine CodeJ.ret ?_
          exact ExJ.ret1 Tryd.results3 rfl ⟨rfl, rfl⟩ fun w hI => hI.pick (is := []) (by decide) rfl
      · refine StepJ.op (listed' := #[false, true, true, false, true, true, true, false, false, false]) rfl rfl rfl ?_
        refine OpJ.buildSlice (xs := [.tmp 24]) elt_27 rfl rfl rfl rfl rfl rfl (by rfl) (by decide) fun one hone => ?_
        refine ⟨fun w hI => hI.pick (is := [1, 2, 4]) (by decide) rfl, ?_⟩
        refine AnyJ.one (fuel := 4) 0 (by kernel_rfl) ?_
        refine StepJ.op (listed' := #[true, true, true, false, true, true, true, false, false, false]) rfl rfl rfl ?_
        refine OpJ.buildSlice (xs := []) elt_27 rfl rfl rfl rfl rfl rfl (by rfl) (by decide) fun ts hts => ?_
        refine ⟨fun w hI => hI.pick (is := [2, 3, 5]) (by decide) rfl, ?_⟩
        refine AnyJ.one (fuel := 3) 3 (by kernel_rfl) ?_
        refine StepJ.op (listed' := #[true, true, true, true, true, true, true, false, false, false]) rfl rfl rfl ?_
        refine OpJ.appendOwn (xs := []) (k := 0) (m := bad.texts.length) (i := 0) (news := bad.texts.map Value.string) elt_27 rfl rfl rfl rfl rfl rfl (fun w hI => Row.src (Row.keep0 hrb.texts hI.keep) Tryd.underlying27 (fun u hu => by obtain ⟨y, _, rfl⟩ := List.mem_map.1 hu; rfl)) (by omega) (by omega) fun p22 c22 => ?_
        refine ⟨fun w hI => hI.pick (is := [2, 3, 5]) (by decide) rfl, ?_⟩
        simp only [Nat.zero_add, List.nil_append]
        refine AnyJ.one (fuel := 2) 7 (by kernel_rfl) ?_
        refine StepJ.op (listed' := #[true, true, true, true, true, true, true, true, false, false]) rfl rfl rfl ?_
        refine OpJ.appendOwn (xs := bad.texts.map Value.string) (k := bad.texts.length) (m := 1) (i := 0) (news := [strV (List.replicate (256 + more % 1000) 0)]) elt_27 rfl rfl rfl rfl rfl rfl (fun w hI => Own.src (hI.hs _ (List.mem_of_getElem? (i := 1) rfl)).1 Tryd.underlying27 (fun u hu => by simp at hu; subst hu; rfl)) (by omega) (by omega) fun p26 c26 => ?_
        refine ⟨fun w hI => hI.pick (is := [2, 3, 5]) (by decide) rfl, ?_⟩
        refine AnyJ.take (fuel := 1) (listed' := #[true, true, true, true, true, true, true, true, true, false]) 8 rfl (by kernel_rfl) (by kernel_rfl) (by kernel_rfl) rfl rfl rfl rfl (Yld.fieldAddr fa_30_14 rfl rfl) (fun w hI => hI.pick (is := [2, 3, 5]) (by decide) rfl) ?_
        refine AnyJ.one (fuel := 0) 9 (by kernel_rfl) ?_
        refine StepJ.op (listed' := #[true, true, true, true, true, true, true, true, true, true]) rfl rfl rfl ?_
        refine OpJ.store1 (i := 4) rfl rfl rfl rfl rfl sz_27 rfl rfl ?_
        refine ⟨fun w hI => hI.pick (is := [2, 3, 5]) (by decide) rfl, ?_⟩
        refine AnyJ.done (by kernel_rfl) ?_
        refine ExJ.thenN ?_
        refine CodeJ.seq ?_
        refine CodeJ.region ?_
        refine OpsJ.yld rfl rfl rfl (Yld.loadN (vs := hdCs h) rfl Tryd.underlying24 rfl sz_24 rfl (fun w hI => Inv.whole hI (i := 5) rfl)) ?_
        refine OpsJ.yld rfl rfl rfl (Yld.loadN (vs := (bad.texted (.slice p26 (bad.texts.length + 1) c26) ⟨(List.replicate (256 + more % 1000) (0 : UInt8)).toArray⟩).cells) rfl Tryd.underlying30 rfl sz_30 rfl (fun w hI => Inv.whole hI (i := 4) rfl)) ?_
        refine OpsJ.yld rfl rfl rfl (Yld.loadN (vs := good.cells) rfl Tryd.underlying30 rfl sz_30 rfl (fun w hI => Inv.whole hI (i := 3) rfl)) ?_
        refine OpsJ.op rfl ?_
        refine OpJ.call (refused_specG txtK 7 (by decide) stable_TXT (txtAdderQ fun _ => True) 7 has_7 G hbm h hw (bad.texted (.slice p26 (bad.texts.length + 1) c26) ⟨(List.replicate (256 + more % 1000) (0 : UInt8)).toArray⟩) good hgw (texted_bad hbw hbu hnn _ _ (by show (List.replicate _ _).toArray.size ≤ _; simp; omega) (by show _ < (List.replicate _ _).toArray.size; simp; omega)) (texted_good hgw) (fun pv => one_TXT _ rfl (specRec_fit hgw.fit _ _) (texts_fit ⟨hgu.1, hgu.2, hgu.3, hgu.4⟩))) has_6 rfl rfl rfl rfl rfl [] [0, 1, 2, 3, 4, 5] (by decide) rfl rfl (fun w hI => ⟨hge.call hI (is := []) rfl, texted_ok (hrb.keep0 hI.keep) _ _ _ (Own.row (hI.hs _ (List.mem_of_getElem? (i := 0) rfl)).1), hrg.keep0 hI.keep⟩) ?_
        rintro _ _ ⟨rfl, rfl⟩
        refine OpsJ.yld rfl rfl rfl (Yld.assign rfl rfl) ?_
        refine OpsJ.nil ?_
        refine ExJ.thenN ?_
        refine CodeJ.ret ?_
        exact ExJ.ret1 Tryd.results3 rfl ⟨rfl, rfl⟩ fun w hI => hI.pick (is := []) (by decide) rfl
    · refine StepJ.op (listed' := #[false, true, false, false, true, true, true, false, false, false]) rfl rfl rfl ?_
      refine OpJ.buildSlice (xs := [.tmp 24]) elt_27 rfl rfl rfl rfl rfl rfl (by rfl) (by decide) fun one hone => ?_
      refine ⟨fun w hI => hI.pick (is := [1, 2, 4]) (by decide) rfl, ?_⟩
      refine AnyJ.two (fuel := 5) 0 2 (by kernel_rfl) ?_ ?_
      · refine StepJ.op (listed' := #[true, true, false, false, true, true, true, false, false, false]) rfl rfl rfl ?_
        refine OpJ.buildSlice (xs := []) elt_27 rfl rfl rfl rfl rfl rfl (by rfl) (by decide) fun ts hts => ?_
        refine ⟨fun w hI => hI.pick (is := [2, 3, 5]) (by decide) rfl, ?_⟩
        refine AnyJ.one (fuel := 4) 2 (by kernel_rfl) ?_
        refine StepJ.op (listed' := #[true, true, true, false, true, true, true, false, false, false]) rfl rfl rfl ?_
        refine OpJ.yld rfl rfl (Yld.load1 rfl Tryd.underlying27 rfl rfl (fun w hI => Inv.cell1 hI (i := 4) rfl rfl)) ?_
        refine ⟨fun w hI => hI.pick (is := [2, 3, 5]) (by decide) rfl, ?_⟩
        refine AnyJ.one (fuel := 3) 3 (by kernel_rfl) ?_
        refine StepJ.op (listed' := #[true, true, true, true, true, true, true, false, false, false]) rfl rfl rfl ?_
        refine OpJ.appendOwn (xs := []) (k := 0) (m := bad.texts.length) (i := 0) (news := bad.texts.map Value.string) elt_27 rfl rfl rfl rfl rfl rfl (fun w hI => Row.src (Row.keep0 hrb.texts hI.keep) Tryd.underlying27 (fun u hu => by obtain ⟨y, _, rfl⟩ := List.mem_map.1 hu; rfl)) (by omega) (by omega) fun p22 c22 => ?_
        refine ⟨fun w hI => hI.pick (is := [2, 3, 5]) (by decide) rfl, ?_⟩
        simp only [Nat.zero_add, List.nil_append]
        refine AnyJ.one (fuel := 2) 7 (by kernel_rfl) ?_
        refine StepJ.op (listed' := #[true, true, true, true, true, true, true, true, false, false]) rfl rfl rfl ?_
        refine OpJ.appendOwn (xs := bad.texts.map Value.string) (k := bad.texts.length) (m := 1) (i := 0) (news := [strV (List.replicate (256 + more % 1000) 0)]) elt_27 rfl rfl rfl rfl rfl rfl (fun w hI => Own.src (hI.hs _ (List.mem_of_getElem? (i := 1) rfl)).1 Tryd.underlying27 (fun u hu => by simp at hu; subst hu; rfl)) (by omega) (by omega) fun p26 c26 => ?_
        refine ⟨fun w hI => hI.pick (is := [2, 3, 5]) (by decide) rfl, ?_⟩
        refine AnyJ.take (fuel := 1) (listed' := #[true, true, true, true, true, true, true, true, true, false]) 8 rfl (by kernel_rfl) (by kernel_rfl) (by kernel_rfl) rfl rfl rfl rfl (Yld.fieldAddr fa_30_14 rfl rfl) (fun w hI => hI.pick (is := [2, 3, 5]) (by decide) rfl) ?_
        refine AnyJ.one (fuel := 0) 9 (by kernel_rfl) ?_
        refine StepJ.op (listed' := #[true, true, true, true, true, true, true, true, true, true]) rfl rfl rfl ?_
        refine OpJ.store1 (i := 4) rfl rfl rfl rfl rfl sz_27 rfl rfl ?_
        refine ⟨fun w hI => hI.pick (is := [2, 3, 5]) (by decide) rfl, ?_⟩
        refine AnyJ.done (by kernel_rfl) ?_
        refine ExJ.thenN ?_
        refine CodeJ.seq ?_
        refine CodeJ.region ?_
        refine OpsJ.yld rfl rfl rfl (Yld.loadN (vs := hdCs h) rfl Tryd.underlying24 rfl sz_24 rfl (fun w hI => Inv.whole hI (i := 5) rfl)) ?_
        refine OpsJ.yld rfl rfl rfl (Yld.loadN (vs := (bad.texted (.slice p26 (bad.texts.length + 1) c26) ⟨(List.replicate (256 + more % 1000) (0 : UInt8)).toArray⟩).cells) rfl Tryd.underlying30 rfl sz_30 rfl (fun w hI => Inv.whole hI (i := 4) rfl)) ?_
        refine OpsJ.yld rfl rfl rfl (Yld.loadN (vs := good.cells) rfl Tryd.underlying30 rfl sz_30 rfl (fun w hI => Inv.whole hI (i := 3) rfl)) ?_
        refine OpsJ.op rfl ?_
        refine OpJ.call (refused_specG txtK 7 (by decide) stable_TXT (txtAdderQ fun _ => True) 7 has_7 G hbm h hw (bad.texted (.slice p26 (bad.texts.length + 1) c26) ⟨(List.replicate (256 + more % 1000) (0 : UInt8)).toArray⟩) good hgw (texted_bad hbw hbu hnn _ _ (by show (List.replicate _ _).toArray.size ≤ _; simp; omega) (by show _ < (List.replicate _ _).toArray.size; simp; omega)) (texted_good hgw) (fun pv => one_TXT _ rfl (specRec_fit hgw.fit _ _) (texts_fit ⟨hgu.1, hgu.2, hgu.3, hgu.4⟩))) has_6 rfl rfl rfl rfl rfl [] [0, 1, 2, 3, 4, 5] (by decide) rfl rfl (fun w hI => ⟨hge.call hI (is := []) rfl, texted_ok (hrb.keep0 hI.keep) _ _ _ (Own.row (hI.hs _ (List.mem_of_getElem? (i := 0) rfl)).1), hrg.keep0 hI.keep⟩) ?_
        rintro _ _ ⟨rfl, rfl⟩
        refine OpsJ.yld rfl rfl rfl (Yld.assign rfl rfl) ?_
        refine OpsJ.nil ?_
        refine ExJ.thenN ?_
        refine CodeJ.ret ?_
        exact ExJ.ret1 Tryd.results3 rfl ⟨rfl, rfl⟩ fun w hI => hI.pick (is := []) (by decide) rfl
      · refine StepJ.op (listed' := #[false, true, true, false, true, true, true, false, false, false]) rfl rfl rfl ?_
        refine OpJ.yld rfl rfl (Yld.load1 rfl Tryd.underlying27 rfl rfl (fun w hI => Inv.cell1 hI (i := 3) rfl rfl)) ?_
        refine ⟨fun w hI => hI.pick (is := [1, 2, 4]) (by decide) rfl, ?_⟩
        refine AnyJ.one (fuel := 4) 0 (by kernel_rfl) ?_
        refine StepJ.op (listed' := #[true, true, true, false, true, true, true, false, false, false]) rfl rfl rfl ?_
        refine OpJ.buildSlice (xs := []) elt_27 rfl rfl rfl rfl rfl rfl (by rfl) (by decide) fun ts hts => ?_
        refine ⟨fun w hI => hI.pick (is := [2, 3, 5]) (by decide) rfl, ?_⟩
        refine AnyJ.one (fuel := 3) 3 (by kernel_rfl) ?_
        refine StepJ.op (listed' := #[true, true, true, true, true, true, true, false, false, false]) rfl rfl rfl ?_
        refine OpJ.appendOwn (xs := []) (k := 0) (m := bad.texts.length) (i := 0) (news := bad.texts.map Value.string) elt_27 rfl rfl rfl rfl rfl rfl (fun w hI => Row.src (Row.keep0 hrb.texts hI.keep) Tryd.underlying27 (fun u hu => by obtain ⟨y, _, rfl⟩ := List.mem_map.1 hu; rfl)) (by omega) (by omega) fun p22 c22 => ?_
        refine ⟨fun w hI => hI.pick (is := [2, 3, 5]) (by decide) rfl, ?_⟩
        simp only [Nat.zero_add, List.nil_append]
        refine AnyJ.one (fuel := 2) 7 (by kernel_rfl) ?_
        refine StepJ.op (listed' := #[true, true, true, true, true, true, true, true, false, false]) rfl rfl rfl ?_
        refine OpJ.appendOwn (xs := bad.texts.map Value.string) (k := bad.texts.length) (m := 1) (i := 0) (news := [strV (List.replicate (256 + more % 1000) 0)]) elt_27 rfl rfl rfl rfl rfl rfl (fun w hI => Own.src (hI.hs _ (List.mem_of_getElem? (i := 1) rfl)).1 Tryd.underlying27 (fun u hu => by simp at hu; subst hu; rfl)) (by omega) (by omega) fun p26 c26 => ?_
        refine ⟨fun w hI => hI.pick (is := [2, 3, 5]) (by decide) rfl, ?_⟩
        refine AnyJ.take (fuel := 1) (listed' := #[true, true, true, true, true, true, true, true, true, false]) 8 rfl (by kernel_rfl) (by kernel_rfl) (by kernel_rfl) rfl rfl rfl rfl (Yld.fieldAddr fa_30_14 rfl rfl) (fun w hI => hI.pick (is := [2, 3, 5]) (by decide) rfl) ?_
        refine AnyJ.one (fuel := 0) 9 (by kernel_rfl) ?_
        refine StepJ.op (listed' := #[true, true, true, true, true, true, true, true, true, true]) rfl rfl rfl ?_
        refine OpJ.store1 (i := 4) rfl rfl rfl rfl rfl sz_27 rfl rfl ?_
        refine ⟨fun w hI => hI.pick (is := [2, 3, 5]) (by decide) rfl, ?_⟩
        refine AnyJ.done (by kernel_rfl) ?_
        refine ExJ.thenN ?_
        refine CodeJ.seq ?_
        refine CodeJ.region ?_
        refine OpsJ.yld rfl rfl rfl (Yld.loadN (vs := hdCs h) rfl Tryd.underlying24 rfl sz_24 rfl (fun w hI => Inv.whole hI (i := 5) rfl)) ?_
        refine OpsJ.yld rfl rfl rfl (Yld.loadN (vs := (bad.texted (.slice p26 (bad.texts.length + 1) c26) ⟨(List.replicate (256 + more % 1000) (0 : UInt8)).toArray⟩).cells) rfl Tryd.underlying30 rfl sz_30 rfl (fun w hI => Inv.whole hI (i := 4) rfl)) ?_
        refine OpsJ.yld rfl rfl rfl (Yld.loadN (vs := good.cells) rfl Tryd.underlying30 rfl sz_30 rfl (fun w hI => Inv.whole hI (i := 3) rfl)) ?_
        refine OpsJ.op rfl ?_
        refine OpJ.call (refused_specG txtK 7 (by decide) stable_TXT (txtAdderQ fun _ => True) 7 has_7 G hbm h hw (bad.texted (.slice p26 (bad.texts.length + 1) c26) ⟨(List.replicate (256 + more % 1000) (0 : UInt8)).toArray⟩) good hgw (texted_bad hbw hbu hnn _ _ (by show (List.replicate _ _).toArray.size ≤ _; simp; omega) (by show _ < (List.replicate _ _).toArray.size; simp; omega)) (texted_good hgw) (fun pv => one_TXT _ rfl (specRec_fit hgw.fit _ _) (texts_fit ⟨hgu.1, hgu.2, hgu.3, hgu.4⟩))) has_6 rfl rfl rfl rfl rfl [] [0, 1, 2, 3, 4, 5] (by decide) rfl rfl (fun w hI => ⟨hge.call hI (is := []) rfl, texted_ok (hrb.keep0 hI.keep) _ _ _ (Own.row (hI.hs _ (List.mem_of_getElem? (i := 0) rfl)).1), hrg.keep0 hI.keep⟩) ?_
        rintro _ _ ⟨rfl, rfl⟩
        refine OpsJ.yld rfl rfl rfl (Yld.assign rfl rfl) ?_
        refine OpsJ.nil ?_
        refine ExJ.thenN ?_
        refine CodeJ.ret ?_
        exact ExJ.ret1 Tryd.results3 rfl ⟨rfl, rfl⟩ fun w hI => hI.pick (is := []) (by decide) rfl
end Go.Proofs.YtbfopgnhdelioaaDoor
