/-
  The laws FnEarlyAsk and FnRefusedAsk: their walks.
-/
import Derived.Test.YtdiememgbnplkaaDoorFactsC
import Derived.Test.YtdiememgbnplkaaDoorMem8
namespace Go.Proofs.YtdiememgbnplkaaDoor
open Go
set_option maxRecDepth 100000

theorem runF_cons (A : Adder) (s : StepD) (r : List StepD) (on : Bool) (b : Bd) : runF A (s :: r) on b = ((runF A r (stepF A s on b).1 (stepF A s on b).2.1).1, (stepF A s on b).2.2 :: (runF A r (stepF A s on b).1 (stepF A s on b).2.1).2) := rfl
theorem early_run (h : Hd) (a : AskD) (hn : nameOk a.name.data.toList = true) : RunOk noAdder [askStep a, mkStep 2, askStep a] false (newB [] h) ∧
    runF noAdder [askStep a, mkStep 2, askStep a] false (newB [] h) = ({ newB [] h with buf := zero12 ++ askWire a, sec := 2, q := 1, m := [] }, [1, 0, 0]) := by
  have hb0 := newB_ok h
  have e0 : askF a false (newB [] h) = (newB [] h, 1) := by simp [askF, newB]
  obtain ⟨ys, m', hb, hw, hy, hr, hf⟩ := asks_run noAdder false [] [a] { newB [] h with sec := 2 } (by simpa using hn) rfl (hb0.sec_ (by decide)) (by simp [newB]) (by simp [newB, zero12])
  obtain ⟨rfl, rfl⟩ := hw rfl
  refine ⟨?_, ?_⟩
  · rw [RunOk, step_ask, e0]
    exact ⟨ok_ask _ _ _ _ hb0 (.inl (by simp [newB])), ok_mk _ 2 _ _ hb0 (Nat.le_of_ble_eq_true rfl) (by decide), hr hb⟩
  · rw [runF, step_ask, e0, runF, step_mk noAdder 2 false _ (by decide) (by decide)]
    have hf' : runF noAdder [askStep a] false { newB [] h with sec := 2 } = _ := hf
    simp only [hf']
    simp [runF, newB]

theorem askF_long {a : AskD} {b : Bd} (h2 : b.sec = 2) (hn : longLabel a.name.data.toList = true) : askF a false b = (b, 3) := by
  rw [askF, if_neg (by omega), packQ, cut_long hn, packN_long _ _ _ hn]

theorem refused_run (h : Hd) (a x : AskD) (hn : nameOk a.name.data.toList = true) (hx : longLabel x.name.data.toList = true) : RunOk noAdder [mkStep 2, askStep a, askStep x, askStep a] false (newB [] h) ∧
    runF noAdder [mkStep 2, askStep a, askStep x, askStep a] false (newB [] h) = ({ newB [] h with buf := zero12 ++ (askWire a ++ askWire a), sec := 2, q := 2, m := [] }, [0, 0, 3, 0]) := by
  have hb0 := newB_ok h
  obtain ⟨ys, m', hb, hw, hy, hr, hf⟩ := asks_run noAdder false [askStep x, askStep a] [a] { newB [] h with sec := 2 } (by simpa using hn) rfl (hb0.sec_ (by decide)) (by simp [newB]) (by simp [newB, zero12])
  obtain ⟨rfl, rfl⟩ := hw rfl
  have hwl : (askWire a).length ≤ 600 := by simpa using hy
  obtain ⟨zs, m2, hb2, hw2, hy2, hr2, hf2⟩ := asks_run noAdder false [] [a] _ (by simpa using hn) rfl hb (by simp [newB]) (by simp [newB, zero12]; omega)
  obtain ⟨rfl, rfl⟩ := hw2 rfl
  simp only [List.map_cons, List.map_nil, List.singleton_append, List.append_nil] at hr hf hr2 hf2
  refine ⟨⟨ok_mk _ 2 _ _ hb0 (Nat.le_of_ble_eq_true rfl) (by decide), hr ?_⟩, ?_⟩
  · rw [RunOk, step_ask, askF_long rfl hx]
    refine ⟨ok_ask _ _ _ _ hb (.inr ⟨rfl, by simp [newB], by rw [cut_long hx]; exact long_pname hx⟩), hr2 hb2⟩
  · rw [runF, step_mk noAdder 2 false _ (by decide) (by decide)]
    simp only [hf, runF_cons noAdder (askStep x), step_ask, fun b h2 => askF_long (b := b) (a := x) h2 hx]
    simp only [hf2]
    simp [runF, newB]

theorem build_ask {o : Oper} {n : Nat} {L : List (Nat × Value)} {I : World → Prop} {parts : Array (Nat × Operand)} (x : AskD) (ho : o.op = .build 49 parts) (hv : evp L parts.toList = some [(0, .int .i64 6), (1, .agg x.cells.toArray)]) : Yld Tryd.prog o n L I (.agg (askStep x).cells.toArray) :=
  Yld.build places_49 zero_49 ho hv (by kernel_rfl)
theorem build_named {o : Oper} {n : Nat} {L : List (Nat × Value)} {I : World → Prop} {parts : Array (Nat × Operand)} (s : ByteArray) (ho : o.op = .build 41 parts) (hv : evp L parts.toList = some [(0, .string s)]) : Yld Tryd.prog o n L I (.agg (AskD.cells ⟨s, 0, 0⟩).toArray) :=
  Yld.build places_41 zero_41 ho hv (by kernel_rfl)
theorem fnEarlyAsk_spec (G : Nat → Addr) (h : Hd) (hw : h.wf) (a : AskD) (ha : a.wf) : Spec Tryd.prog 8 [.agg (hdCs h).toArray, .agg a.cells.toArray] [] (fun w => GE G w []) (fun r H' => r = .bool true ∧ H' = []) := by
  refine Spec.of Tryd.func8 rfl Tryd.ntmps8 rfl fun w0 hge => ?_
  have hsz := ha.2.2
  refine CodeJ.seq ?_
  refine CodeJ.region ?_
  refine OpsJ.op rfl ?_
  refine OpJ.box rfl rfl rfl rfl fun hd hhd => ?_
  refine OpsJ.op rfl ?_
  refine OpJ.box rfl rfl rfl rfl fun ab hab => ?_
  refine OpsJ.yld rfl rfl rfl (Yld.assign rfl rfl) ?_
  refine OpsJ.nil ?_
  refine ExJ.thenN ?_
  refine CodeJ.seq ?_
  refine CodeJ.seq ?_
  refine CodeJ.region ?_
  refine OpsJ.yld rfl rfl rfl (Yld.loadN (vs := hdCs h) rfl Tryd.underlying24 rfl sz_24 rfl (fun w hI => Inv.whole hI (i := 1) rfl)) ?_
  refine OpsJ.op rfl ?_
  refine OpJ.call (specHead_spec h) has_16 rfl rfl rfl rfl rfl [] [0, 1] (by decide) rfl rfl (fun _ _ => trivial) ?_
  rintro _ _ ⟨rfl, rfl⟩
  refine OpsJ.op rfl ?_
  refine OpJ.call (headOk_spec h) has_15 rfl rfl rfl rfl rfl [] [0, 1] (by decide) rfl rfl (fun _ _ => trivial) ?_
  rintro _ _ ⟨rfl, rfl⟩
  refine OpsJ.yld rfl rfl rfl (Yld.not rfl rfl) ?_
  refine OpsJ.yld rfl rfl rfl (Yld.move rfl rfl) ?_
  refine OpsJ.splitB (s := 11) rfl (fun g11 => ?_) (fun g11 => ?_)
  · refine OpsJ.opF rfl rfl rfl rfl rfl rfl ?_
    refine OpsJ.opF rfl rfl rfl rfl rfl rfl ?_
    refine OpsJ.opF rfl rfl rfl rfl rfl rfl ?_
    refine OpsJ.opF rfl rfl rfl rfl rfl rfl ?_
    refine OpsJ.yld rfl rfl rfl (Yld.pickT rfl rfl rfl) ?_
    refine OpsJ.nil ?_
    refine ExJ.thenN ?_
    refine CodeJ.condT rfl ?_
    refine CodeJ.seq ?_
    refine CodeJ.region ?_
    refine OpsJ.yld rfl rfl rfl (Yld.assign rfl rfl) ?_
    refine OpsJ.nil ?_
    refine ExJ.thenN ?_
    refine CodeJ.ret ?_
    refine ExJ.thenR ?_
    exact ExJ.ret1 Tryd.results8 rfl ⟨rfl, rfl⟩ fun w hI => hI.pick (is := []) (by decide) rfl
  · refine OpsJ.opT rfl rfl rfl ?_
    refine OpJ.yld rfl rfl (Yld.fieldAddr fa_41_0 rfl rfl) ?_
    refine OpsJ.opT rfl rfl rfl ?_
    refine OpJ.yld rfl rfl (Yld.load1 rfl Tryd.underlying9 rfl rfl (fun w hI => Inv.cell1 hI (i := 0) rfl rfl)) ?_
    refine OpsJ.opT rfl rfl rfl ?_
    refine OpJ.call (nameOk_spec a.name (by omega)) has_18 rfl rfl rfl rfl rfl [] [0, 1] (by decide) rfl rfl (fun _ _ => trivial) ?_
    rintro _ _ ⟨rfl, rfl⟩
    refine OpsJ.opT rfl rfl rfl ?_
    refine OpJ.yld rfl rfl (Yld.not rfl rfl) ?_
    refine OpsJ.yld rfl rfl rfl (Yld.pickF rfl rfl rfl) ?_
    refine OpsJ.nil ?_
    refine ExJ.thenN ?_
    refine CodeJ.cond rfl (fun c16 => ?_) (fun c16 => ?_)
    · refine CodeJ.seq ?_
      refine CodeJ.region ?_
      refine OpsJ.yld rfl rfl rfl (Yld.assign rfl rfl) ?_
      refine OpsJ.nil ?_
      refine ExJ.thenN ?_
      refine CodeJ.ret ?_
      refine ExJ.thenR ?_
      exact ExJ.ret1 Tryd.results8 rfl ⟨rfl, rfl⟩ fun w hI => hI.pick (is := []) (by decide) rfl
    · have hno : nameOk a.name.data.toList = true := by simpa using c16
      obtain ⟨hrun, hrf⟩ := early_run h a hno
      refine CodeJ.skip ?_
      refine ExJ.thenN ?_
      refine CodeJ.seq ?_
      refine CodeJ.region ?_
      refine OpsJ.yld rfl rfl rfl (Yld.loadN (vs := a.cells) rfl Tryd.underlying41 rfl sz_41 rfl (fun w hI => Inv.whole hI (i := 0) rfl)) ?_
      refine OpsJ.yld rfl rfl rfl (build_ask a rfl rfl) ?_
      refine OpsJ.op rfl ?_
      refine OpJ.alloc rfl rfl rfl zero_49 fun sb hsb => ?_
      refine OpsJ.op rfl ?_
      refine OpJ.storeW (i := 0) rfl rfl rfl rfl sz_49 rfl rfl rfl ?_
      refine OpsJ.nil ?_
      refine ExJ.thenN ?_
      refine CodeJ.seq ?_
      refine CodeJ.region ?_
      refine OpsJ.yld rfl rfl rfl (Yld.loadN (vs := hdCs h) rfl Tryd.underlying24 rfl sz_24 rfl (fun w hI => Inv.whole hI (i := 2) rfl)) ?_
      refine OpsJ.yld rfl rfl rfl (Yld.loadN (vs := (askStep a).cells) rfl Tryd.underlying49 rfl sz_49 rfl (fun w hI => Inv.whole hI (i := 0) rfl)) ?_
      refine OpsJ.yld rfl rfl rfl (Yld.build places_49 zero_49 rfl rfl rfl) ?_
      refine OpsJ.yld rfl rfl rfl (Yld.loadN (vs := (askStep a).cells) rfl Tryd.underlying49 rfl sz_49 rfl (fun w hI => Inv.whole hI (i := 0) rfl)) ?_
      refine OpsJ.op rfl ?_
      refine OpJ.buildSlice (xs := [.tmp 20, .tmp 21, .tmp 22]) elt_50 rfl rfl rfl rfl rfl rfl (by rfl) (by decide) fun st hst => ?_
      refine OpsJ.op rfl ?_
      refine OpJ.call (buildAsks_spec G h hw [] (.slice none 0 0) _ [askStep a, mkStep 2, askStep a] (by simp) (by simp) hrun) has_13 rfl rfl rfl rfl rfl [] [0, 1, 2, 3] (by decide) rfl rfl (fun w hI => ⟨hge.call hI (is := []) rfl, .inl ⟨none, 0, rfl, rfl⟩, Own.row (hI.hs _ (List.mem_of_getElem? (i := 0) rfl)).1, fun s hs => by simp at hs; rcases hs with rfl | rfl | rfl <;> exact zRec_ok w⟩) ?_
      rintro _ _ ⟨p1, c1, p2, c2, rfl, rfl⟩
      rw [hrf]
      simp only
      refine OpsJ.op rfl ?_
      refine OpJ.alloc rfl rfl rfl zero_37 fun got hgot => ?_
      refine OpsJ.op rfl ?_
      refine OpJ.storeW (i := 0) rfl rfl rfl rfl sz_37 rfl rfl rfl ?_
      refine OpsJ.nil ?_
      refine ExJ.thenN ?_
      refine CodeJ.seq ?_
      refine CodeJ.seq ?_
      refine CodeJ.someOwn (i := 1) rfl (by decide) fun fb hfb _ => ?_
      subst hfb
      refine CodeJ.region ?_
      refine OpsJ.yld rfl rfl rfl (Yld.fieldAddr fa_37_0 rfl rfl) ?_
      refine OpsJ.yld rfl rfl rfl (Yld.load1 rfl Tryd.underlying35 rfl rfl (fun w hI => Inv.cell1 hI (i := 0) rfl rfl)) ?_
      refine OpsJ.yld rfl rfl rfl (Yld.lenSlice rfl rfl rfl Tryd.underlying35 rfl) ?_
      refine OpsJ.yld rfl rfl rfl (Yld.intBin rfl rfl rfl rfl) ?_
      refine OpsJ.yld rfl rfl rfl (Yld.move rfl rfl) ?_
      refine OpsJ.splitB (s := 29) rfl (fun g29 => ?_) (fun g29 => ?_)
      · exact absurd g29 (by decide)
      · refine OpsJ.opT rfl rfl rfl ?_
        refine OpJ.yld rfl rfl (Yld.fieldAddr fa_37_2 rfl rfl) ?_
        refine OpsJ.opT rfl rfl rfl ?_
        refine OpJ.yld rfl rfl (Yld.load1 rfl Tryd.underlying3 rfl rfl (fun w hI => Inv.cell1 hI (i := 0) rfl rfl)) ?_
        refine OpsJ.opT rfl rfl rfl ?_
        refine OpJ.yld rfl rfl (Yld.intBin rfl rfl rfl rfl) ?_
        refine OpsJ.yld rfl rfl rfl (Yld.pickF rfl rfl rfl) ?_
        refine OpsJ.yld rfl rfl rfl (Yld.move rfl rfl) ?_
        refine OpsJ.splitB (s := 34) rfl (fun g34 => ?_) (fun g34 => ?_)
        · exact absurd g34 (by decide)
        · refine OpsJ.opT rfl rfl rfl ?_
          refine OpJ.yld rfl rfl (Yld.fieldAddr fa_37_0 rfl rfl) ?_
          refine OpsJ.opT rfl rfl rfl ?_
          refine OpJ.yld rfl rfl (Yld.load1 rfl Tryd.underlying35 rfl rfl (fun w hI => Inv.cell1 hI (i := 0) rfl rfl)) ?_
          refine OpsJ.opT rfl rfl rfl ?_
          refine OpJ.yld rfl rfl (Yld.indexAddr (i := 0) rfl Tryd.underlying35 sz_3 rfl rfl (by decide)) ?_
          refine OpsJ.opT rfl rfl rfl ?_
          refine OpJ.yld rfl rfl (Yld.load1 rfl Tryd.underlying3 rfl rfl (fun w hI => (Own.cells (hI.hs _ (List.mem_of_getElem? (i := 1) rfl)).1 _ _ _ _ rfl).2.2.one (k := 0) rfl)) ?_
          refine OpsJ.opT rfl rfl rfl ?_
          refine OpJ.yld rfl rfl (Yld.intBin rfl rfl rfl rfl) ?_
          refine OpsJ.yld rfl rfl rfl (Yld.pickF rfl rfl rfl) ?_
          refine OpsJ.yld rfl rfl rfl (Yld.move rfl rfl) ?_
          refine OpsJ.splitB (s := 41) rfl (fun g41 => ?_) (fun g41 => ?_)
          · exact absurd g41 (by decide)
          · refine OpsJ.opT rfl rfl rfl ?_
            refine OpJ.yld rfl rfl (Yld.fieldAddr fa_37_0 rfl rfl) ?_
            refine OpsJ.opT rfl rfl rfl ?_
            refine OpJ.yld rfl rfl (Yld.load1 rfl Tryd.underlying35 rfl rfl (fun w hI => Inv.cell1 hI (i := 0) rfl rfl)) ?_
            refine OpsJ.opT rfl rfl rfl ?_
            refine OpJ.yld rfl rfl (Yld.indexAddr (i := 1) rfl Tryd.underlying35 sz_3 rfl rfl (by decide)) ?_
            refine OpsJ.opT rfl rfl rfl ?_
            refine OpJ.yld rfl rfl (Yld.load1 rfl Tryd.underlying3 rfl rfl (fun w hI => (Own.cells (hI.hs _ (List.mem_of_getElem? (i := 1) rfl)).1 _ _ _ _ rfl).2.2.one (k := 1) rfl)) ?_
            refine OpsJ.opT rfl rfl rfl ?_
            refine OpJ.yld rfl rfl (Yld.intBin rfl rfl rfl rfl) ?_
            refine OpsJ.yld rfl rfl rfl (Yld.pickF rfl rfl rfl) ?_
            refine OpsJ.yld rfl rfl rfl (Yld.move rfl rfl) ?_
            refine OpsJ.splitB (s := 48) rfl (fun g48 => ?_) (fun g48 => ?_)
            · exact absurd g48 (by decide)
            · refine OpsJ.opT rfl rfl rfl ?_
              refine OpJ.yld rfl rfl (Yld.fieldAddr fa_37_0 rfl rfl) ?_
              refine OpsJ.opT rfl rfl rfl ?_
              refine OpJ.yld rfl rfl (Yld.load1 rfl Tryd.underlying35 rfl rfl (fun w hI => Inv.cell1 hI (i := 0) rfl rfl)) ?_
              refine OpsJ.opT rfl rfl rfl ?_
              refine OpJ.yld rfl rfl (Yld.indexAddr (i := 2) rfl Tryd.underlying35 sz_3 rfl rfl (by decide)) ?_
              refine OpsJ.opT rfl rfl rfl ?_
              refine OpJ.yld rfl rfl (Yld.load1 rfl Tryd.underlying3 rfl rfl (fun w hI => (Own.cells (hI.hs _ (List.mem_of_getElem? (i := 1) rfl)).1 _ _ _ _ rfl).2.2.one (k := 2) rfl)) ?_
              refine OpsJ.opT rfl rfl rfl ?_
              refine OpJ.yld rfl rfl (Yld.intBin rfl rfl rfl rfl) ?_
              refine OpsJ.yld rfl rfl rfl (Yld.pickF rfl rfl rfl) ?_
              refine OpsJ.nil ?_
              refine ExJ.thenN ?_
              refine CodeJ.cond rfl (fun c54 => ?_) (fun c54 => ?_)
              · exact absurd c54 (by decide)
              · refine CodeJ.skip ?_
                refine ExJ.thenN ?_
                refine CodeJ.seq ?_
                refine CodeJ.any (fuel := 9) (listed := #[false, false, false, false, false, false, false, false, false]) [0, 1, 2, 3, 4, 5, 6] rfl follows_mixed rfl rfl ?_
                refine AnyJ.take (fuel := 8) (listed' := #[true, false, false, false, false, false, false, false, false]) 0 rfl (by kernel_rfl) (by kernel_rfl) (by kernel_rfl) rfl rfl rfl rfl (Yld.fieldAddr fa_37_1 rfl rfl) (fun w hI => hI.pick (is := [0, 1, 2, 3, 4, 5, 6]) (by decide) rfl) ?_
                refine AnyJ.take (fuel := 7) (listed' := #[true, true, false, false, false, false, false, false, false]) 1 rfl (by kernel_rfl) (by kernel_rfl) (by kernel_rfl) rfl rfl rfl rfl (Yld.load1 rfl Tryd.underlying29 rfl rfl (fun w hI => Inv.cell1 hI (i := 0) rfl rfl)) (fun w hI => hI.pick (is := [0, 1, 2, 3, 4, 5, 6]) (by decide) rfl) ?_
                refine AnyJ.take (fuel := 6) (listed' := #[true, true, true, false, false, false, false, false, false]) 2 rfl (by kernel_rfl) (by kernel_rfl) (by kernel_rfl) rfl rfl rfl rfl (Yld.loadN (vs := hdCs h) rfl Tryd.underlying24 rfl sz_24 rfl (fun w hI => Inv.whole hI (i := 6) rfl)) (fun w hI => hI.pick (is := [0, 1, 2, 3, 4, 5, 6]) (by decide) rfl) ?_
                refine AnyJ.take (fuel := 5) (listed' := #[true, true, true, true, false, false, false, false, false]) 3 rfl (by kernel_rfl) (by kernel_rfl) (by kernel_rfl) rfl rfl rfl rfl (Yld.loadN (vs := a.cells) rfl Tryd.underlying41 rfl sz_41 rfl (fun w hI => Inv.whole hI (i := 5) rfl)) (fun w hI => hI.pick (is := [0, 1, 2, 3, 4, 5, 6]) (by decide) rfl) ?_
                refine AnyJ.one (fuel := 4) 4 (by kernel_rfl) ?_
                refine StepJ.op (listed' := #[true, true, true, true, true, false, false, false, false]) rfl rfl rfl ?_
                refine OpJ.buildSlice (xs := [.tmp 58]) elt_25 rfl rfl rfl rfl rfl rfl (by rfl) (by decide) fun al hal => ?_
                refine ⟨fun w hI => hI.pick (is := [1, 2, 3, 4, 5, 6, 7]) (by decide) rfl, ?_⟩
                refine AnyJ.one (fuel := 3) 5 (by kernel_rfl) ?_
                refine StepJ.op (listed' := #[true, true, true, true, true, true, false, false, false]) rfl rfl rfl ?_
                refine OpJ.call (message_spec 0 ⟨h, .slice (some ⟨al, 0, none⟩) 1 1, [a], .slice none 0 0, [], .slice none 0 0, [], .slice none 0 0, []⟩ ⟨by simp, by simp, by simp, by simp, by simp⟩) has_20 rfl rfl rfl rfl rfl [] [0, 1, 2, 3, 4, 5, 6, 7] (by decide) rfl rfl (fun w hI => ⟨Own.row (hI.hs _ (List.mem_of_getElem? (i := 0) rfl)).1, recs_nil _ _ _, recs_nil _ _ _, recs_nil _ _ _⟩) ?_
                rintro _ _ ⟨m', q, bs, hq', rfl, hof, hmem, rfl⟩
                refine ⟨fun w hI => hI.pick (is := [2, 3, 4, 5, 6, 7, 8]) (by decide) rfl, ?_⟩
                obtain ⟨va, v1, v2, v3, rfl⟩ := hof.nil
                refine AnyJ.one (fuel := 2) 6 (by kernel_rfl) ?_
                refine StepJ.op (listed' := #[true, true, true, true, true, true, true, false, false]) rfl rfl rfl ?_
                refine OpJ.call (messageWire_spec K0 ⟨h, va, [a], v1, [], v2, [], v3, []⟩ hw K0.writes_nil (fun x hx => by simp at hx; subst hx; exact nameOk_size _ hno) ⟨by simp, by simp, by simp, by simp⟩) has_19 rfl rfl rfl rfl rfl [] [0, 1, 2, 3, 4, 5, 6, 7, 8] (by decide) rfl rfl (fun w hI => (hmem w (hI.roGet (i := 0) rfl)).ok hof (by simp)) ?_
                rintro _ _ ⟨p61, c61, rfl, rfl⟩
                refine ⟨fun w hI => hI.pick (is := [3, 4, 5, 6, 7, 8, 9]) (by decide) rfl, ?_⟩
                refine AnyJ.one (fuel := 1) 7 (by kernel_rfl) ?_
                refine StepJ.op (listed' := #[true, true, true, true, true, true, true, true, false]) rfl rfl rfl ?_
                refine OpJ.call (same_spec _ _ _ (K0.wire ⟨h, va, [a], v1, [], v2, [], v3, []⟩)) has_17 rfl rfl rfl rfl rfl [] [0, 1, 2, 3, 4, 5, 6, 7, 8, 9] (by decide) rfl rfl (fun w hI => ⟨Inv.bytes (k := 5) rfl w hI, Inv.bytes (k := 0) rfl w hI⟩) ?_
                rintro _ _ ⟨rfl, rfl⟩
                refine ⟨fun w hI => hI.pick (is := [3, 4, 5, 6, 7, 8, 9]) (by decide) rfl, ?_⟩
                refine AnyJ.take (fuel := 0) (listed' := #[true, true, true, true, true, true, true, true, true]) 8 rfl (by kernel_rfl) (by kernel_rfl) (by kernel_rfl) rfl rfl rfl rfl (Yld.assign rfl rfl) (fun w hI => hI.pick (is := [3, 4, 5, 6, 7, 8, 9]) (by decide) rfl) ?_
                refine AnyJ.done (by kernel_rfl) ?_
                refine ExJ.thenN ?_
                refine CodeJ.ret ?_
                exact ExJ.ret1 Tryd.results8 rfl ⟨by rw [fin_asks h _ _ _ _ (by decide)]; simp [Kind.wire], rfl⟩ fun w hI => hI.pick (is := []) (by decide) rfl

theorem fnRefusedAsk_spec (G : Nat → Addr) (h : Hd) (hw : h.wf) (s : ByteArray) (hs : s.size ≤ 140737488355328) (a : AskD) (ha : a.wf) : Spec Tryd.prog 11 [.agg (hdCs h).toArray, .string s, .agg a.cells.toArray] [] (fun w => GE G w []) (fun r H' => r = .bool true ∧ H' = []) := by
  refine Spec.of Tryd.func11 rfl Tryd.ntmps11 rfl fun w0 hge => ?_
  have hsz := ha.2.2
  refine CodeJ.seq ?_
  refine CodeJ.region ?_
  refine OpsJ.op rfl ?_
  refine OpJ.box rfl rfl rfl rfl fun hd hhd => ?_
  refine OpsJ.op rfl ?_
  refine OpJ.box rfl rfl rfl rfl fun ab hab => ?_
  refine OpsJ.yld rfl rfl rfl (Yld.assign rfl rfl) ?_
  refine OpsJ.nil ?_
  refine ExJ.thenN ?_
  refine CodeJ.seq ?_
  refine CodeJ.seq ?_
  refine CodeJ.region ?_
  refine OpsJ.yld rfl rfl rfl (Yld.loadN (vs := hdCs h) rfl Tryd.underlying24 rfl sz_24 rfl (fun w hI => Inv.whole hI (i := 1) rfl)) ?_
  refine OpsJ.op rfl ?_
  refine OpJ.call (specHead_spec h) has_16 rfl rfl rfl rfl rfl [] [0, 1] (by decide) rfl rfl (fun _ _ => trivial) ?_
  rintro _ _ ⟨rfl, rfl⟩
  refine OpsJ.op rfl ?_
  refine OpJ.call (headOk_spec h) has_15 rfl rfl rfl rfl rfl [] [0, 1] (by decide) rfl rfl (fun _ _ => trivial) ?_
  rintro _ _ ⟨rfl, rfl⟩
  refine OpsJ.yld rfl rfl rfl (Yld.not rfl rfl) ?_
  refine OpsJ.yld rfl rfl rfl (Yld.move rfl rfl) ?_
  refine OpsJ.splitB (s := 14) rfl (fun g14 => ?_) (fun g14 => ?_)
  · refine OpsJ.opF rfl rfl rfl rfl rfl rfl ?_
    refine OpsJ.opF rfl rfl rfl rfl rfl rfl ?_
    refine OpsJ.opF rfl rfl rfl rfl rfl rfl ?_
    refine OpsJ.opF rfl rfl rfl rfl rfl rfl ?_
    refine OpsJ.yld rfl rfl rfl (Yld.pickT rfl rfl rfl) ?_
    refine OpsJ.yld rfl rfl rfl (Yld.move rfl rfl) ?_
    refine OpsJ.opF rfl rfl rfl rfl rfl rfl ?_
    refine OpsJ.opF rfl rfl rfl rfl rfl rfl ?_
    refine OpsJ.opF rfl rfl rfl rfl rfl rfl ?_
    refine OpsJ.yld rfl rfl rfl (Yld.pickT rfl rfl rfl) ?_
    refine OpsJ.nil ?_
    refine ExJ.thenN ?_
    refine CodeJ.condT rfl ?_
    refine CodeJ.seq ?_
    refine CodeJ.region ?_
    refine OpsJ.yld rfl rfl rfl (Yld.assign rfl rfl) ?_
    refine OpsJ.nil ?_
    refine ExJ.thenN ?_
    refine CodeJ.ret ?_
    refine ExJ.thenR ?_
    exact ExJ.ret1 Tryd.results11 rfl ⟨rfl, rfl⟩ fun w hI => hI.pick (is := []) (by decide) rfl
  · refine OpsJ.opT rfl rfl rfl ?_
    refine OpJ.yld rfl rfl (Yld.fieldAddr fa_41_0 rfl rfl) ?_
    refine OpsJ.opT rfl rfl rfl ?_
    refine OpJ.yld rfl rfl (Yld.load1 rfl Tryd.underlying9 rfl rfl (fun w hI => Inv.cell1 hI (i := 0) rfl rfl)) ?_
    refine OpsJ.opT rfl rfl rfl ?_
    refine OpJ.call (nameOk_spec a.name (by omega)) has_18 rfl rfl rfl rfl rfl [] [0, 1] (by decide) rfl rfl (fun _ _ => trivial) ?_
    rintro _ _ ⟨rfl, rfl⟩
    refine OpsJ.opT rfl rfl rfl ?_
    refine OpJ.yld rfl rfl (Yld.not rfl rfl) ?_
    refine OpsJ.yld rfl rfl rfl (Yld.pickF rfl rfl rfl) ?_
    refine OpsJ.yld rfl rfl rfl (Yld.move rfl rfl) ?_
    refine OpsJ.splitB (s := 20) rfl (fun g20 => ?_) (fun g20 => ?_)
    · refine OpsJ.opF rfl rfl rfl rfl rfl rfl ?_
      refine OpsJ.opF rfl rfl rfl rfl rfl rfl ?_
      refine OpsJ.opF rfl rfl rfl rfl rfl rfl ?_
      refine OpsJ.yld rfl rfl rfl (Yld.pickT rfl rfl rfl) ?_
      refine OpsJ.nil ?_
      refine ExJ.thenN ?_
      refine CodeJ.condT rfl ?_
      refine CodeJ.seq ?_
      refine CodeJ.region ?_
      refine OpsJ.yld rfl rfl rfl (Yld.assign rfl rfl) ?_
      refine OpsJ.nil ?_
      refine ExJ.thenN ?_
      refine CodeJ.ret ?_
      refine ExJ.thenR ?_
      exact ExJ.ret1 Tryd.results11 rfl ⟨rfl, rfl⟩ fun w hI => hI.pick (is := []) (by decide) rfl
    · refine OpsJ.opT rfl rfl rfl ?_
      refine OpJ.yld rfl rfl (Yld.move rfl rfl) ?_
      refine OpsJ.opT rfl rfl rfl ?_
      refine OpJ.call (longLabel_spec s hs) has_24 rfl rfl rfl rfl rfl [] [0, 1] (by decide) rfl rfl (fun _ _ => trivial) ?_
      rintro _ _ ⟨rfl, rfl⟩
      refine OpsJ.opT rfl rfl rfl ?_
      refine OpJ.yld rfl rfl (Yld.not rfl rfl) ?_
      refine OpsJ.yld rfl rfl rfl (Yld.pickF rfl rfl rfl) ?_
      refine OpsJ.nil ?_
      refine ExJ.thenN ?_
      refine CodeJ.cond rfl (fun c24 => ?_) (fun c24 => ?_)
      · refine CodeJ.seq ?_
        refine CodeJ.region ?_
        refine OpsJ.yld rfl rfl rfl (Yld.assign rfl rfl) ?_
        refine OpsJ.nil ?_
        refine ExJ.thenN ?_
        refine CodeJ.ret ?_
        refine ExJ.thenR ?_
        exact ExJ.ret1 Tryd.results11 rfl ⟨rfl, rfl⟩ fun w hI => hI.pick (is := []) (by decide) rfl
      · have hno : nameOk a.name.data.toList = true := by simpa using g20
        have hlo : longLabel s.data.toList = true := by simpa using c24
        obtain ⟨hrun, hrf⟩ := refused_run h a ⟨s, 0, 0⟩ hno hlo
        refine CodeJ.skip ?_
        refine ExJ.thenN ?_
        refine CodeJ.seq ?_
        refine CodeJ.region ?_
        refine OpsJ.yld rfl rfl rfl (Yld.loadN (vs := a.cells) rfl Tryd.underlying41 rfl sz_41 rfl (fun w hI => Inv.whole hI (i := 0) rfl)) ?_
        refine OpsJ.yld rfl rfl rfl (build_ask a rfl rfl) ?_
        refine OpsJ.yld rfl rfl rfl (Yld.move rfl rfl) ?_
        refine OpsJ.yld rfl rfl rfl (build_named s rfl rfl) ?_
        refine OpsJ.yld rfl rfl rfl (build_ask ⟨s, 0, 0⟩ rfl rfl) ?_
        refine OpsJ.op rfl ?_
        refine OpJ.alloc rfl rfl rfl zero_49 fun gb hgb => ?_
        refine OpsJ.op rfl ?_
        refine OpJ.alloc rfl rfl rfl zero_49 fun bb hbb => ?_
        refine OpsJ.op rfl ?_
        refine OpJ.storeW (i := 1) rfl rfl rfl rfl sz_49 rfl rfl rfl ?_
        refine OpsJ.op rfl ?_
        refine OpJ.storeW (i := 0) rfl rfl rfl rfl sz_49 rfl rfl rfl ?_
        refine OpsJ.nil ?_
        refine ExJ.thenN ?_
        refine CodeJ.seq ?_
        refine CodeJ.region ?_
        refine OpsJ.yld rfl rfl rfl (Yld.loadN (vs := hdCs h) rfl Tryd.underlying24 rfl sz_24 rfl (fun w hI => Inv.whole hI (i := 3) rfl)) ?_
        refine OpsJ.yld rfl rfl rfl (Yld.build places_49 zero_49 rfl rfl rfl) ?_
        refine OpsJ.yld rfl rfl rfl (Yld.loadN (vs := (askStep a).cells) rfl Tryd.underlying49 rfl sz_49 rfl (fun w hI => Inv.whole hI (i := 1) rfl)) ?_
        refine OpsJ.yld rfl rfl rfl (Yld.loadN (vs := (askStep ⟨s, 0, 0⟩).cells) rfl Tryd.underlying49 rfl sz_49 rfl (fun w hI => Inv.whole hI (i := 0) rfl)) ?_
        refine OpsJ.yld rfl rfl rfl (Yld.loadN (vs := (askStep a).cells) rfl Tryd.underlying49 rfl sz_49 rfl (fun w hI => Inv.whole hI (i := 1) rfl)) ?_
        refine OpsJ.op rfl ?_
        refine OpJ.buildSlice (xs := [.tmp 31, .tmp 32, .tmp 33, .tmp 34]) elt_50 rfl rfl rfl rfl rfl rfl (by rfl) (by decide) fun st hst => ?_
        refine OpsJ.op rfl ?_
        refine OpJ.call (buildAsks_spec G h hw [] (.slice none 0 0) _ [mkStep 2, askStep a, askStep ⟨s, 0, 0⟩, askStep a] (by simp) (by simp) hrun) has_13 rfl rfl rfl rfl rfl [] [0, 1, 2, 3, 4] (by decide) rfl rfl (fun w hI => ⟨hge.call hI (is := []) rfl, .inl ⟨none, 0, rfl, rfl⟩, Own.row (hI.hs _ (List.mem_of_getElem? (i := 0) rfl)).1, fun s hs => by simp at hs; rcases hs with rfl | rfl | rfl | rfl <;> exact zRec_ok w⟩) ?_
        rintro _ _ ⟨p1, c1, p2, c2, rfl, rfl⟩
        rw [hrf]
        simp only
        refine OpsJ.op rfl ?_
        refine OpJ.alloc rfl rfl rfl zero_37 fun got hgot => ?_
        refine OpsJ.op rfl ?_
        refine OpJ.storeW (i := 0) rfl rfl rfl rfl sz_37 rfl rfl rfl ?_
        refine OpsJ.nil ?_
        refine ExJ.thenN ?_
        refine CodeJ.seq ?_
        refine CodeJ.seq ?_
        refine CodeJ.someOwn (i := 1) rfl (by decide) fun fb hfb _ => ?_
        subst hfb
        refine CodeJ.region ?_
        refine OpsJ.yld rfl rfl rfl (Yld.fieldAddr fa_37_0 rfl rfl) ?_
        refine OpsJ.yld rfl rfl rfl (Yld.load1 rfl Tryd.underlying35 rfl rfl (fun w hI => Inv.cell1 hI (i := 0) rfl rfl)) ?_
        refine OpsJ.yld rfl rfl rfl (Yld.lenSlice rfl rfl rfl Tryd.underlying35 rfl) ?_
        refine OpsJ.yld rfl rfl rfl (Yld.intBin rfl rfl rfl rfl) ?_
        refine OpsJ.yld rfl rfl rfl (Yld.move rfl rfl) ?_
        refine OpsJ.splitB (s := 41) rfl (fun g41 => ?_) (fun g41 => ?_)
        · exact absurd g41 (by decide)
        · refine OpsJ.opT rfl rfl rfl ?_
          refine OpJ.yld rfl rfl (Yld.fieldAddr fa_37_2 rfl rfl) ?_
          refine OpsJ.opT rfl rfl rfl ?_
          refine OpJ.yld rfl rfl (Yld.load1 rfl Tryd.underlying3 rfl rfl (fun w hI => Inv.cell1 hI (i := 0) rfl rfl)) ?_
          refine OpsJ.opT rfl rfl rfl ?_
          refine OpJ.yld rfl rfl (Yld.intBin rfl rfl rfl rfl) ?_
          refine OpsJ.yld rfl rfl rfl (Yld.pickF rfl rfl rfl) ?_
          refine OpsJ.yld rfl rfl rfl (Yld.move rfl rfl) ?_
          refine OpsJ.splitB (s := 46) rfl (fun g46 => ?_) (fun g46 => ?_)
          · exact absurd g46 (by decide)
          · refine OpsJ.opT rfl rfl rfl ?_
            refine OpJ.yld rfl rfl (Yld.fieldAddr fa_37_0 rfl rfl) ?_
            refine OpsJ.opT rfl rfl rfl ?_
            refine OpJ.yld rfl rfl (Yld.load1 rfl Tryd.underlying35 rfl rfl (fun w hI => Inv.cell1 hI (i := 0) rfl rfl)) ?_
            refine OpsJ.opT rfl rfl rfl ?_
            refine OpJ.yld rfl rfl (Yld.indexAddr (i := 1) rfl Tryd.underlying35 sz_3 rfl rfl (by decide)) ?_
            refine OpsJ.opT rfl rfl rfl ?_
            refine OpJ.yld rfl rfl (Yld.load1 rfl Tryd.underlying3 rfl rfl (fun w hI => (Own.cells (hI.hs _ (List.mem_of_getElem? (i := 1) rfl)).1 _ _ _ _ rfl).2.2.one (k := 1) rfl)) ?_
            refine OpsJ.opT rfl rfl rfl ?_
            refine OpJ.yld rfl rfl (Yld.intBin rfl rfl rfl rfl) ?_
            refine OpsJ.yld rfl rfl rfl (Yld.pickF rfl rfl rfl) ?_
            refine OpsJ.yld rfl rfl rfl (Yld.move rfl rfl) ?_
            refine OpsJ.splitB (s := 53) rfl (fun g53 => ?_) (fun g53 => ?_)
            · exact absurd g53 (by decide)
            · refine OpsJ.opT rfl rfl rfl ?_
              refine OpJ.yld rfl rfl (Yld.fieldAddr fa_37_0 rfl rfl) ?_
              refine OpsJ.opT rfl rfl rfl ?_
              refine OpJ.yld rfl rfl (Yld.load1 rfl Tryd.underlying35 rfl rfl (fun w hI => Inv.cell1 hI (i := 0) rfl rfl)) ?_
              refine OpsJ.opT rfl rfl rfl ?_
              refine OpJ.yld rfl rfl (Yld.indexAddr (i := 2) rfl Tryd.underlying35 sz_3 rfl rfl (by decide)) ?_
              refine OpsJ.opT rfl rfl rfl ?_
              refine OpJ.yld rfl rfl (Yld.load1 rfl Tryd.underlying3 rfl rfl (fun w hI => (Own.cells (hI.hs _ (List.mem_of_getElem? (i := 1) rfl)).1 _ _ _ _ rfl).2.2.one (k := 2) rfl)) ?_
              refine OpsJ.opT rfl rfl rfl ?_
              refine OpJ.yld rfl rfl (Yld.intBin rfl rfl rfl rfl) ?_
              refine OpsJ.yld rfl rfl rfl (Yld.pickF rfl rfl rfl) ?_
              refine OpsJ.yld rfl rfl rfl (Yld.move rfl rfl) ?_
              refine OpsJ.splitB (s := 60) rfl (fun g60 => ?_) (fun g60 => ?_)
              · exact absurd g60 (by decide)
              · refine OpsJ.opT rfl rfl rfl ?_
                refine OpJ.yld rfl rfl (Yld.fieldAddr fa_37_0 rfl rfl) ?_
                refine OpsJ.opT rfl rfl rfl ?_
                refine OpJ.yld rfl rfl (Yld.load1 rfl Tryd.underlying35 rfl rfl (fun w hI => Inv.cell1 hI (i := 0) rfl rfl)) ?_
                refine OpsJ.opT rfl rfl rfl ?_
                refine OpJ.yld rfl rfl (Yld.indexAddr (i := 3) rfl Tryd.underlying35 sz_3 rfl rfl (by decide)) ?_
                refine OpsJ.opT rfl rfl rfl ?_
                refine OpJ.yld rfl rfl (Yld.load1 rfl Tryd.underlying3 rfl rfl (fun w hI => (Own.cells (hI.hs _ (List.mem_of_getElem? (i := 1) rfl)).1 _ _ _ _ rfl).2.2.one (k := 3) rfl)) ?_
                refine OpsJ.opT rfl rfl rfl ?_
                refine OpJ.yld rfl rfl (Yld.intBin rfl rfl rfl rfl) ?_
                refine OpsJ.yld rfl rfl rfl (Yld.pickF rfl rfl rfl) ?_
                refine OpsJ.nil ?_
                refine ExJ.thenN ?_
                refine CodeJ.cond rfl (fun c66 => ?_) (fun c66 => ?_)
                · exact absurd c66 (by decide)
                · refine CodeJ.skip ?_
                  refine ExJ.thenN ?_
                  refine CodeJ.seq ?_
                  refine CodeJ.any (fuel := 10) (listed := #[false, false, false, false, false, false, false, false, false, false]) [0, 1, 2, 3, 4, 5, 6, 7] rfl follows_mixed rfl rfl ?_
                  refine AnyJ.take (fuel := 9) (listed' := #[true, false, false, false, false, false, false, false, false, false]) 0 rfl (by kernel_rfl) (by kernel_rfl) (by kernel_rfl) rfl rfl rfl rfl (Yld.fieldAddr fa_37_1 rfl rfl) (fun w hI => hI.pick (is := [0, 1, 2, 3, 4, 5, 6, 7]) (by decide) rfl) ?_
                  refine AnyJ.take (fuel := 8) (listed' := #[true, true, false, false, false, false, false, false, false, false]) 1 rfl (by kernel_rfl) (by kernel_rfl) (by kernel_rfl) rfl rfl rfl rfl (Yld.load1 rfl Tryd.underlying29 rfl rfl (fun w hI => Inv.cell1 hI (i := 0) rfl rfl)) (fun w hI => hI.pick (is := [0, 1, 2, 3, 4, 5, 6, 7]) (by decide) rfl) ?_
                  refine AnyJ.take (fuel := 7) (listed' := #[true, true, true, false, false, false, false, false, false, false]) 2 rfl (by kernel_rfl) (by kernel_rfl) (by kernel_rfl) rfl rfl rfl rfl (Yld.loadN (vs := hdCs h) rfl Tryd.underlying24 rfl sz_24 rfl (fun w hI => Inv.whole hI (i := 7) rfl)) (fun w hI => hI.pick (is := [0, 1, 2, 3, 4, 5, 6, 7]) (by decide) rfl) ?_
                  refine AnyJ.take (fuel := 6) (listed' := #[true, true, true, true, false, false, false, false, false, false]) 3 rfl (by kernel_rfl) (by kernel_rfl) (by kernel_rfl) rfl rfl rfl rfl (Yld.loadN (vs := a.cells) rfl Tryd.underlying41 rfl sz_41 rfl (fun w hI => Inv.whole hI (i := 6) rfl)) (fun w hI => hI.pick (is := [0, 1, 2, 3, 4, 5, 6, 7]) (by decide) rfl) ?_
                  refine AnyJ.take (fuel := 5) (listed' := #[true, true, true, true, true, false, false, false, false, false]) 4 rfl (by kernel_rfl) (by kernel_rfl) (by kernel_rfl) rfl rfl rfl rfl (Yld.loadN (vs := a.cells) rfl Tryd.underlying41 rfl sz_41 rfl (fun w hI => Inv.whole hI (i := 6) rfl)) (fun w hI => hI.pick (is := [0, 1, 2, 3, 4, 5, 6, 7]) (by decide) rfl) ?_
                  refine AnyJ.one (fuel := 4) 5 (by kernel_rfl) ?_
                  refine StepJ.op (listed' := #[true, true, true, true, true, true, false, false, false, false]) rfl rfl rfl ?_
                  refine OpJ.buildSlice (xs := [.tmp 70, .tmp 71]) elt_25 rfl rfl rfl rfl rfl rfl (by rfl) (by decide) fun al hal => ?_
                  refine ⟨fun w hI => hI.pick (is := [1, 2, 3, 4, 5, 6, 7, 8]) (by decide) rfl, ?_⟩
                  refine AnyJ.one (fuel := 3) 6 (by kernel_rfl) ?_
                  refine StepJ.op (listed' := #[true, true, true, true, true, true, true, false, false, false]) rfl rfl rfl ?_
                  refine OpJ.call (message_spec 0 ⟨h, .slice (some ⟨al, 0, none⟩) 2 2, [a, a], .slice none 0 0, [], .slice none 0 0, [], .slice none 0 0, []⟩ ⟨by simp, by simp, by simp, by simp, by simp⟩) has_20 rfl rfl rfl rfl rfl [] [0, 1, 2, 3, 4, 5, 6, 7, 8] (by decide) rfl rfl (fun w hI => ⟨Own.row (hI.hs _ (List.mem_of_getElem? (i := 0) rfl)).1, recs_nil _ _ _, recs_nil _ _ _, recs_nil _ _ _⟩) ?_
                  rintro _ _ ⟨m', q, bs, hq', rfl, hof, hmem, rfl⟩
                  refine ⟨fun w hI => hI.pick (is := [2, 3, 4, 5, 6, 7, 8, 9]) (by decide) rfl, ?_⟩
                  obtain ⟨va, v1, v2, v3, rfl⟩ := hof.nil
                  refine AnyJ.one (fuel := 2) 7 (by kernel_rfl) ?_
                  refine StepJ.op (listed' := #[true, true, true, true, true, true, true, true, false, false]) rfl rfl rfl ?_
                  refine OpJ.call (messageWire_spec K0 ⟨h, va, [a, a], v1, [], v2, [], v3, []⟩ hw K0.writes_nil (fun x hx => by simp at hx; subst hx; exact nameOk_size _ hno) ⟨by simp, by simp, by simp, by simp⟩) has_19 rfl rfl rfl rfl rfl [] [0, 1, 2, 3, 4, 5, 6, 7, 8, 9] (by decide) rfl rfl (fun w hI => (hmem w (hI.roGet (i := 0) rfl)).ok hof (by simp)) ?_
                  rintro _ _ ⟨p74, c74, rfl, rfl⟩
                  refine ⟨fun w hI => hI.pick (is := [3, 4, 5, 6, 7, 8, 9, 10]) (by decide) rfl, ?_⟩
                  refine AnyJ.one (fuel := 1) 8 (by kernel_rfl) ?_
                  refine StepJ.op (listed' := #[true, true, true, true, true, true, true, true, true, false]) rfl rfl rfl ?_
                  refine OpJ.call (same_spec _ _ _ (K0.wire ⟨h, va, [a, a], v1, [], v2, [], v3, []⟩)) has_17 rfl rfl rfl rfl rfl [] [0, 1, 2, 3, 4, 5, 6, 7, 8, 9, 10] (by decide) rfl rfl (fun w hI => ⟨Inv.bytes (k := 5) rfl w hI, Inv.bytes (k := 0) rfl w hI⟩) ?_
                  rintro _ _ ⟨rfl, rfl⟩
                  refine ⟨fun w hI => hI.pick (is := [3, 4, 5, 6, 7, 8, 9, 10]) (by decide) rfl, ?_⟩
                  refine AnyJ.take (fuel := 0) (listed' := #[true, true, true, true, true, true, true, true, true, true]) 9 rfl (by kernel_rfl) (by kernel_rfl) (by kernel_rfl) rfl rfl rfl rfl (Yld.assign rfl rfl) (fun w hI => hI.pick (is := [3, 4, 5, 6, 7, 8, 9, 10]) (by decide) rfl) ?_
                  refine AnyJ.done (by kernel_rfl) ?_
                  refine ExJ.thenN ?_
                  refine CodeJ.ret ?_
                  exact ExJ.ret1 Tryd.results11 rfl ⟨by rw [fin_asks h _ _ _ _ (by decide)]; simp [Kind.wire], rfl⟩ fun w hI => hI.pick (is := []) (by decide) rfl
end Go.Proofs.YtdiememgbnplkaaDoor
