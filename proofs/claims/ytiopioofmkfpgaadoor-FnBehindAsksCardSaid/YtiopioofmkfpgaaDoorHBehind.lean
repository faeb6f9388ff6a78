/-
  The law FnBehindAsks: its walk.
-/
import Derived.Test.YtiopioofmkfpgaaDoorBe
import Derived.Test.YtiopioofmkfpgaaDoorHAsks
import Derived.Test.YtiopioofmkfpgaaDoorBa
namespace Go.Proofs.YtiopioofmkfpgaaDoor
open Go
set_option maxRecDepth 100000

/-- a builder behind bytes -/
def Bd.sh (p : List UInt8) (b : Bd) : Bd := { b with buf := p ++ b.buf, start := p.length + b.start }
theorem askF_sh (p : List UInt8) (a : AskD) (on : Bool) (b : Bd) : askF a on (b.sh p) = ((askF a on b).1.sh p, (askF a on b).2) := by
  have e : (b.sh p).buf.length - (b.sh p).start = b.buf.length - b.start := by
    simp only [Bd.sh, List.length_append]
    omega
  unfold askF
  rw [e]
  by_cases h : b.sec < 2
  · rw [if_pos h, if_pos (show (b.sh p).sec < 2 from h)]
  · rw [if_neg h, if_neg (show ¬ (b.sh p).sec < 2 from h)]
    show (match packQ (b.buf.length - b.start) on (cut255 a.name) a.typ a.cls b.m with
      | .ok ys m' => ({ b.sh p with buf := (b.sh p).buf ++ ys, q := (b.sh p).q + 1, m := m' }, 0)
      | .err m' => ({ b.sh p with m := m' }, 3)) = _
    cases packQ (b.buf.length - b.start) on (cut255 a.name) a.typ a.cls b.m with
    | ok ys m' => simp [Bd.sh]
    | err m' => rfl
theorem stepF_sh (p : List UInt8) (s : StepD) (on : Bool) (b : Bd) : stepF noAdder s on (b.sh p) = ((stepF noAdder s on b).1, (stepF noAdder s on b).2.1.sh p, (stepF noAdder s on b).2.2) := by
  unfold stepF
  by_cases h1 : s.act = 1
  · simp only [if_pos h1]; rfl
  by_cases h2 : s.act = 2
  · simp only [if_neg h1, if_pos h2]; rfl
  by_cases h3 : s.act = 3
  · simp only [if_neg h1, if_neg h2, if_pos h3]; rfl
  by_cases h4 : s.act = 4
  · simp only [if_neg h1, if_neg h2, if_neg h3, if_pos h4]; rfl
  by_cases h5 : s.act = 5
  · simp only [if_neg h1, if_neg h2, if_neg h3, if_neg h4, if_pos h5]; rfl
  by_cases h6 : s.act = 6
  · simp only [if_neg h1, if_neg h2, if_neg h3, if_neg h4, if_neg h5, if_pos h6, askF_sh]
  by_cases h7 : s.act = 7
  · simp only [if_neg h1, if_neg h2, if_neg h3, if_neg h4, if_neg h5, if_neg h6, if_pos h7]; rfl
  · simp only [if_neg h1, if_neg h2, if_neg h3, if_neg h4, if_neg h5, if_neg h6, if_neg h7]
theorem runF_sh (p : List UInt8) : ∀ (ss : List StepD) (on : Bool) (b : Bd), runF noAdder ss on (b.sh p) = ((runF noAdder ss on b).1.sh p, (runF noAdder ss on b).2)
  | [], _, _ => rfl
  | s :: r, on, b => by
    simp only [runF, stepF_sh, runF_sh p r]
theorem newB_sh (p : List UInt8) (h : Hd) : newB p h = (newB [] h).sh p := by simp [newB, Bd.sh]
theorem fin_sh (p : List UInt8) (b : Bd) : (b.sh p).fin = p ++ b.fin := by
  have e1 : (p ++ b.buf).take (p.length + b.start) = p ++ b.buf.take b.start := by
    rw [List.take_append, List.take_of_length_le (by omega), Nat.add_sub_cancel_left]
  have e2 : (p ++ b.buf).drop (p.length + b.start + 12) = b.buf.drop (b.start + 12) := by
    rw [Nat.add_assoc, ← List.drop_drop, List.drop_left' rfl]
  simp only [Bd.fin, Bd.sh, e1, e2, List.append_assoc]
theorem newB_okP (p : List UInt8) (h : Hd) (hp : p.length ≤ 140737488355328) : BdOk (newB p h) := ⟨by simp [newB], by simp [newB, zero12], by simp [newB, zero12]; omega, by simp [newB]⟩

theorem asks_okP (p : List UInt8) (hp : p.length ≤ 140737488355328) (h : Hd) (on : Bool) (qs : List AskD) (hn : ∀ a ∈ qs, nameOk a.name.data.toList = true) (hl : qs.length < 60000) : RunOk noAdder (stepsL on qs (List.replicate 2 [])) false (newB p h) := by
  have hb0 := newB_okP p h hp
  have key : ∀ on', RunOk noAdder (qs.map askStep ++ secSteps 0 (List.replicate 2 [])) on' { newB p h with sec := 2 } := by
    intro on'
    obtain ⟨ys, m', hb, hw, hy, hr, hf⟩ := asks_run noAdder on' (secSteps 0 (List.replicate 2 [])) qs { newB p h with sec := 2 } hn rfl (hb0.sec_ (by decide)) (by simp [newB]; omega) (by simp [newB, zero12]; omega)
    have h3 := hb.sec_ (k := 3) (by decide)
    have h4 := hb.sec_ (k := 4) (by decide)
    exact hr ⟨ok_mk _ 3 _ _ hb (Nat.le_of_ble_eq_true rfl) (by decide), ok_mk _ 4 _ _ h3 (Nat.le_of_ble_eq_true rfl) (by decide), h4⟩
  cases on
  · exact ⟨ok_mk _ 2 _ _ hb0 (Nat.le_of_ble_eq_true rfl) (by decide), key false⟩
  · exact ⟨ok_on _ _ _ hb0, ok_mk _ 2 _ _ hb0.off (Nat.le_of_ble_eq_true rfl) (by decide), key true⟩

theorem parts2 {w : World} {T b : Nat} {u v : Value} {xs ys : List UInt8} (h : Own w T 1 (.slice (some ⟨b, 0, none⟩) 2 2) 2 [u, v]) (hx : Bytes w u xs) (hy : Bytes w v ys) : Parts w (.slice (some ⟨b, 0, none⟩) 2 2) [xs, ys] := by
  refine ⟨b, 2, [u, v], rfl, rfl, (Own.cells h _ _ _ _ rfl).2.2, fun i z ps h1 h2 => ?_⟩
  match i with
  | 0 => simp at h1 h2; subst h1 h2; exact hx
  | 1 => simp at h1 h2; subst h1 h2; exact hy
  | i + 2 => simp at h1

theorem behind_spec (G : GEnv) (pre : List UInt8) (bufV : Value) (hpre : pre.length ≤ 140737488351232) (sh : Bool) (h : Hd) (hw : h.wf) (qs : List AskD) (av : Value) (hq : ∀ a ∈ qs, a.wf) (hn : qs.length * 24 ≤ 140737488351232) :
    Spec Tryd.prog 15 [.func (.func 16) #[] #[], .int .i64 0, bufV, .bool sh, .agg (hdCs h).toArray, av, .slice none 0 0, .slice none 0 0] [] (fun w => GE G w [] ∧ Bytes w bufV pre ∧ Asks w av qs) (fun r H' => r = .bool true ∧ H' = []) := by
  refine Spec.of Tryd.func15 rfl Tryd.ntmps15 rfl fun w0 hR => ?_
  obtain ⟨hge, hbuf, hask⟩ := hR
  obtain ⟨pb, cb, rfl⟩ := hbuf.shape
  refine CodeJ.seq ?_
  refine CodeJ.region ?_
  refine OpsJ.op rfl ?_
  refine OpJ.box rfl rfl rfl rfl fun hd hhd => ?_
  refine OpsJ.yld rfl rfl rfl (Yld.assign rfl rfl) ?_
  refine OpsJ.nil ?_
  refine ExJ.thenN ?_
  refine CodeJ.seq ?_
  refine CodeJ.seq ?_
  refine CodeJ.region ?_
  refine OpsJ.yld rfl rfl rfl (Yld.move rfl rfl) ?_
  refine OpsJ.yld rfl rfl rfl (Yld.loadN (vs := hdCs h) rfl Tryd.underlying25 rfl sz_25 rfl (fun w hI => Inv.whole hI (i := 0) rfl)) ?_
  refine OpsJ.yld rfl rfl rfl (Yld.move rfl rfl) ?_
  refine OpsJ.yld rfl rfl rfl (Yld.move rfl rfl) ?_
  refine OpsJ.yld rfl rfl rfl (Yld.move rfl rfl) ?_
  refine OpsJ.op rfl ?_
  refine OpJ.call (message_spec 0 ⟨h, av, qs, .slice none 0 0, [], .slice none 0 0, [], .slice none 0 0, []⟩ ⟨hn, by simp, by simp, by simp, by simp⟩) has_21 rfl rfl rfl rfl rfl [] [0] (by decide) rfl rfl (fun w hI => ⟨Row.keep0 hask hI.keep, recs_nil _ _ _, recs_nil _ _ _, recs_nil _ _ _⟩) ?_
  rintro _ _ ⟨m', q, bs, hq', rfl, hof, hmem, rfl⟩
  obtain ⟨va, v1, v2, v3, rfl⟩ := hof.nil
  refine OpsJ.op rfl ?_
  refine OpJ.alloc rfl rfl rfl zero_43 fun mb hmb => ?_
  refine OpsJ.op rfl ?_
  refine OpJ.storeW (i := 0) rfl rfl rfl rfl sz_43 rfl hof.ones rfl ?_
  refine OpsJ.nil ?_
  refine ExJ.thenN ?_
  refine CodeJ.seq ?_
  refine CodeJ.region ?_
  refine OpsJ.yld rfl rfl rfl (Yld.loadN (vs := MsgD.cells ⟨h, va, qs, v1, [], v2, [], v3, []⟩) rfl Tryd.underlying43 rfl sz_43 rfl (fun w hI => Inv.whole hI (i := 0) rfl)) ?_
  refine OpsJ.op rfl ?_
  refine OpJ.call (ok_spec K0 ⟨h, va, qs, v1, [], v2, [], v3, []⟩ K0.meets_nil (fun a ha => by have := (hq a ha).2.2; omega) (by simp) (by simp; omega)) has_22 rfl rfl rfl rfl rfl [] [0, 1, 2] (by decide) rfl rfl (fun w hI => (hmem w (hI.roGet (i := 1) rfl)).ok hof (by simp)) ?_
  rintro _ _ ⟨rfl, rfl⟩
  refine OpsJ.yld rfl rfl rfl (Yld.not rfl rfl) ?_
  refine OpsJ.nil ?_
  refine ExJ.thenN ?_
  refine CodeJ.cond rfl (fun c29 => ?_) (fun c29 => ?_)
  · refine CodeJ.seq ?_
    refine CodeJ.region ?_
    refine OpsJ.yld rfl rfl rfl (Yld.assign rfl rfl) ?_
    refine OpsJ.nil ?_
    refine ExJ.thenN ?_
    refine CodeJ.ret ?_
    refine ExJ.thenR ?_
    exact ExJ.ret1 Tryd.results15 rfl ⟨rfl, rfl⟩ fun w hI => hI.pick (is := []) (by decide) rfl
  · obtain ⟨hall, hlt, _⟩ := ok_asks (by simpa using c29)
    obtain ⟨ys, mt, hrun, hrf, hyl, _⟩ := asks_all h sh 2 (by decide) qs hall hlt
    have hsl : (stepsL sh qs (List.replicate 2 [])).length ≤ qs.length + 4 := by cases sh <;> simp [stepsL, secSteps, List.replicate]
    have hrunP := asks_okP pre (by omega) h sh qs hall hlt
    have hrfP : runF noAdder (stepsL sh qs (List.replicate 2 [])) false (newB pre h) = (Bd.sh pre { newB [] h with buf := zero12 ++ ys, sec := 2 + 2, q := qs.length, m := mt }, List.replicate (stepsL sh qs (List.replicate 2 [])).length 0) := by rw [newB_sh, runF_sh, hrf]
    have hfin : ({ newB [] h with buf := zero12 ++ ys, sec := 2 + 2, q := qs.length, m := mt } : Bd).fin = headWire h [qs.length, 0, 0, 0] ++ ys := fin_asks h ys _ _ mt (by omega)
    refine CodeJ.skip ?_
    refine ExJ.thenN ?_
    refine CodeJ.seq ?_
    refine CodeJ.region ?_
    refine OpsJ.yld rfl rfl rfl (Yld.move rfl rfl) ?_
    refine OpsJ.yld rfl rfl rfl (Yld.move rfl rfl) ?_
    refine OpsJ.yld rfl rfl rfl (Yld.move rfl rfl) ?_
    refine OpsJ.yld rfl rfl rfl (Yld.move rfl rfl) ?_
    refine OpsJ.op rfl ?_
    refine OpJ.buildSlice (xs := [.tmp 32, .tmp 33]) elt_93 rfl rfl rfl rfl rfl rfl (by rfl) (by decide) fun lists hlists => ?_
    refine OpsJ.op rfl ?_
    refine OpJ.call (steps_spec sh qs (List.replicate 2 []) av _ [.slice none 0 0, .slice none 0 0] rfl (by omega)) has_24 rfl rfl rfl rfl rfl [] [0, 1, 2, 3] (by decide) rfl rfl (fun w hI => ⟨Row.keep0 hask hI.keep, Own.row (hI.hs _ (List.mem_of_getElem? (i := 0) rfl)).1, fun i v rs h1 h2 => by obtain rfl := List.eq_of_mem_replicate (List.mem_of_getElem? h2); have := List.mem_of_getElem? h1; simp at this; subst this; exact recs_nil _ _ _⟩) ?_
    rintro _ _ ⟨p35, c35, rfl, rfl⟩
    refine OpsJ.yld rfl rfl rfl (Yld.assign rfl rfl) ?_
    refine OpsJ.nil ?_
    refine ExJ.thenN ?_
    refine CodeJ.cutP (fun L H => ∃ (p1 p2 p3 p4 : Option Addr) (c1 c2 c3 c4 g1 g2 : Nat), L = [(2, .slice pb pre.length cb), (18, .slice p35 (stepsL sh qs (List.replicate 2 [])).length c35), (19, .pointer (some ⟨g1, 0, none⟩)), (20, .pointer (some ⟨g2, 0, none⟩))] ∧
    H = [.blk g1 #[.slice p1 (List.replicate (stepsL sh qs (List.replicate 2 [])).length 0).length c1, .slice p2 (Bd.sh pre { newB [] h with buf := zero12 ++ ys, sec := 2 + 2, q := qs.length, m := mt }).fin.length c2, .int .i64 0] 54, ownI 3 (.slice p1 (List.replicate (stepsL sh qs (List.replicate 2 [])).length 0).length c1) (List.replicate (stepsL sh qs (List.replicate 2 [])).length 0), ownB 5 (.slice p2 (Bd.sh pre { newB [] h with buf := zero12 ++ ys, sec := 2 + 2, q := qs.length, m := mt }).fin.length c2) (Bd.sh pre { newB [] h with buf := zero12 ++ ys, sec := 2 + 2, q := qs.length, m := mt }).fin,
      .blk g2 #[.slice p3 (List.replicate (stepsL sh qs (List.replicate 2 [])).length 0).length c3, .slice p4 ({ newB [] h with buf := zero12 ++ ys, sec := 2 + 2, q := qs.length, m := mt } : Bd).fin.length c4, .int .i64 0] 54, ownI 3 (.slice p3 (List.replicate (stepsL sh qs (List.replicate 2 [])).length 0).length c3) (List.replicate (stepsL sh qs (List.replicate 2 [])).length 0), ownB 5 (.slice p4 ({ newB [] h with buf := zero12 ++ ys, sec := 2 + 2, q := qs.length, m := mt } : Bd).fin.length c4) ({ newB [] h with buf := zero12 ++ ys, sec := 2 + 2, q := qs.length, m := mt } : Bd).fin]) ?_ ?_
    · refine CodeJ.any (fuel := 13) (listed := #[false, false, false, false, false, false, false, false, false, false, false, false, false]) [0, 1, 2, 3, 4] rfl follows_mixed rfl rfl ?_
      refine AnyJ.take (fuel := 12) (listed' := #[true, false, false, false, false, false, false, false, false, false, false, false, false]) 0 rfl (by kernel_rfl) (by kernel_rfl) (by kernel_rfl) rfl rfl rfl rfl (Yld.move rfl rfl) (fun w hI => hI.pick (is := [0, 1, 2, 3, 4]) (by decide) rfl) ?_
      refine AnyJ.take (fuel := 11) (listed' := #[true, true, false, false, false, false, false, false, false, false, false, false, false]) 1 rfl (by kernel_rfl) (by kernel_rfl) (by kernel_rfl) rfl rfl rfl rfl (Yld.move rfl rfl) (fun w hI => hI.pick (is := [0, 1, 2, 3, 4]) (by decide) rfl) ?_
      refine AnyJ.take (fuel := 10) (listed' := #[true, true, true, false, false, false, false, false, false, false, false, false, false]) 2 rfl (by kernel_rfl) (by kernel_rfl) (by kernel_rfl) rfl rfl rfl rfl (Yld.loadN (vs := hdCs h) rfl Tryd.underlying25 rfl sz_25 rfl (fun w hI => Inv.whole hI (i := 4) rfl)) (fun w hI => hI.pick (is := [0, 1, 2, 3, 4]) (by decide) rfl) ?_
      refine AnyJ.take (fuel := 9) (listed' := #[true, true, true, true, false, false, false, false, false, false, false, false, false]) 3 rfl (by kernel_rfl) (by kernel_rfl) (by kernel_rfl) rfl rfl rfl rfl (Yld.move rfl rfl) (fun w hI => hI.pick (is := [0, 1, 2, 3, 4]) (by decide) rfl) ?_
      refine AnyJ.take (fuel := 8) (listed' := #[true, true, true, true, false, true, false, false, false, false, false, false, false]) 5 rfl (by kernel_rfl) (by kernel_rfl) (by kernel_rfl) rfl rfl rfl rfl (Yld.move rfl rfl) (fun w hI => hI.pick (is := [0, 1, 2, 3, 4]) (by decide) rfl) ?_
      refine AnyJ.take (fuel := 7) (listed' := #[true, true, true, true, false, true, true, false, false, false, false, false, false]) 6 rfl (by kernel_rfl) (by kernel_rfl) (by kernel_rfl) rfl rfl rfl rfl (Yld.loadN (vs := hdCs h) rfl Tryd.underlying25 rfl sz_25 rfl (fun w hI => Inv.whole hI (i := 4) rfl)) (fun w hI => hI.pick (is := [0, 1, 2, 3, 4]) (by decide) rfl) ?_
      refine AnyJ.take (fuel := 6) (listed' := #[true, true, true, true, false, true, true, true, false, false, false, false, false]) 7 rfl (by kernel_rfl) (by kernel_rfl) (by kernel_rfl) rfl rfl rfl rfl (Yld.move rfl rfl) (fun w hI => hI.pick (is := [0, 1, 2, 3, 4]) (by decide) rfl) ?_
      refine AnyJ.three (fuel := 5) 4 9 10 (by kernel_rfl) ?_ ?_ ?_
      · refine StepJ.op (listed' := #[true, true, true, true, true, true, true, true, false, false, false, false, false]) rfl rfl rfl ?_
        refine OpJ.call (buildAsks_spec G h hw pre _ _ (stepsL sh qs (List.replicate 2 [])) (by omega) (by omega) hrunP) has_16 rfl rfl rfl rfl rfl [] [0, 1, 2, 3, 4] (by decide) rfl rfl (fun w hI => ⟨hge.call hI (is := []) rfl, hbuf.keep hI.keep (by simp [fp]), Own.row (hI.hs _ (List.mem_of_getElem? (i := 0) rfl)).1, stepsL_rec (fun l hl r hr => by obtain rfl := List.eq_of_mem_replicate hl; cases hr)⟩) ?_
        rintro _ _ ⟨p1, c1, p2, c2, rfl, rfl⟩
        refine ⟨fun w hI => hI.pick (is := [2, 3, 4, 5, 6]) (by decide) rfl, ?_⟩
        rw [hrfP]
        simp only
        refine AnyJ.three (fuel := 4) 8 9 10 (by kernel_rfl) ?_ ?_ ?_
        · refine StepJ.op (listed' := #[true, true, true, true, true, true, true, true, true, false, false, false, false]) rfl rfl rfl ?_
          refine OpJ.call (buildAsks_spec G h hw [] (.slice none 0 0) _ (stepsL sh qs (List.replicate 2 [])) (by omega) (by simp) hrun) has_16 rfl rfl rfl rfl rfl [] [0, 1, 2, 3, 4, 5, 6] (by decide) rfl rfl (fun w hI => ⟨hge.call hI (is := []) rfl, .inl ⟨none, 0, rfl, rfl⟩, Own.row (hI.hs _ (List.mem_of_getElem? (i := 2) rfl)).1, stepsL_rec (fun l hl r hr => by obtain rfl := List.eq_of_mem_replicate hl; cases hr)⟩) ?_
          rintro _ _ ⟨p3, c3, p4, c4, rfl, rfl⟩
          refine ⟨fun w hI => hI.pick (is := [4, 5, 6, 7, 8]) (by decide) rfl, ?_⟩
          rw [hrf]
          simp only
          refine AnyJ.two (fuel := 3) 9 10 (by kernel_rfl) ?_ ?_
          · refine StepJ.op (listed' := #[true, true, true, true, true, true, true, true, true, true, false, false, false]) rfl rfl rfl ?_
            refine OpJ.alloc rfl rfl rfl zero_54 fun g1 hg1 => ?_
            refine ⟨fun w hI => hI.pick (is := [5, 6, 7, 8, 9]) (by decide) rfl, ?_⟩
            refine AnyJ.one (fuel := 2) 10 (by kernel_rfl) ?_
            refine StepJ.op (listed' := #[true, true, true, true, true, true, true, true, true, true, true, false, false]) rfl rfl rfl ?_
            refine OpJ.alloc rfl rfl rfl zero_54 fun g2 hg2 => ?_
            refine ⟨fun w hI => hI.pick (is := [6, 7, 8, 9, 10]) (by decide) rfl, ?_⟩
            refine AnyJ.one (fuel := 1) 11 (by kernel_rfl) ?_
            refine StepJ.op (listed' := #[true, true, true, true, true, true, true, true, true, true, true, true, false]) rfl rfl rfl ?_
            refine OpJ.storeW (i := 1) rfl rfl rfl rfl sz_54 rfl rfl rfl ?_
            refine ⟨fun w hI => hI.pick (is := [6, 7, 8, 9, 10]) (by decide) rfl, ?_⟩
            refine AnyJ.one (fuel := 0) 12 (by kernel_rfl) ?_
            refine StepJ.op (listed' := #[true, true, true, true, true, true, true, true, true, true, true, true, true]) rfl rfl rfl ?_
            refine OpJ.storeW (i := 0) rfl rfl rfl rfl sz_54 rfl rfl rfl ?_
            refine ⟨fun w hI => hI.pick (is := [6, 7, 8, 9, 10]) (by decide) rfl, ?_⟩
            refine AnyJ.done (by kernel_rfl) ?_
            exact ExJ.meetP ⟨p1, p2, p3, p4, c1, c2, c3, c4, g1, g2, rfl, rfl⟩ ⟨rfl, rfl, rfl, rfl, trivial⟩ fun w hI => hI.pick (is := [1, 4, 5, 0, 2, 3]) (by decide) rfl
          · refine StepJ.op (listed' := #[true, true, true, true, true, true, true, true, true, false, true, false, false]) rfl rfl rfl ?_
            refine OpJ.alloc rfl rfl rfl zero_54 fun g2 hg2 => ?_
            refine ⟨fun w hI => hI.pick (is := [5, 6, 7, 8, 9]) (by decide) rfl, ?_⟩
            refine AnyJ.one (fuel := 2) 9 (by kernel_rfl) ?_
            refine StepJ.op (listed' := #[true, true, true, true, true, true, true, true, true, true, true, false, false]) rfl rfl rfl ?_
            refine OpJ.alloc rfl rfl rfl zero_54 fun g1 hg1 => ?_
            refine ⟨fun w hI => hI.pick (is := [6, 7, 8, 9, 10]) (by decide) rfl, ?_⟩
            refine AnyJ.one (fuel := 1) 11 (by kernel_rfl) ?_
            refine StepJ.op (listed' := #[true, true, true, true, true, true, true, true, true, true, true, true, false]) rfl rfl rfl ?_
            refine OpJ.storeW (i := 0) rfl rfl rfl rfl sz_54 rfl rfl rfl ?_
            refine ⟨fun w hI => hI.pick (is := [6, 7, 8, 9, 10]) (by decide) rfl, ?_⟩
            refine AnyJ.one (fuel := 0) 12 (by kernel_rfl) ?_
            refine StepJ.op (listed' := #[true, true, true, true, true, true, true, true, true, true, true, true, true]) rfl rfl rfl ?_
            refine OpJ.storeW (i := 1) rfl rfl rfl rfl sz_54 rfl rfl rfl ?_
            refine ⟨fun w hI => hI.pick (is := [6, 7, 8, 9, 10]) (by decide) rfl, ?_⟩
            refine AnyJ.done (by kernel_rfl) ?_
            exact ExJ.meetP ⟨p1, p2, p3, p4, c1, c2, c3, c4, g1, g2, rfl, rfl⟩ ⟨rfl, rfl, rfl, rfl, trivial⟩ fun w hI => hI.pick (is := [0, 4, 5, 1, 2, 3]) (by decide) rfl
        · refine StepJ.op (listed' := #[true, true, true, true, true, true, true, true, false, true, false, false, false]) rfl rfl rfl ?_
          refine OpJ.alloc rfl rfl rfl zero_54 fun g1 hg1 => ?_
          refine ⟨fun w hI => hI.pick (is := [3, 4, 5, 6, 7]) (by decide) rfl, ?_⟩
          refine AnyJ.two (fuel := 3) 8 10 (by kernel_rfl) ?_ ?_
          · refine StepJ.op (listed' := #[true, true, true, true, true, true, true, true, true, true, false, false, false]) rfl rfl rfl ?_
            refine OpJ.call (buildAsks_spec G h hw [] (.slice none 0 0) _ (stepsL sh qs (List.replicate 2 [])) (by omega) (by simp) hrun) has_16 rfl rfl rfl rfl rfl [] [0, 1, 2, 3, 4, 5, 6, 7] (by decide) rfl rfl (fun w hI => ⟨hge.call hI (is := []) rfl, .inl ⟨none, 0, rfl, rfl⟩, Own.row (hI.hs _ (List.mem_of_getElem? (i := 3) rfl)).1, stepsL_rec (fun l hl r hr => by obtain rfl := List.eq_of_mem_replicate hl; cases hr)⟩) ?_
            rintro _ _ ⟨p3, c3, p4, c4, rfl, rfl⟩
            refine ⟨fun w hI => hI.pick (is := [5, 6, 7, 8, 9]) (by decide) rfl, ?_⟩
            rw [hrf]
            simp only
            refine AnyJ.one (fuel := 2) 10 (by kernel_rfl) ?_
            refine StepJ.op (listed' := #[true, true, true, true, true, true, true, true, true, true, true, false, false]) rfl rfl rfl ?_
            refine OpJ.alloc rfl rfl rfl zero_54 fun g2 hg2 => ?_
            refine ⟨fun w hI => hI.pick (is := [6, 7, 8, 9, 10]) (by decide) rfl, ?_⟩
            refine AnyJ.one (fuel := 1) 11 (by kernel_rfl) ?_
            refine StepJ.op (listed' := #[true, true, true, true, true, true, true, true, true, true, true, true, false]) rfl rfl rfl ?_
            refine OpJ.storeW (i := 3) rfl rfl rfl rfl sz_54 rfl rfl rfl ?_
            refine ⟨fun w hI => hI.pick (is := [6, 7, 8, 9, 10]) (by decide) rfl, ?_⟩
            refine AnyJ.one (fuel := 0) 12 (by kernel_rfl) ?_
            refine StepJ.op (listed' := #[true, true, true, true, true, true, true, true, true, true, true, true, true]) rfl rfl rfl ?_
            refine OpJ.storeW (i := 0) rfl rfl rfl rfl sz_54 rfl rfl rfl ?_
            refine ⟨fun w hI => hI.pick (is := [6, 7, 8, 9, 10]) (by decide) rfl, ?_⟩
            refine AnyJ.done (by kernel_rfl) ?_
            exact ExJ.meetP ⟨p1, p2, p3, p4, c1, c2, c3, c4, g1, g2, rfl, rfl⟩ ⟨rfl, rfl, rfl, rfl, trivial⟩ fun w hI => hI.pick (is := [3, 4, 5, 0, 1, 2]) (by decide) rfl
          · refine StepJ.op (listed' := #[true, true, true, true, true, true, true, true, false, true, true, false, false]) rfl rfl rfl ?_
            refine OpJ.alloc rfl rfl rfl zero_54 fun g2 hg2 => ?_
            refine ⟨fun w hI => hI.pick (is := [4, 5, 6, 7, 8]) (by decide) rfl, ?_⟩
            refine AnyJ.one (fuel := 2) 8 (by kernel_rfl) ?_
            refine StepJ.op (listed' := #[true, true, true, true, true, true, true, true, true, true, true, false, false]) rfl rfl rfl ?_
            refine OpJ.call (buildAsks_spec G h hw [] (.slice none 0 0) _ (stepsL sh qs (List.replicate 2 [])) (by omega) (by simp) hrun) has_16 rfl rfl rfl rfl rfl [] [0, 1, 2, 3, 4, 5, 6, 7, 8] (by decide) rfl rfl (fun w hI => ⟨hge.call hI (is := []) rfl, .inl ⟨none, 0, rfl, rfl⟩, Own.row (hI.hs _ (List.mem_of_getElem? (i := 4) rfl)).1, stepsL_rec (fun l hl r hr => by obtain rfl := List.eq_of_mem_replicate hl; cases hr)⟩) ?_
            rintro _ _ ⟨p3, c3, p4, c4, rfl, rfl⟩
            refine ⟨fun w hI => hI.pick (is := [6, 7, 8, 9, 10]) (by decide) rfl, ?_⟩
            rw [hrf]
            simp only
            refine AnyJ.one (fuel := 1) 11 (by kernel_rfl) ?_
            refine StepJ.op (listed' := #[true, true, true, true, true, true, true, true, true, true, true, true, false]) rfl rfl rfl ?_
            refine OpJ.storeW (i := 3) rfl rfl rfl rfl sz_54 rfl rfl rfl ?_
            refine ⟨fun w hI => hI.pick (is := [6, 7, 8, 9, 10]) (by decide) rfl, ?_⟩
            refine AnyJ.one (fuel := 0) 12 (by kernel_rfl) ?_
            refine StepJ.op (listed' := #[true, true, true, true, true, true, true, true, true, true, true, true, true]) rfl rfl rfl ?_
            refine OpJ.storeW (i := 2) rfl rfl rfl rfl sz_54 rfl rfl rfl ?_
            refine ⟨fun w hI => hI.pick (is := [6, 7, 8, 9, 10]) (by decide) rfl, ?_⟩
            refine AnyJ.done (by kernel_rfl) ?_
            exact ExJ.meetP ⟨p1, p2, p3, p4, c1, c2, c3, c4, g1, g2, rfl, rfl⟩ ⟨rfl, rfl, rfl, rfl, trivial⟩ fun w hI => hI.pick (is := [3, 4, 5, 2, 0, 1]) (by decide) rfl
        · refine StepJ.op (listed' := #[true, true, true, true, true, true, true, true, false, false, true, false, false]) rfl rfl rfl ?_
          refine OpJ.alloc rfl rfl rfl zero_54 fun g2 hg2 => ?_
          refine ⟨fun w hI => hI.pick (is := [3, 4, 5, 6, 7]) (by decide) rfl, ?_⟩
          refine AnyJ.two (fuel := 3) 8 9 (by kernel_rfl) ?_ ?_
          · refine StepJ.op (listed' := #[true, true, true, true, true, true, true, true, true, false, true, false, false]) rfl rfl rfl ?_
            refine OpJ.call (buildAsks_spec G h hw [] (.slice none 0 0) _ (stepsL sh qs (List.replicate 2 [])) (by omega) (by simp) hrun) has_16 rfl rfl rfl rfl rfl [] [0, 1, 2, 3, 4, 5, 6, 7] (by decide) rfl rfl (fun w hI => ⟨hge.call hI (is := []) rfl, .inl ⟨none, 0, rfl, rfl⟩, Own.row (hI.hs _ (List.mem_of_getElem? (i := 3) rfl)).1, stepsL_rec (fun l hl r hr => by obtain rfl := List.eq_of_mem_replicate hl; cases hr)⟩) ?_
            rintro _ _ ⟨p3, c3, p4, c4, rfl, rfl⟩
            refine ⟨fun w hI => hI.pick (is := [5, 6, 7, 8, 9]) (by decide) rfl, ?_⟩
            rw [hrf]
            simp only
            refine AnyJ.one (fuel := 2) 9 (by kernel_rfl) ?_
            refine StepJ.op (listed' := #[true, true, true, true, true, true, true, true, true, true, true, false, false]) rfl rfl rfl ?_
            refine OpJ.alloc rfl rfl rfl zero_54 fun g1 hg1 => ?_
            refine ⟨fun w hI => hI.pick (is := [6, 7, 8, 9, 10]) (by decide) rfl, ?_⟩
            refine AnyJ.one (fuel := 1) 11 (by kernel_rfl) ?_
            refine StepJ.op (listed' := #[true, true, true, true, true, true, true, true, true, true, true, true, false]) rfl rfl rfl ?_
            refine OpJ.storeW (i := 0) rfl rfl rfl rfl sz_54 rfl rfl rfl ?_
            refine ⟨fun w hI => hI.pick (is := [6, 7, 8, 9, 10]) (by decide) rfl, ?_⟩
            refine AnyJ.one (fuel := 0) 12 (by kernel_rfl) ?_
            refine StepJ.op (listed' := #[true, true, true, true, true, true, true, true, true, true, true, true, true]) rfl rfl rfl ?_
            refine OpJ.storeW (i := 3) rfl rfl rfl rfl sz_54 rfl rfl rfl ?_
            refine ⟨fun w hI => hI.pick (is := [6, 7, 8, 9, 10]) (by decide) rfl, ?_⟩
            refine AnyJ.done (by kernel_rfl) ?_
            exact ExJ.meetP ⟨p1, p2, p3, p4, c1, c2, c3, c4, g1, g2, rfl, rfl⟩ ⟨rfl, rfl, rfl, rfl, trivial⟩ fun w hI => hI.pick (is := [0, 4, 5, 3, 1, 2]) (by decide) rfl
          · refine StepJ.op (listed' := #[true, true, true, true, true, true, true, true, false, true, true, false, false]) rfl rfl rfl ?_
            refine OpJ.alloc rfl rfl rfl zero_54 fun g1 hg1 => ?_
            refine ⟨fun w hI => hI.pick (is := [4, 5, 6, 7, 8]) (by decide) rfl, ?_⟩
            refine AnyJ.one (fuel := 2) 8 (by kernel_rfl) ?_
            refine StepJ.op (listed' := #[true, true, true, true, true, true, true, true, true, true, true, false, false]) rfl rfl rfl ?_
            refine OpJ.call (buildAsks_spec G h hw [] (.slice none 0 0) _ (stepsL sh qs (List.replicate 2 [])) (by omega) (by simp) hrun) has_16 rfl rfl rfl rfl rfl [] [0, 1, 2, 3, 4, 5, 6, 7, 8] (by decide) rfl rfl (fun w hI => ⟨hge.call hI (is := []) rfl, .inl ⟨none, 0, rfl, rfl⟩, Own.row (hI.hs _ (List.mem_of_getElem? (i := 4) rfl)).1, stepsL_rec (fun l hl r hr => by obtain rfl := List.eq_of_mem_replicate hl; cases hr)⟩) ?_
            rintro _ _ ⟨p3, c3, p4, c4, rfl, rfl⟩
            refine ⟨fun w hI => hI.pick (is := [6, 7, 8, 9, 10]) (by decide) rfl, ?_⟩
            rw [hrf]
            simp only
            refine AnyJ.one (fuel := 1) 11 (by kernel_rfl) ?_
            refine StepJ.op (listed' := #[true, true, true, true, true, true, true, true, true, true, true, true, false]) rfl rfl rfl ?_
            refine OpJ.storeW (i := 2) rfl rfl rfl rfl sz_54 rfl rfl rfl ?_
            refine ⟨fun w hI => hI.pick (is := [6, 7, 8, 9, 10]) (by decide) rfl, ?_⟩
            refine AnyJ.one (fuel := 0) 12 (by kernel_rfl) ?_
            refine StepJ.op (listed' := #[true, true, true, true, true, true, true, true, true, true, true, true, true]) rfl rfl rfl ?_
            refine OpJ.storeW (i := 3) rfl rfl rfl rfl sz_54 rfl rfl rfl ?_
            refine ⟨fun w hI => hI.pick (is := [6, 7, 8, 9, 10]) (by decide) rfl, ?_⟩
            refine AnyJ.done (by kernel_rfl) ?_
            exact ExJ.meetP ⟨p1, p2, p3, p4, c1, c2, c3, c4, g1, g2, rfl, rfl⟩ ⟨rfl, rfl, rfl, rfl, trivial⟩ fun w hI => hI.pick (is := [2, 4, 5, 3, 0, 1]) (by decide) rfl
      · refine StepJ.op (listed' := #[true, true, true, true, false, true, true, true, false, true, false, false, false]) rfl rfl rfl ?_
        refine OpJ.alloc rfl rfl rfl zero_54 fun g1 hg1 => ?_
        refine ⟨fun w hI => hI.pick (is := [1, 2, 3, 4, 5]) (by decide) rfl, ?_⟩
        refine AnyJ.two (fuel := 4) 4 10 (by kernel_rfl) ?_ ?_
        · refine StepJ.op (listed' := #[true, true, true, true, true, true, true, true, false, true, false, false, false]) rfl rfl rfl ?_
          refine OpJ.call (buildAsks_spec G h hw pre _ _ (stepsL sh qs (List.replicate 2 [])) (by omega) (by omega) hrunP) has_16 rfl rfl rfl rfl rfl [] [0, 1, 2, 3, 4, 5] (by decide) rfl rfl (fun w hI => ⟨hge.call hI (is := []) rfl, hbuf.keep hI.keep (by simp [fp]), Own.row (hI.hs _ (List.mem_of_getElem? (i := 1) rfl)).1, stepsL_rec (fun l hl r hr => by obtain rfl := List.eq_of_mem_replicate hl; cases hr)⟩) ?_
          rintro _ _ ⟨p1, c1, p2, c2, rfl, rfl⟩
          refine ⟨fun w hI => hI.pick (is := [3, 4, 5, 6, 7]) (by decide) rfl, ?_⟩
          rw [hrfP]
          simp only
          refine AnyJ.two (fuel := 3) 8 10 (by kernel_rfl) ?_ ?_
          · refine StepJ.op (listed' := #[true, true, true, true, true, true, true, true, true, true, false, false, false]) rfl rfl rfl ?_
            refine OpJ.call (buildAsks_spec G h hw [] (.slice none 0 0) _ (stepsL sh qs (List.replicate 2 [])) (by omega) (by simp) hrun) has_16 rfl rfl rfl rfl rfl [] [0, 1, 2, 3, 4, 5, 6, 7] (by decide) rfl rfl (fun w hI => ⟨hge.call hI (is := []) rfl, .inl ⟨none, 0, rfl, rfl⟩, Own.row (hI.hs _ (List.mem_of_getElem? (i := 3) rfl)).1, stepsL_rec (fun l hl r hr => by obtain rfl := List.eq_of_mem_replicate hl; cases hr)⟩) ?_
            rintro _ _ ⟨p3, c3, p4, c4, rfl, rfl⟩
            refine ⟨fun w hI => hI.pick (is := [5, 6, 7, 8, 9]) (by decide) rfl, ?_⟩
            rw [hrf]
            simp only
            refine AnyJ.one (fuel := 2) 10 (by kernel_rfl) ?_
            refine StepJ.op (listed' := #[true, true, true, true, true, true, true, true, true, true, true, false, false]) rfl rfl rfl ?_
            refine OpJ.alloc rfl rfl rfl zero_54 fun g2 hg2 => ?_
            refine ⟨fun w hI => hI.pick (is := [6, 7, 8, 9, 10]) (by decide) rfl, ?_⟩
            refine AnyJ.one (fuel := 1) 11 (by kernel_rfl) ?_
            refine StepJ.op (listed' := #[true, true, true, true, true, true, true, true, true, true, true, true, false]) rfl rfl rfl ?_
            refine OpJ.storeW (i := 5) rfl rfl rfl rfl sz_54 rfl rfl rfl ?_
            refine ⟨fun w hI => hI.pick (is := [6, 7, 8, 9, 10]) (by decide) rfl, ?_⟩
            refine AnyJ.one (fuel := 0) 12 (by kernel_rfl) ?_
            refine StepJ.op (listed' := #[true, true, true, true, true, true, true, true, true, true, true, true, true]) rfl rfl rfl ?_
            refine OpJ.storeW (i := 0) rfl rfl rfl rfl sz_54 rfl rfl rfl ?_
            refine ⟨fun w hI => hI.pick (is := [6, 7, 8, 9, 10]) (by decide) rfl, ?_⟩
            refine AnyJ.done (by kernel_rfl) ?_
            exact ExJ.meetP ⟨p1, p2, p3, p4, c1, c2, c3, c4, g1, g2, rfl, rfl⟩ ⟨rfl, rfl, rfl, rfl, trivial⟩ fun w hI => hI.pick (is := [5, 3, 4, 0, 1, 2]) (by decide) rfl
          · refine StepJ.op (listed' := #[true, true, true, true, true, true, true, true, false, true, true, false, false]) rfl rfl rfl ?_
            refine OpJ.alloc rfl rfl rfl zero_54 fun g2 hg2 => ?_
            refine ⟨fun w hI => hI.pick (is := [4, 5, 6, 7, 8]) (by decide) rfl, ?_⟩
            refine AnyJ.one (fuel := 2) 8 (by kernel_rfl) ?_
            refine StepJ.op (listed' := #[true, true, true, true, true, true, true, true, true, true, true, false, false]) rfl rfl rfl ?_
            refine OpJ.call (buildAsks_spec G h hw [] (.slice none 0 0) _ (stepsL sh qs (List.replicate 2 [])) (by omega) (by simp) hrun) has_16 rfl rfl rfl rfl rfl [] [0, 1, 2, 3, 4, 5, 6, 7, 8] (by decide) rfl rfl (fun w hI => ⟨hge.call hI (is := []) rfl, .inl ⟨none, 0, rfl, rfl⟩, Own.row (hI.hs _ (List.mem_of_getElem? (i := 4) rfl)).1, stepsL_rec (fun l hl r hr => by obtain rfl := List.eq_of_mem_replicate hl; cases hr)⟩) ?_
            rintro _ _ ⟨p3, c3, p4, c4, rfl, rfl⟩
            refine ⟨fun w hI => hI.pick (is := [6, 7, 8, 9, 10]) (by decide) rfl, ?_⟩
            rw [hrf]
            simp only
            refine AnyJ.one (fuel := 1) 11 (by kernel_rfl) ?_
            refine StepJ.op (listed' := #[true, true, true, true, true, true, true, true, true, true, true, true, false]) rfl rfl rfl ?_
            refine OpJ.storeW (i := 5) rfl rfl rfl rfl sz_54 rfl rfl rfl ?_
            refine ⟨fun w hI => hI.pick (is := [6, 7, 8, 9, 10]) (by decide) rfl, ?_⟩
            refine AnyJ.one (fuel := 0) 12 (by kernel_rfl) ?_
            refine StepJ.op (listed' := #[true, true, true, true, true, true, true, true, true, true, true, true, true]) rfl rfl rfl ?_
            refine OpJ.storeW (i := 2) rfl rfl rfl rfl sz_54 rfl rfl rfl ?_
            refine ⟨fun w hI => hI.pick (is := [6, 7, 8, 9, 10]) (by decide) rfl, ?_⟩
            refine AnyJ.done (by kernel_rfl) ?_
            exact ExJ.meetP ⟨p1, p2, p3, p4, c1, c2, c3, c4, g1, g2, rfl, rfl⟩ ⟨rfl, rfl, rfl, rfl, trivial⟩ fun w hI => hI.pick (is := [5, 3, 4, 2, 0, 1]) (by decide) rfl
        · refine StepJ.op (listed' := #[true, true, true, true, false, true, true, true, false, true, true, false, false]) rfl rfl rfl ?_
          refine OpJ.alloc rfl rfl rfl zero_54 fun g2 hg2 => ?_
          refine ⟨fun w hI => hI.pick (is := [2, 3, 4, 5, 6]) (by decide) rfl, ?_⟩
          refine AnyJ.one (fuel := 3) 4 (by kernel_rfl) ?_
          refine StepJ.op (listed' := #[true, true, true, true, true, true, true, true, false, true, true, false, false]) rfl rfl rfl ?_
          refine OpJ.call (buildAsks_spec G h hw pre _ _ (stepsL sh qs (List.replicate 2 [])) (by omega) (by omega) hrunP) has_16 rfl rfl rfl rfl rfl [] [0, 1, 2, 3, 4, 5, 6] (by decide) rfl rfl (fun w hI => ⟨hge.call hI (is := []) rfl, hbuf.keep hI.keep (by simp [fp]), Own.row (hI.hs _ (List.mem_of_getElem? (i := 2) rfl)).1, stepsL_rec (fun l hl r hr => by obtain rfl := List.eq_of_mem_replicate hl; cases hr)⟩) ?_
          rintro _ _ ⟨p1, c1, p2, c2, rfl, rfl⟩
          refine ⟨fun w hI => hI.pick (is := [4, 5, 6, 7, 8]) (by decide) rfl, ?_⟩
          rw [hrfP]
          simp only
          refine AnyJ.one (fuel := 2) 8 (by kernel_rfl) ?_
          refine StepJ.op (listed' := #[true, true, true, true, true, true, true, true, true, true, true, false, false]) rfl rfl rfl ?_
          refine OpJ.call (buildAsks_spec G h hw [] (.slice none 0 0) _ (stepsL sh qs (List.replicate 2 [])) (by omega) (by simp) hrun) has_16 rfl rfl rfl rfl rfl [] [0, 1, 2, 3, 4, 5, 6, 7, 8] (by decide) rfl rfl (fun w hI => ⟨hge.call hI (is := []) rfl, .inl ⟨none, 0, rfl, rfl⟩, Own.row (hI.hs _ (List.mem_of_getElem? (i := 4) rfl)).1, stepsL_rec (fun l hl r hr => by obtain rfl := List.eq_of_mem_replicate hl; cases hr)⟩) ?_
          rintro _ _ ⟨p3, c3, p4, c4, rfl, rfl⟩
          refine ⟨fun w hI => hI.pick (is := [6, 7, 8, 9, 10]) (by decide) rfl, ?_⟩
          rw [hrf]
          simp only
          refine AnyJ.one (fuel := 1) 11 (by kernel_rfl) ?_
          refine StepJ.op (listed' := #[true, true, true, true, true, true, true, true, true, true, true, true, false]) rfl rfl rfl ?_
          refine OpJ.storeW (i := 5) rfl rfl rfl rfl sz_54 rfl rfl rfl ?_
          refine ⟨fun w hI => hI.pick (is := [6, 7, 8, 9, 10]) (by decide) rfl, ?_⟩
          refine AnyJ.one (fuel := 0) 12 (by kernel_rfl) ?_
          refine StepJ.op (listed' := #[true, true, true, true, true, true, true, true, true, true, true, true, true]) rfl rfl rfl ?_
          refine OpJ.storeW (i := 4) rfl rfl rfl rfl sz_54 rfl rfl rfl ?_
          refine ⟨fun w hI => hI.pick (is := [6, 7, 8, 9, 10]) (by decide) rfl, ?_⟩
          refine AnyJ.done (by kernel_rfl) ?_
          exact ExJ.meetP ⟨p1, p2, p3, p4, c1, c2, c3, c4, g1, g2, rfl, rfl⟩ ⟨rfl, rfl, rfl, rfl, trivial⟩ fun w hI => hI.pick (is := [5, 2, 3, 4, 0, 1]) (by decide) rfl
      · refine StepJ.op (listed' := #[true, true, true, true, false, true, true, true, false, false, true, false, false]) rfl rfl rfl ?_
        refine OpJ.alloc rfl rfl rfl zero_54 fun g2 hg2 => ?_
        refine ⟨fun w hI => hI.pick (is := [1, 2, 3, 4, 5]) (by decide) rfl, ?_⟩
        refine AnyJ.two (fuel := 4) 4 9 (by kernel_rfl) ?_ ?_
        · refine StepJ.op (listed' := #[true, true, true, true, true, true, true, true, false, false, true, false, false]) rfl rfl rfl ?_
          refine OpJ.call (buildAsks_spec G h hw pre _ _ (stepsL sh qs (List.replicate 2 [])) (by omega) (by omega) hrunP) has_16 rfl rfl rfl rfl rfl [] [0, 1, 2, 3, 4, 5] (by decide) rfl rfl (fun w hI => ⟨hge.call hI (is := []) rfl, hbuf.keep hI.keep (by simp [fp]), Own.row (hI.hs _ (List.mem_of_getElem? (i := 1) rfl)).1, stepsL_rec (fun l hl r hr => by obtain rfl := List.eq_of_mem_replicate hl; cases hr)⟩) ?_
          rintro _ _ ⟨p1, c1, p2, c2, rfl, rfl⟩
          refine ⟨fun w hI => hI.pick (is := [3, 4, 5, 6, 7]) (by decide) rfl, ?_⟩
          rw [hrfP]
          simp only
          refine AnyJ.two (fuel := 3) 8 9 (by kernel_rfl) ?_ ?_
          · refine StepJ.op (listed' := #[true, true, true, true, true, true, true, true, true, false, true, false, false]) rfl rfl rfl ?_
            refine OpJ.call (buildAsks_spec G h hw [] (.slice none 0 0) _ (stepsL sh qs (List.replicate 2 [])) (by omega) (by simp) hrun) has_16 rfl rfl rfl rfl rfl [] [0, 1, 2, 3, 4, 5, 6, 7] (by decide) rfl rfl (fun w hI => ⟨hge.call hI (is := []) rfl, .inl ⟨none, 0, rfl, rfl⟩, Own.row (hI.hs _ (List.mem_of_getElem? (i := 3) rfl)).1, stepsL_rec (fun l hl r hr => by obtain rfl := List.eq_of_mem_replicate hl; cases hr)⟩) ?_
            rintro _ _ ⟨p3, c3, p4, c4, rfl, rfl⟩
            refine ⟨fun w hI => hI.pick (is := [5, 6, 7, 8, 9]) (by decide) rfl, ?_⟩
            rw [hrf]
            simp only
            refine AnyJ.one (fuel := 2) 9 (by kernel_rfl) ?_
            refine StepJ.op (listed' := #[true, true, true, true, true, true, true, true, true, true, true, false, false]) rfl rfl rfl ?_
            refine OpJ.alloc rfl rfl rfl zero_54 fun g1 hg1 => ?_
            refine ⟨fun w hI => hI.pick (is := [6, 7, 8, 9, 10]) (by decide) rfl, ?_⟩
            refine AnyJ.one (fuel := 1) 11 (by kernel_rfl) ?_
            refine StepJ.op (listed' := #[true, true, true, true, true, true, true, true, true, true, true, true, false]) rfl rfl rfl ?_
            refine OpJ.storeW (i := 0) rfl rfl rfl rfl sz_54 rfl rfl rfl ?_
            refine ⟨fun w hI => hI.pick (is := [6, 7, 8, 9, 10]) (by decide) rfl, ?_⟩
            refine AnyJ.one (fuel := 0) 12 (by kernel_rfl) ?_
            refine StepJ.op (listed' := #[true, true, true, true, true, true, true, true, true, true, true, true, true]) rfl rfl rfl ?_
            refine OpJ.storeW (i := 5) rfl rfl rfl rfl sz_54 rfl rfl rfl ?_
            refine ⟨fun w hI => hI.pick (is := [6, 7, 8, 9, 10]) (by decide) rfl, ?_⟩
            refine AnyJ.done (by kernel_rfl) ?_
            exact ExJ.meetP ⟨p1, p2, p3, p4, c1, c2, c3, c4, g1, g2, rfl, rfl⟩ ⟨rfl, rfl, rfl, rfl, trivial⟩ fun w hI => hI.pick (is := [0, 3, 4, 5, 1, 2]) (by decide) rfl
          · refine StepJ.op (listed' := #[true, true, true, true, true, true, true, true, false, true, true, false, false]) rfl rfl rfl ?_
            refine OpJ.alloc rfl rfl rfl zero_54 fun g1 hg1 => ?_
            refine ⟨fun w hI => hI.pick (is := [4, 5, 6, 7, 8]) (by decide) rfl, ?_⟩
            refine AnyJ.one (fuel := 2) 8 (by kernel_rfl) ?_
            refine StepJ.op (listed' := #[true, true, true, true, true, true, true, true, true, true, true, false, false]) rfl rfl rfl ?_
            refine OpJ.call (buildAsks_spec G h hw [] (.slice none 0 0) _ (stepsL sh qs (List.replicate 2 [])) (by omega) (by simp) hrun) has_16 rfl rfl rfl rfl rfl [] [0, 1, 2, 3, 4, 5, 6, 7, 8] (by decide) rfl rfl (fun w hI => ⟨hge.call hI (is := []) rfl, .inl ⟨none, 0, rfl, rfl⟩, Own.row (hI.hs _ (List.mem_of_getElem? (i := 4) rfl)).1, stepsL_rec (fun l hl r hr => by obtain rfl := List.eq_of_mem_replicate hl; cases hr)⟩) ?_
            rintro _ _ ⟨p3, c3, p4, c4, rfl, rfl⟩
            refine ⟨fun w hI => hI.pick (is := [6, 7, 8, 9, 10]) (by decide) rfl, ?_⟩
            rw [hrf]
            simp only
            refine AnyJ.one (fuel := 1) 11 (by kernel_rfl) ?_
            refine StepJ.op (listed' := #[true, true, true, true, true, true, true, true, true, true, true, true, false]) rfl rfl rfl ?_
            refine OpJ.storeW (i := 2) rfl rfl rfl rfl sz_54 rfl rfl rfl ?_
            refine ⟨fun w hI => hI.pick (is := [6, 7, 8, 9, 10]) (by decide) rfl, ?_⟩
            refine AnyJ.one (fuel := 0) 12 (by kernel_rfl) ?_
            refine StepJ.op (listed' := #[true, true, true, true, true, true, true, true, true, true, true, true, true]) rfl rfl rfl ?_
            refine OpJ.storeW (i := 5) rfl rfl rfl rfl sz_54 rfl rfl rfl ?_
            refine ⟨fun w hI => hI.pick (is := [6, 7, 8, 9, 10]) (by decide) rfl, ?_⟩
            refine AnyJ.done (by kernel_rfl) ?_
            exact ExJ.meetP ⟨p1, p2, p3, p4, c1, c2, c3, c4, g1, g2, rfl, rfl⟩ ⟨rfl, rfl, rfl, rfl, trivial⟩ fun w hI => hI.pick (is := [2, 3, 4, 5, 0, 1]) (by decide) rfl
        · refine StepJ.op (listed' := #[true, true, true, true, false, true, true, true, false, true, true, false, false]) rfl rfl rfl ?_
          refine OpJ.alloc rfl rfl rfl zero_54 fun g1 hg1 => ?_
          refine ⟨fun w hI => hI.pick (is := [2, 3, 4, 5, 6]) (by decide) rfl, ?_⟩
          refine AnyJ.one (fuel := 3) 4 (by kernel_rfl) ?_
          refine StepJ.op (listed' := #[true, true, true, true, true, true, true, true, false, true, true, false, false]) rfl rfl rfl ?_
          refine OpJ.call (buildAsks_spec G h hw pre _ _ (stepsL sh qs (List.replicate 2 [])) (by omega) (by omega) hrunP) has_16 rfl rfl rfl rfl rfl [] [0, 1, 2, 3, 4, 5, 6] (by decide) rfl rfl (fun w hI => ⟨hge.call hI (is := []) rfl, hbuf.keep hI.keep (by simp [fp]), Own.row (hI.hs _ (List.mem_of_getElem? (i := 2) rfl)).1, stepsL_rec (fun l hl r hr => by obtain rfl := List.eq_of_mem_replicate hl; cases hr)⟩) ?_
          rintro _ _ ⟨p1, c1, p2, c2, rfl, rfl⟩
          refine ⟨fun w hI => hI.pick (is := [4, 5, 6, 7, 8]) (by decide) rfl, ?_⟩
          rw [hrfP]
          simp only
          refine AnyJ.one (fuel := 2) 8 (by kernel_rfl) ?_
          refine StepJ.op (listed' := #[true, true, true, true, true, true, true, true, true, true, true, false, false]) rfl rfl rfl ?_
          refine OpJ.call (buildAsks_spec G h hw [] (.slice none 0 0) _ (stepsL sh qs (List.replicate 2 [])) (by omega) (by simp) hrun) has_16 rfl rfl rfl rfl rfl [] [0, 1, 2, 3, 4, 5, 6, 7, 8] (by decide) rfl rfl (fun w hI => ⟨hge.call hI (is := []) rfl, .inl ⟨none, 0, rfl, rfl⟩, Own.row (hI.hs _ (List.mem_of_getElem? (i := 4) rfl)).1, stepsL_rec (fun l hl r hr => by obtain rfl := List.eq_of_mem_replicate hl; cases hr)⟩) ?_
          rintro _ _ ⟨p3, c3, p4, c4, rfl, rfl⟩
          refine ⟨fun w hI => hI.pick (is := [6, 7, 8, 9, 10]) (by decide) rfl, ?_⟩
          rw [hrf]
          simp only
          refine AnyJ.one (fuel := 1) 11 (by kernel_rfl) ?_
          refine StepJ.op (listed' := #[true, true, true, true, true, true, true, true, true, true, true, true, false]) rfl rfl rfl ?_
          refine OpJ.storeW (i := 4) rfl rfl rfl rfl sz_54 rfl rfl rfl ?_
          refine ⟨fun w hI => hI.pick (is := [6, 7, 8, 9, 10]) (by decide) rfl, ?_⟩
          refine AnyJ.one (fuel := 0) 12 (by kernel_rfl) ?_
          refine StepJ.op (listed' := #[true, true, true, true, true, true, true, true, true, true, true, true, true]) rfl rfl rfl ?_
          refine OpJ.storeW (i := 5) rfl rfl rfl rfl sz_54 rfl rfl rfl ?_
          refine ⟨fun w hI => hI.pick (is := [6, 7, 8, 9, 10]) (by decide) rfl, ?_⟩
          refine AnyJ.done (by kernel_rfl) ?_
          exact ExJ.meetP ⟨p1, p2, p3, p4, c1, c2, c3, c4, g1, g2, rfl, rfl⟩ ⟨rfl, rfl, rfl, rfl, trivial⟩ fun w hI => hI.pick (is := [4, 2, 3, 5, 0, 1]) (by decide) rfl
    · rintro _ _ ⟨p1, p2, p3, p4, c1, c2, c3, c4, g1, g2, rfl, rfl⟩
      refine CodeJ.seq ?_
      refine CodeJ.any (fuel := 25) (listed := #[false, false, false, false, false, false, false, false, false, false, false, false, false, false, false, false, false, false, false, false, false, false, false, false, false]) [0, 1, 2, 3, 4, 5] rfl follows_mixed rfl rfl ?_
      refine AnyJ.take (fuel := 24) (listed' := #[true, false, false, false, false, false, false, false, false, false, false, false, false, false, false, false, false, false, false, false, false, false, false, false, false]) 0 rfl (by kernel_rfl) (by kernel_rfl) (by kernel_rfl) rfl rfl rfl rfl (Yld.loadN (vs := [.slice p1 _ c1, .slice p2 _ c2, .int .i64 0]) rfl Tryd.underlying54 rfl sz_54 rfl (fun w hI => Inv.whole hI (i := 0) rfl)) (fun w hI => hI.pick (is := [0, 1, 2, 3, 4, 5]) (by decide) rfl) ?_
      refine AnyJ.take (fuel := 23) (listed' := #[true, true, false, false, false, false, false, false, false, false, false, false, false, false, false, false, false, false, false, false, false, false, false, false, false]) 1 rfl (by kernel_rfl) (by kernel_rfl) (by kernel_rfl) rfl rfl rfl rfl (Yld.move rfl rfl) (fun w hI => hI.pick (is := [0, 1, 2, 3, 4, 5]) (by decide) rfl) ?_
      refine AnyJ.one (fuel := 22) 2 (by kernel_rfl) ?_
      refine StepJ.op (listed' := #[true, true, true, false, false, false, false, false, false, false, false, false, false, false, false, false, false, false, false, false, false, false, false, false, false]) rfl rfl rfl ?_
      refine OpJ.call (fine_spec _ _ (List.replicate (stepsL sh qs (List.replicate 2 [])).length 0) p35 (stepsL sh qs (List.replicate 2 [])).length c35 (by rw [List.length_replicate]; omega)) has_27 rfl rfl rfl rfl rfl [] [0, 1, 2, 3, 4, 5] (by decide) rfl rfl (fun w hI => Own.row (hI.hs _ (List.mem_of_getElem? (i := 1) rfl)).1) ?_
      rintro _ _ ⟨rfl, rfl⟩
      refine ⟨fun w hI => hI.pick (is := [0, 1, 2, 3, 4, 5]) (by decide) rfl, ?_⟩
      refine AnyJ.take (fuel := 21) (listed' := #[true, true, true, true, false, false, false, false, false, false, false, false, false, false, false, false, false, false, false, false, false, false, false, false, false]) 3 rfl (by kernel_rfl) (by kernel_rfl) (by kernel_rfl) rfl rfl rfl rfl (Yld.move rfl rfl) (fun w hI => hI.pick (is := [0, 1, 2, 3, 4, 5]) (by decide) rfl) ?_
      refine AnyJ.splitB (s := 48) rfl (fun g48 => ?_) (fun g48 => ?_)
      · refine AnyJ.takeT (fuel := 20) (listed' := #[true, true, true, true, true, false, false, false, false, false, false, false, false, false, false, false, false, false, false, false, false, false, false, false, false]) 4 rfl (by kernel_rfl) (by kernel_rfl) (by kernel_rfl) rfl rfl rfl rfl rfl rfl (Yld.loadN (vs := [.slice p3 _ c3, .slice p4 _ c4, .int .i64 0]) rfl Tryd.underlying54 rfl sz_54 rfl (fun w hI => Inv.whole hI (i := 3) rfl)) (fun w hI => hI.pick (is := [0, 1, 2, 3, 4, 5]) (by decide) rfl) ?_
        refine AnyJ.takeT (fuel := 19) (listed' := #[true, true, true, true, true, true, false, false, false, false, false, false, false, false, false, false, false, false, false, false, false, false, false, false, false]) 5 rfl (by kernel_rfl) (by kernel_rfl) (by kernel_rfl) rfl rfl rfl rfl rfl rfl (Yld.move rfl rfl) (fun w hI => hI.pick (is := [0, 1, 2, 3, 4, 5]) (by decide) rfl) ?_
        refine AnyJ.one (fuel := 18) 6 (by kernel_rfl) ?_
        refine StepJ.opT (listed' := #[true, true, true, true, true, true, true, false, false, false, false, false, false, false, false, false, false, false, false, false, false, false, false, false, false]) rfl rfl rfl rfl rfl ?_
        refine OpJ.call (fine_spec _ _ (List.replicate (stepsL sh qs (List.replicate 2 [])).length 0) p35 (stepsL sh qs (List.replicate 2 [])).length c35 (by rw [List.length_replicate]; omega)) has_27 rfl rfl rfl rfl rfl [] [0, 1, 2, 3, 4, 5] (by decide) rfl rfl (fun w hI => Own.row (hI.hs _ (List.mem_of_getElem? (i := 4) rfl)).1) ?_
        rintro _ _ ⟨rfl, rfl⟩
        refine ⟨fun w hI => hI.pick (is := [0, 1, 2, 3, 4, 5]) (by decide) rfl, ?_⟩
        refine AnyJ.take (fuel := 17) (listed' := #[true, true, true, true, true, true, true, true, false, false, false, false, false, false, false, false, false, false, false, false, false, false, false, false, false]) 7 rfl (by kernel_rfl) (by kernel_rfl) (by kernel_rfl) rfl rfl rfl rfl (Yld.pickT rfl rfl rfl) (fun w hI => hI.pick (is := [0, 1, 2, 3, 4, 5]) (by decide) rfl) ?_
        refine AnyJ.take (fuel := 16) (listed' := #[true, true, true, true, true, true, true, true, true, false, false, false, false, false, false, false, false, false, false, false, false, false, false, false, false]) 8 rfl (by kernel_rfl) (by kernel_rfl) (by kernel_rfl) rfl rfl rfl rfl (Yld.move rfl rfl) (fun w hI => hI.pick (is := [0, 1, 2, 3, 4, 5]) (by decide) rfl) ?_
        refine AnyJ.splitB (s := 53) rfl (fun g53 => ?_) (fun g53 => ?_)
        · refine AnyJ.takeT (fuel := 15) (listed' := #[true, true, true, true, true, true, true, true, true, true, false, false, false, false, false, false, false, false, false, false, false, false, false, false, false]) 9 rfl (by kernel_rfl) (by kernel_rfl) (by kernel_rfl) rfl rfl rfl rfl rfl rfl (Yld.fieldAddr fa_54_1 rfl rfl) (fun w hI => hI.pick (is := [0, 1, 2, 3, 4, 5]) (by decide) rfl) ?_
          refine AnyJ.takeT (fuel := 14) (listed' := #[true, true, true, true, true, true, true, true, true, true, true, false, false, false, false, false, false, false, false, false, false, false, false, false, false]) 10 rfl (by kernel_rfl) (by kernel_rfl) (by kernel_rfl) rfl rfl rfl rfl rfl rfl (Yld.load1 rfl Tryd.underlying22 rfl rfl (fun w hI => Inv.cell1 hI (i := 3) rfl rfl)) (fun w hI => hI.pick (is := [0, 1, 2, 3, 4, 5]) (by decide) rfl) ?_
          refine AnyJ.takeT (fuel := 13) (listed' := #[true, true, true, true, true, true, true, true, true, true, true, true, false, false, false, false, false, false, false, false, false, false, false, false, false]) 11 rfl (by kernel_rfl) (by kernel_rfl) (by kernel_rfl) rfl rfl rfl rfl rfl rfl (Yld.lenSlice rfl rfl rfl Tryd.underlying22 rfl) (fun w hI => hI.pick (is := [0, 1, 2, 3, 4, 5]) (by decide) rfl) ?_
          refine AnyJ.takeT (fuel := 12) (listed' := #[true, true, true, true, true, true, true, true, true, true, true, true, true, false, false, false, false, false, false, false, false, false, false, false, false]) 12 rfl (by kernel_rfl) (by kernel_rfl) (by kernel_rfl) rfl rfl rfl rfl rfl rfl (Yld.intBin rfl rfl rfl rfl) (fun w hI => hI.pick (is := [0, 1, 2, 3, 4, 5]) (by decide) rfl) ?_
          refine AnyJ.take (fuel := 11) (listed' := #[true, true, true, true, true, true, true, true, true, true, true, true, true, true, false, false, false, false, false, false, false, false, false, false, false]) 13 rfl (by kernel_rfl) (by kernel_rfl) (by kernel_rfl) rfl rfl rfl rfl (Yld.pickT rfl rfl rfl) (fun w hI => hI.pick (is := [0, 1, 2, 3, 4, 5]) (by decide) rfl) ?_
          refine AnyJ.take (fuel := 10) (listed' := #[true, true, true, true, true, true, true, true, true, true, true, true, true, true, true, false, false, false, false, false, false, false, false, false, false]) 14 rfl (by kernel_rfl) (by kernel_rfl) (by kernel_rfl) rfl rfl rfl rfl (Yld.move rfl rfl) (fun w hI => hI.pick (is := [0, 1, 2, 3, 4, 5]) (by decide) rfl) ?_
          refine AnyJ.splitB (s := 59) rfl (fun g59 => ?_) (fun g59 => ?_)
          · refine AnyJ.takeT (fuel := 9) (listed' := #[true, true, true, true, true, true, true, true, true, true, true, true, true, true, true, true, false, false, false, false, false, false, false, false, false]) 15 rfl (by kernel_rfl) (by kernel_rfl) (by kernel_rfl) rfl rfl rfl rfl rfl rfl (Yld.fieldAddr fa_54_1 rfl rfl) (fun w hI => hI.pick (is := [0, 1, 2, 3, 4, 5]) (by decide) rfl) ?_
            refine AnyJ.takeT (fuel := 8) (listed' := #[true, true, true, true, true, true, true, true, true, true, true, true, true, true, true, true, true, false, false, false, false, false, false, false, false]) 16 rfl (by kernel_rfl) (by kernel_rfl) (by kernel_rfl) rfl rfl rfl rfl rfl rfl (Yld.load1 rfl Tryd.underlying22 rfl rfl (fun w hI => Inv.cell1 hI (i := 0) rfl rfl)) (fun w hI => hI.pick (is := [0, 1, 2, 3, 4, 5]) (by decide) rfl) ?_
            refine AnyJ.takeT (fuel := 7) (listed' := #[true, true, true, true, true, true, true, true, true, true, true, true, true, true, true, true, true, true, false, false, false, false, false, false, false]) 17 rfl (by kernel_rfl) (by kernel_rfl) (by kernel_rfl) rfl rfl rfl rfl rfl rfl (Yld.move rfl rfl) (fun w hI => hI.pick (is := [0, 1, 2, 3, 4, 5]) (by decide) rfl) ?_
            refine AnyJ.takeT (fuel := 6) (listed' := #[true, true, true, true, true, true, true, true, true, true, true, true, true, true, true, true, true, true, true, false, false, false, false, false, false]) 18 rfl (by kernel_rfl) (by kernel_rfl) (by kernel_rfl) rfl rfl rfl rfl rfl rfl (Yld.fieldAddr fa_54_1 rfl rfl) (fun w hI => hI.pick (is := [0, 1, 2, 3, 4, 5]) (by decide) rfl) ?_
            refine AnyJ.takeT (fuel := 5) (listed' := #[true, true, true, true, true, true, true, true, true, true, true, true, true, true, true, true, true, true, true, true, false, false, false, false, false]) 19 rfl (by kernel_rfl) (by kernel_rfl) (by kernel_rfl) rfl rfl rfl rfl rfl rfl (Yld.load1 rfl Tryd.underlying22 rfl rfl (fun w hI => Inv.cell1 hI (i := 3) rfl rfl)) (fun w hI => hI.pick (is := [0, 1, 2, 3, 4, 5]) (by decide) rfl) ?_
            refine AnyJ.one (fuel := 4) 20 (by kernel_rfl) ?_
            refine StepJ.opT (listed' := #[true, true, true, true, true, true, true, true, true, true, true, true, true, true, true, true, true, true, true, true, true, false, false, false, false]) rfl rfl rfl rfl rfl ?_
            refine OpJ.buildSlice (xs := [.tmp 62, .tmp 64]) elt_108 rfl rfl rfl rfl rfl rfl (by rfl) (by decide) fun prt hprt => ?_
            refine ⟨fun w hI => hI.pick (is := [1, 2, 3, 4, 5, 6]) (by decide) rfl, ?_⟩
            refine AnyJ.one (fuel := 3) 21 (by kernel_rfl) ?_
            refine StepJ.opT (listed' := #[true, true, true, true, true, true, true, true, true, true, true, true, true, true, true, true, true, true, true, true, true, true, false, false, false]) rfl rfl rfl rfl rfl ?_
            refine OpJ.call (joined_spec _ [pre, ({ newB [] h with buf := zero12 ++ ys, sec := 2 + 2, q := qs.length, m := mt } : Bd).fin] (by rw [hfin]; simp [headWire_len]; omega) (by simp)) has_31 rfl rfl rfl rfl rfl [] [0, 1, 2, 3, 4, 5, 6] (by decide) rfl rfl (fun w hI => parts2 (hI.hs _ (List.mem_of_getElem? (i := 0) rfl)).1 (hbuf.keep hI.keep (by simp [fp])) (Inv.bytes (k := 6) rfl w hI)) ?_
            rintro _ _ ⟨p66, c66, rfl, rfl⟩
            refine ⟨fun w hI => hI.pick (is := [2, 3, 4, 5, 6, 7]) (by decide) rfl, ?_⟩
            refine AnyJ.one (fuel := 2) 22 (by kernel_rfl) ?_
            refine StepJ.opT (listed' := #[true, true, true, true, true, true, true, true, true, true, true, true, true, true, true, true, true, true, true, true, true, true, true, false, false]) rfl rfl rfl rfl rfl ?_
            refine OpJ.call (same_spec _ _ _ [pre, ({ newB [] h with buf := zero12 ++ ys, sec := 2 + 2, q := qs.length, m := mt } : Bd).fin].flatten) has_28 rfl rfl rfl rfl rfl [] [0, 1, 2, 3, 4, 5, 6, 7] (by decide) rfl rfl (fun w hI => ⟨Inv.bytes (k := 4) rfl w hI, Inv.bytes (k := 0) rfl w hI⟩) ?_
            rintro _ _ ⟨rfl, rfl⟩
            refine ⟨fun w hI => hI.pick (is := [2, 3, 4, 5, 6, 7]) (by decide) rfl, ?_⟩
            refine AnyJ.take (fuel := 1) (listed' := #[true, true, true, true, true, true, true, true, true, true, true, true, true, true, true, true, true, true, true, true, true, true, true, true, false]) 23 rfl (by kernel_rfl) (by kernel_rfl) (by kernel_rfl) rfl rfl rfl rfl (Yld.pickT rfl rfl rfl) (fun w hI => hI.pick (is := [2, 3, 4, 5, 6, 7]) (by decide) rfl) ?_
            refine AnyJ.take (fuel := 0) (listed' := #[true, true, true, true, true, true, true, true, true, true, true, true, true, true, true, true, true, true, true, true, true, true, true, true, true]) 24 rfl (by kernel_rfl) (by kernel_rfl) (by kernel_rfl) rfl rfl rfl rfl (Yld.assign rfl rfl) (fun w hI => hI.pick (is := [2, 3, 4, 5, 6, 7]) (by decide) rfl) ?_
            refine AnyJ.done (by kernel_rfl) ?_
            refine ExJ.thenN ?_
            refine CodeJ.ret ?_
            exact ExJ.ret1 Tryd.results15 rfl ⟨by rw [fin_sh]; simp, rfl⟩ fun w hI => hI.pick (is := []) (by decide) rfl
          · exact absurd g59 (by rw [hfin]; simp [headWire_len]; omega)
        · exact absurd g53 (by rw [all_zero]; decide)
      · exact absurd g48 (by rw [all_zero]; decide)

theorem fnBehindAsks_spec (G : GEnv) (pre : List UInt8) (bufV : Value) (hpre : pre.length ≤ 140737488351232) (sh : Bool) (h : Hd) (hw : h.wf) (qs : List AskD) (av : Value) (hq : ∀ a ∈ qs, a.wf) (hn : qs.length * 24 ≤ 140737488351232) :
    Spec Tryd.prog 3 [bufV, .bool sh, .agg (hdCs h).toArray, av] [] (fun w => GE G w [] ∧ Bytes w bufV pre ∧ Asks w av qs) (fun r H' => r = .bool true ∧ H' = []) := by
  refine Spec.of Tryd.func3 rfl Tryd.ntmps3 rfl fun w0 hR => ?_
  obtain ⟨hge, hbuf, hask⟩ := hR
  refine CodeJ.seq ?_
  refine CodeJ.region ?_
  refine OpsJ.op rfl ?_
  refine OpJ.box rfl rfl rfl rfl fun hd hhd => ?_
  refine OpsJ.yld rfl rfl rfl (Yld.assign rfl rfl) ?_
  refine OpsJ.nil ?_
  refine ExJ.thenN ?_
  refine CodeJ.seq ?_
  refine CodeJ.region ?_
  refine OpsJ.yld rfl rfl rfl (Yld.move rfl rfl) ?_
  refine OpsJ.yld rfl rfl rfl (Yld.move rfl rfl) ?_
  refine OpsJ.yld rfl rfl rfl (Yld.loadN (vs := hdCs h) rfl Tryd.underlying25 rfl sz_25 rfl (fun w hI => Inv.whole hI (i := 0) rfl)) ?_
  refine OpsJ.yld rfl rfl rfl (Yld.move rfl rfl) ?_
  refine OpsJ.op rfl ?_
  refine OpJ.call (behind_spec G pre bufV hpre sh h hw qs av hq hn) has_15 rfl rfl rfl rfl rfl [] [0] (by decide) rfl rfl (fun w hI => ⟨hge.call hI (is := []) rfl, hbuf.keep hI.keep (by simp [fp]), Row.keep0 hask hI.keep⟩) ?_
  rintro _ _ ⟨rfl, rfl⟩
  refine OpsJ.yld rfl rfl rfl (Yld.assign rfl rfl) ?_
  refine OpsJ.nil ?_
  refine ExJ.thenN ?_
  refine CodeJ.ret ?_
  exact ExJ.ret1 Tryd.results3 rfl ⟨rfl, rfl⟩ fun w hI => hI.pick (is := []) (by decide) rfl
end Go.Proofs.YtiopioofmkfpgaaDoor
