/-
  The law FnAsks: its walk.
-/
import Derived.Test.YtdiememgbnplkaaDoorPk
import Derived.Test.YtdiememgbnplkaaDoorMsg
namespace Go.Proofs.YtdiememgbnplkaaDoor
open Go
set_option maxRecDepth 100000

/-- no records -/
def K0 : Kind := ⟨fun _ => true, fun _ => [], fun _ => 0⟩
theorem stepsL_rec {w : World} {sh : Bool} {qs : List AskD} {secs : List (List RecD)} (h : ∀ l ∈ secs, ∀ r ∈ l, RecOk w r) : ∀ s ∈ stepsL sh qs secs, RecOk w s.rec_ := by
  have key : ∀ (secs : List (List RecD)) (i : Nat), (∀ l ∈ secs, ∀ r ∈ l, RecOk w r) → ∀ s ∈ secSteps i secs, RecOk w s.rec_ := by
    intro secs
    induction secs with
    | nil => intro i _ s hs; cases hs
    | cons l r ih =>
      intro i h s hs
      simp only [secSteps, List.mem_cons, List.mem_append, List.mem_map] at hs
      rcases hs with rfl | ⟨x, hx, rfl⟩ | hs
      · exact zRec_ok w
      · exact h l (by simp) x hx
      · exact ih (i + 1) (fun l' hl' => h l' (by simp [hl'])) s hs
  intro s hs
  simp only [stepsL, List.mem_append, List.mem_cons, List.mem_map] at hs
  rcases hs with hs | rfl | ⟨x, hx, rfl⟩ | hs
  · cases sh
    · cases hs
    · simp at hs
      subst hs
      exact zRec_ok w
  · exact zRec_ok w
  · exact zRec_ok w
  · exact key secs 0 h s hs
/-- what the steps of questions give -/
theorem asks_all (h : Hd) (on : Bool) (k : Nat) (hk : k ≤ 3) (qs : List AskD) (hn : ∀ a ∈ qs, nameOk a.name.data.toList = true) (hl : qs.length < 60000) : ∃ ys m', RunOk noAdder (stepsL on qs (List.replicate k [])) false (newB [] h) ∧
    runF noAdder (stepsL on qs (List.replicate k [])) false (newB [] h) = ({ newB [] h with buf := zero12 ++ ys, sec := 2 + k, q := qs.length, m := m' }, List.replicate (stepsL on qs (List.replicate k [])).length 0) ∧ ys.length ≤ 600 * qs.length ∧ (on = false → ys = (qs.map askWire).flatten) := by
  have hb0 := newB_ok h
  obtain ⟨ys, m', hb, hw, hy, hr, hf⟩ := asks_run noAdder on (secSteps 0 (List.replicate k [])) qs { newB [] h with sec := 2 } hn rfl (hb0.sec_ (by decide)) (by simp [newB]; omega) (by simp [newB, zero12]; omega)
  simp only [newB, List.nil_append, Nat.zero_add] at hb hr hf
  have htail : RunOk noAdder (secSteps 0 (List.replicate k [])) on ⟨zero12 ++ ys, ([] : List UInt8).length, 2, h.id, h.bits, qs.length, 0, 0, 0, m'⟩ ∧
      runF noAdder (secSteps 0 (List.replicate k [])) on ⟨zero12 ++ ys, ([] : List UInt8).length, 2, h.id, h.bits, qs.length, 0, 0, 0, m'⟩ = (⟨zero12 ++ ys, ([] : List UInt8).length, 2 + k, h.id, h.bits, qs.length, 0, 0, 0, m'⟩, List.replicate k 0) := by
    have h3 := hb.sec_ (k := 3) (by decide)
    have h4 := hb.sec_ (k := 4) (by decide)
    have h5 := hb.sec_ (k := 5) (by decide)
    rcases (by omega : k = 0 ∨ k = 1 ∨ k = 2 ∨ k = 3) with rfl | rfl | rfl | rfl
    · exact ⟨hb, rfl⟩
    · exact ⟨⟨ok_mk _ 3 _ _ hb (Nat.le_of_ble_eq_true rfl) (by decide), h3⟩, rfl⟩
    · exact ⟨⟨ok_mk _ 3 _ _ hb (Nat.le_of_ble_eq_true rfl) (by decide), ok_mk _ 4 _ _ h3 (Nat.le_of_ble_eq_true rfl) (by decide), h4⟩, rfl⟩
    · exact ⟨⟨ok_mk _ 3 _ _ hb (Nat.le_of_ble_eq_true rfl) (by decide), ok_mk _ 4 _ _ h3 (Nat.le_of_ble_eq_true rfl) (by decide), ok_mk _ 5 _ _ h4 (Nat.le_of_ble_eq_true rfl) (by decide), h5⟩, rfl⟩
  rw [htail.2] at hf
  have hlen : (secSteps 0 (List.replicate k [])).length = k := by
    rcases (by omega : k = 0 ∨ k = 1 ∨ k = 2 ∨ k = 3) with rfl | rfl | rfl | rfl <;> rfl
  refine ⟨ys, m', ?_, ?_, hy, fun ho => (hw ho).1⟩
  · cases on
    · exact ⟨ok_mk _ 2 _ _ hb0 (Nat.le_of_ble_eq_true rfl) (by decide), hr htail.1⟩
    · exact ⟨ok_on _ _ _ hb0, ok_mk _ 2 _ _ hb0.off (Nat.le_of_ble_eq_true rfl) (by decide), hr htail.1⟩
  · cases on
    · simp only [stepsL, Bool.false_eq_true, if_false, List.nil_append, runF, step_mk noAdder 2 false _ (by decide) (by decide)]
      simp only [newB, List.nil_append, hf]
      simp only [List.length_cons, List.length_append, List.length_map, hlen, List.replicate_succ, ← List.replicate_append_replicate]
    · simp only [stepsL, if_true, List.singleton_append, runF, step_on, step_mk noAdder 2 true _ (by decide) (by decide)]
      simp only [newB, List.nil_append, hf]
      simp only [List.length_cons, List.length_append, List.length_map, hlen, List.replicate_succ, ← List.replicate_append_replicate]
theorem fin_asks (h : Hd) (ys : List UInt8) (s q : Nat) (m' : List (List UInt8 × Nat)) (hq : q < 65536) : ({ newB [] h with buf := zero12 ++ ys, sec := s, q := q, m := m' } : Bd).fin = headWire h [q, 0, 0, 0] ++ ys := by
  have : q % 65536 = q := Nat.mod_eq_of_lt hq
  simp [Bd.fin, newB, zero12, hd12, headWire, this]
theorem all_zero (n : Nat) : ((List.replicate n 0).all (· == 0) && decide ((List.replicate n 0).length = n)) = true := by simp

theorem ok_asks {h : Hd} {a b c d : Value} {qs : List AskD} (hk : K0.okB ⟨h, a, qs, b, [], c, [], d, []⟩ = true) : (∀ x ∈ qs, nameOk x.name.data.toList = true) ∧ qs.length < 60000 ∧ h.ok = true := by
  simp only [Kind.okB, Bool.and_eq_true, List.all_eq_true, decide_eq_true_eq] at hk
  exact ⟨hk.1.1.1.1.1.1.1.1.1, hk.1.1.1.1.2, hk.1.1.1.1.1.2⟩

theorem plain_spec (G : Nat → Addr) (h : Hd) (hw : h.wf) (qs : List AskD) (av : Value) (hq : ∀ a ∈ qs, a.wf) (hn : qs.length * 24 ≤ 140737488351232) :
    Spec Tryd.prog 12 [.func (.func 13) #[] #[], .int .i64 0, .agg (hdCs h).toArray, av, .slice none 0 0, .slice none 0 0, .slice none 0 0] [] (fun w => GE G w [] ∧ Asks w av qs) (fun r H' => r = .bool true ∧ H' = []) := by
  refine Spec.of Tryd.func12 rfl Tryd.ntmps12 rfl fun w0 hR => ?_
  obtain ⟨hge, hask⟩ := hR
  refine CodeJ.seq ?_
  refine CodeJ.region ?_
  refine OpsJ.op rfl ?_
  refine OpJ.box rfl rfl rfl rfl fun hd hhd => ?_
  refine OpsJ.yld rfl rfl rfl (Yld.assign rfl rfl) ?_
  refine OpsJ.nil ?_
  refine ExJ.thenN ?_
  refine CodeJ.seq ?_
  refine CodeJ.region ?_
  refine OpsJ.yld rfl rfl rfl (Yld.move rfl rfl) ?_
  refine OpsJ.yld rfl rfl rfl (Yld.loadN (vs := hdCs h) rfl Tryd.underlying24 rfl sz_24 rfl (fun w hI => Inv.whole hI (i := 0) rfl)) ?_
  refine OpsJ.yld rfl rfl rfl (Yld.move rfl rfl) ?_
  refine OpsJ.yld rfl rfl rfl (Yld.move rfl rfl) ?_
  refine OpsJ.yld rfl rfl rfl (Yld.move rfl rfl) ?_
  refine OpsJ.yld rfl rfl rfl (Yld.move rfl rfl) ?_
  refine OpsJ.op rfl ?_
  refine OpJ.call (message_spec 0 ⟨h, av, qs, .slice none 0 0, [], .slice none 0 0, [], .slice none 0 0, []⟩ ⟨hn, by simp, by simp, by simp, by simp⟩) has_20 rfl rfl rfl rfl rfl [] [0] (by decide) rfl rfl (fun w hI => ⟨Row.keep0 hask hI.keep, recs_nil _ _ _, recs_nil _ _ _, recs_nil _ _ _⟩) ?_
  rintro _ _ ⟨m', q, bs, hq', rfl, hof, hmem, rfl⟩
  obtain ⟨va, v1, v2, v3, rfl⟩ := hof.nil
  refine OpsJ.op rfl ?_
  refine OpJ.alloc rfl rfl rfl zero_55 fun mb hmb => ?_
  refine OpsJ.op rfl ?_
  refine OpJ.storeW (i := 0) rfl rfl rfl rfl sz_55 rfl hof.ones rfl ?_
  refine OpsJ.nil ?_
  refine ExJ.thenN ?_
  refine CodeJ.seq ?_
  refine CodeJ.seq ?_
  refine CodeJ.region ?_
  refine OpsJ.yld rfl rfl rfl (Yld.loadN (vs := MsgD.cells ⟨h, va, qs, v1, [], v2, [], v3, []⟩) rfl Tryd.underlying55 rfl sz_55 rfl (fun w hI => Inv.whole hI (i := 0) rfl)) ?_
  refine OpsJ.op rfl ?_
  refine OpJ.call (ok_spec K0 ⟨h, va, qs, v1, [], v2, [], v3, []⟩ K0.meets_nil (fun a ha => by have := (hq a ha).2.2; omega) (by simp) (by simp; omega)) has_25 rfl rfl rfl rfl rfl [] [0, 1, 2] (by decide) rfl rfl (fun w hI => (hmem w (hI.roGet (i := 1) rfl)).ok hof (by simp)) ?_
  rintro _ _ ⟨rfl, rfl⟩
  refine OpsJ.yld rfl rfl rfl (Yld.not rfl rfl) ?_
  refine OpsJ.nil ?_
  refine ExJ.thenN ?_
  refine CodeJ.cond rfl (fun c27 => ?_) (fun c27 => ?_)
  · refine CodeJ.seq ?_
    refine CodeJ.region ?_
    refine OpsJ.yld rfl rfl rfl (Yld.assign rfl rfl) ?_
    refine OpsJ.nil ?_
    refine ExJ.thenN ?_
    refine CodeJ.ret ?_
    refine ExJ.thenR ?_
    exact ExJ.ret1 Tryd.results12 rfl ⟨rfl, rfl⟩ fun w hI => hI.pick (is := []) (by decide) rfl
  · obtain ⟨hall, hlt, _⟩ := ok_asks (by simpa using c27)
    obtain ⟨ys, mt, hrun, hrf, hyl, hys⟩ := asks_all h false 3 (by decide) qs hall hlt
    obtain rfl := hys rfl
    have hsl : (stepsL false qs (List.replicate 3 [])).length = qs.length + 4 := by simp [stepsL, secSteps, List.replicate]
    refine CodeJ.skip ?_
    refine ExJ.thenN ?_
    refine CodeJ.seq ?_
    refine CodeJ.region ?_
    refine OpsJ.yld rfl rfl rfl (Yld.move rfl rfl) ?_
    refine OpsJ.yld rfl rfl rfl (Yld.move rfl rfl) ?_
    refine OpsJ.yld rfl rfl rfl (Yld.move rfl rfl) ?_
    refine OpsJ.yld rfl rfl rfl (Yld.move rfl rfl) ?_
    refine OpsJ.op rfl ?_
    refine OpJ.buildSlice (xs := [.tmp 29, .tmp 30, .tmp 31]) elt_81 rfl rfl rfl rfl rfl rfl (by rfl) (by decide) fun lists hlists => ?_
    refine OpsJ.op rfl ?_
    refine OpJ.call (steps_spec false qs (List.replicate 3 []) av _ [.slice none 0 0, .slice none 0 0, .slice none 0 0] rfl (by omega)) has_23 rfl rfl rfl rfl rfl [] [0, 1, 2, 3] (by decide) rfl rfl (fun w hI => ⟨Row.keep0 hask hI.keep, Own.row (hI.hs _ (List.mem_of_getElem? (i := 0) rfl)).1, fun i v rs h1 h2 => by obtain rfl := List.eq_of_mem_replicate (List.mem_of_getElem? h2); have := List.mem_of_getElem? h1; simp at this; subst this; exact recs_nil _ _ _⟩) ?_
    rintro _ _ ⟨p33, c33, rfl, rfl⟩
    refine OpsJ.yld rfl rfl rfl (Yld.assign rfl rfl) ?_
    refine OpsJ.nil ?_
    refine ExJ.thenN ?_
    refine CodeJ.seq ?_
    refine CodeJ.region ?_
    refine OpsJ.yld rfl rfl rfl (Yld.move rfl rfl) ?_
    refine OpsJ.yld rfl rfl rfl (Yld.loadN (vs := hdCs h) rfl Tryd.underlying24 rfl sz_24 rfl (fun w hI => Inv.whole hI (i := 4) rfl)) ?_
    refine OpsJ.yld rfl rfl rfl (Yld.move rfl rfl) ?_
    refine OpsJ.op rfl ?_
    refine OpJ.call (buildAsks_spec G h hw [] (.slice none 0 0) _ (stepsL false qs (List.replicate 3 [])) (by omega) (by simp) hrun) has_13 rfl rfl rfl rfl rfl [] [0, 1, 2, 3, 4] (by decide) rfl rfl (fun w hI => ⟨hge.call hI (is := []) rfl, .inl ⟨none, 0, rfl, rfl⟩, Own.row (hI.hs _ (List.mem_of_getElem? (i := 0) rfl)).1, stepsL_rec (fun l hl r hr => by obtain rfl := List.eq_of_mem_replicate hl; cases hr)⟩) ?_
    rintro _ _ ⟨p1, c1, p2, c2, rfl, rfl⟩
    rw [hrf]
    simp only
    refine OpsJ.op rfl ?_
    refine OpJ.alloc rfl rfl rfl zero_37 fun got hgot => ?_
    refine OpsJ.op rfl ?_
    refine OpJ.storeW (i := 0) rfl rfl rfl rfl sz_37 rfl rfl rfl ?_
    refine OpsJ.nil ?_
    refine ExJ.thenN ?_
    refine CodeJ.seq ?_
    refine CodeJ.any (fuel := 11) (listed := #[false, false, false, false, false, false, false, false, false, false, false]) [0, 1, 2, 3, 4, 5, 6, 7] rfl follows_mixed rfl rfl ?_
    refine AnyJ.take (fuel := 10) (listed' := #[true, false, false, false, false, false, false, false, false, false, false]) 0 rfl (by kernel_rfl) (by kernel_rfl) (by kernel_rfl) rfl rfl rfl rfl (Yld.loadN (vs := [.slice p1 _ c1, .slice p2 _ c2, .int .i64 0]) rfl Tryd.underlying37 rfl sz_37 rfl (fun w hI => Inv.whole hI (i := 0) rfl)) (fun w hI => hI.pick (is := [0, 1, 2, 3, 4, 5, 6, 7]) (by decide) rfl) ?_
    refine AnyJ.take (fuel := 9) (listed' := #[true, true, false, false, false, false, false, false, false, false, false]) 1 rfl (by kernel_rfl) (by kernel_rfl) (by kernel_rfl) rfl rfl rfl rfl (Yld.move rfl rfl) (fun w hI => hI.pick (is := [0, 1, 2, 3, 4, 5, 6, 7]) (by decide) rfl) ?_
    refine AnyJ.one (fuel := 8) 2 (by kernel_rfl) ?_
    refine StepJ.op (listed' := #[true, true, true, false, false, false, false, false, false, false, false]) rfl rfl rfl ?_
    refine OpJ.call (fine_spec _ _ (List.replicate (stepsL false qs (List.replicate 3 [])).length 0) p33 (stepsL false qs (List.replicate 3 [])).length c33 (by rw [List.length_replicate]; omega)) has_21 rfl rfl rfl rfl rfl [] [0, 1, 2, 3, 4, 5, 6, 7] (by decide) rfl rfl (fun w hI => Own.row (hI.hs _ (List.mem_of_getElem? (i := 1) rfl)).1) ?_
    rintro _ _ ⟨rfl, rfl⟩
    refine ⟨fun w hI => hI.pick (is := [0, 1, 2, 3, 4, 5, 6, 7]) (by decide) rfl, ?_⟩
    refine AnyJ.take (fuel := 7) (listed' := #[true, true, true, true, false, false, false, false, false, false, false]) 3 rfl (by kernel_rfl) (by kernel_rfl) (by kernel_rfl) rfl rfl rfl rfl (Yld.move rfl rfl) (fun w hI => hI.pick (is := [0, 1, 2, 3, 4, 5, 6, 7]) (by decide) rfl) ?_
    refine AnyJ.splitB (s := 41) rfl (fun g41 => ?_) (fun g41 => ?_)
    · refine AnyJ.takeT (fuel := 6) (listed' := #[true, true, true, true, true, false, false, false, false, false, false]) 4 rfl (by kernel_rfl) (by kernel_rfl) (by kernel_rfl) rfl rfl rfl rfl rfl rfl (Yld.fieldAddr fa_37_1 rfl rfl) (fun w hI => hI.pick (is := [0, 1, 2, 3, 4, 5, 6, 7]) (by decide) rfl) ?_
      refine AnyJ.takeT (fuel := 5) (listed' := #[true, true, true, true, true, true, false, false, false, false, false]) 5 rfl (by kernel_rfl) (by kernel_rfl) (by kernel_rfl) rfl rfl rfl rfl rfl rfl (Yld.load1 rfl Tryd.underlying29 rfl rfl (fun w hI => Inv.cell1 hI (i := 0) rfl rfl)) (fun w hI => hI.pick (is := [0, 1, 2, 3, 4, 5, 6, 7]) (by decide) rfl) ?_
      refine AnyJ.takeT (fuel := 4) (listed' := #[true, true, true, true, true, true, true, false, false, false, false]) 6 rfl (by kernel_rfl) (by kernel_rfl) (by kernel_rfl) rfl rfl rfl rfl rfl rfl (Yld.loadN (vs := MsgD.cells ⟨h, va, qs, v1, [], v2, [], v3, []⟩) rfl Tryd.underlying55 rfl sz_55 rfl (fun w hI => Inv.whole hI (i := 5) rfl)) (fun w hI => hI.pick (is := [0, 1, 2, 3, 4, 5, 6, 7]) (by decide) rfl) ?_
      refine AnyJ.one (fuel := 3) 7 (by kernel_rfl) ?_
      refine StepJ.opT (listed' := #[true, true, true, true, true, true, true, true, false, false, false]) rfl rfl rfl rfl rfl ?_
      refine OpJ.call (messageWire_spec K0 ⟨h, va, qs, v1, [], v2, [], v3, []⟩ hw K0.writes_nil (fun a ha => nameOk_size _ (hall a ha)) ⟨hlt, by simp, by simp, by simp⟩) has_19 rfl rfl rfl rfl rfl [] [0, 1, 2, 3, 4, 5, 6, 7] (by decide) rfl rfl (fun w hI => (hmem w (hI.roGet (i := 6) rfl)).ok hof (by simp)) ?_
      rintro _ _ ⟨p45, c45, rfl, rfl⟩
      refine ⟨fun w hI => hI.pick (is := [1, 2, 3, 4, 5, 6, 7, 8]) (by decide) rfl, ?_⟩
      refine AnyJ.one (fuel := 2) 8 (by kernel_rfl) ?_
      refine StepJ.opT (listed' := #[true, true, true, true, true, true, true, true, true, false, false]) rfl rfl rfl rfl rfl ?_
      refine OpJ.call (same_spec _ _ _ (K0.wire ⟨h, va, qs, v1, [], v2, [], v3, []⟩)) has_17 rfl rfl rfl rfl rfl [] [0, 1, 2, 3, 4, 5, 6, 7, 8] (by decide) rfl rfl (fun w hI => ⟨Inv.bytes (k := 3) rfl w hI, Inv.bytes (k := 0) rfl w hI⟩) ?_
      rintro _ _ ⟨rfl, rfl⟩
      refine ⟨fun w hI => hI.pick (is := [1, 2, 3, 4, 5, 6, 7, 8]) (by decide) rfl, ?_⟩
      refine AnyJ.take (fuel := 1) (listed' := #[true, true, true, true, true, true, true, true, true, true, false]) 9 rfl (by kernel_rfl) (by kernel_rfl) (by kernel_rfl) rfl rfl rfl rfl (Yld.pickT rfl rfl rfl) (fun w hI => hI.pick (is := [1, 2, 3, 4, 5, 6, 7, 8]) (by decide) rfl) ?_
      refine AnyJ.take (fuel := 0) (listed' := #[true, true, true, true, true, true, true, true, true, true, true]) 10 rfl (by kernel_rfl) (by kernel_rfl) (by kernel_rfl) rfl rfl rfl rfl (Yld.assign rfl rfl) (fun w hI => hI.pick (is := [1, 2, 3, 4, 5, 6, 7, 8]) (by decide) rfl) ?_
      refine AnyJ.done (by kernel_rfl) ?_
      refine ExJ.thenN ?_
      refine CodeJ.ret ?_
      exact ExJ.ret1 Tryd.results12 rfl ⟨by rw [fin_asks h _ _ _ _ (by omega)]; simp [Kind.wire], rfl⟩ fun w hI => hI.pick (is := []) (by decide) rfl
    · exact absurd g41 (by rw [all_zero]; decide)

theorem fnAsks_spec (G : Nat → Addr) (h : Hd) (hw : h.wf) (qs : List AskD) (av : Value) (hq : ∀ a ∈ qs, a.wf) (hn : qs.length * 24 ≤ 140737488351232) :
    Spec Tryd.prog 3 [.agg (hdCs h).toArray, av] [] (fun w => GE G w [] ∧ Asks w av qs) (fun r H' => r = .bool true ∧ H' = []) := by
  refine Spec.of Tryd.func3 rfl Tryd.ntmps3 rfl fun w0 hR => ?_
  obtain ⟨hge, hask⟩ := hR
  refine CodeJ.seq ?_
  refine CodeJ.region ?_
  refine OpsJ.op rfl ?_
  refine OpJ.box rfl rfl rfl rfl fun hd hhd => ?_
  refine OpsJ.yld rfl rfl rfl (Yld.assign rfl rfl) ?_
  refine OpsJ.nil ?_
  refine ExJ.thenN ?_
  refine CodeJ.seq ?_
  refine CodeJ.region ?_
  refine OpsJ.yld rfl rfl rfl (Yld.loadN (vs := hdCs h) rfl Tryd.underlying24 rfl sz_24 rfl (fun w hI => Inv.whole hI (i := 0) rfl)) ?_
  refine OpsJ.yld rfl rfl rfl (Yld.move rfl rfl) ?_
  refine OpsJ.op rfl ?_
  refine OpJ.call (plain_spec G h hw qs av hq hn) has_12 rfl rfl rfl rfl rfl [] [0] (by decide) rfl rfl (fun w hI => ⟨hge.call hI (is := []) rfl, Row.keep0 hask hI.keep⟩) ?_
  rintro _ _ ⟨rfl, rfl⟩
  refine OpsJ.yld rfl rfl rfl (Yld.assign rfl rfl) ?_
  refine OpsJ.nil ?_
  refine ExJ.thenN ?_
  refine CodeJ.ret ?_
  exact ExJ.ret1 Tryd.results3 rfl ⟨rfl, rfl⟩ fun w hI => hI.pick (is := []) (by decide) rfl
end Go.Proofs.YtdiememgbnplkaaDoor
