/-
  The law FnHeadSections: its walk.
-/
import Derived.Test.YtdiememgbnplkaaDoorFactsC
import Derived.Test.YtdiememgbnplkaaDoorMem8
namespace Go.Proofs.YtdiememgbnplkaaDoor
open Go
set_option maxRecDepth 100000

theorem flat_lenR {sz : Nat} : ∀ (l : List (List Value)), (∀ x ∈ l, x.length = sz) → l.flatten.length = l.length * sz
  | [], _ => by simp
  | y :: r, h => by
    have h1 := h y (by simp)
    have h2 := flat_lenR r fun z hz => h z (by simp [hz])
    simp only [List.flatten_cons, List.length_append, List.length_cons, h1, h2, Nat.add_mul]
    omega
theorem Row.from_ {w : World} {sz b off m c : Nat} {xss : List (List Value)} (h : Row w sz (.slice (some ⟨b, off, none⟩) m c) m xss.flatten) (hz : ∀ x ∈ xss, x.length = sz) (hm : m = xss.length) {k c' : Nat} (hk : k ≤ m) : Row w sz (.slice (some ⟨b, off + k * sz, none⟩) (m - k) c') (m - k) (xss.drop k).flatten := by
  subst hm
  have hd : (xss.drop k).flatten.length = (xss.length - k) * sz := by
    rw [flat_lenR _ fun x hx => hz x (List.mem_of_mem_drop hx), List.length_drop]
  have ht : (xss.take k).flatten.length = k * sz := by
    rw [flat_lenR _ fun x hx => hz x (List.mem_of_mem_take hx), List.length_take, Nat.min_eq_left hk]
  have hs : xss.flatten = (xss.take k).flatten ++ (xss.drop k).flatten := by
    rw [← List.flatten_append, List.take_append_drop]
  rcases h with ⟨p, c2, h1, h2, h3⟩ | ⟨b2, off2, c2, h1, hl, hc⟩
  · have hk0 : xss.length - k = 0 := by omega
    refine .inl ⟨_, _, by rw [hk0], hk0, ?_⟩
    rw [hs] at h3
    exact (List.append_eq_nil_iff.1 h3).2
  · simp only [Value.slice.injEq, Option.some.injEq, Addr.mk.injEq] at h1
    obtain ⟨⟨rfl, rfl, _⟩, _, rfl⟩ := h1
    refine .inr ⟨b, off + k * sz, c', rfl, hd, hc.part (k := k * sz) ?_ ?_⟩
    · rw [hs, ← ht, List.drop_left' rfl, List.take_length]
    · rw [hs, List.length_append, ht]
      omega

theorem Row.stepsFrom {w : World} {sb c c' k : Nat} {ss : List StepD} (h : Row w 20 (.slice (some ⟨sb, 0, none⟩) ss.length c) ss.length (ss.map StepD.cells).flatten) (hk : k ≤ ss.length) : Row w 20 (.slice (some ⟨sb, 0 + k * 20, none⟩) (ss.length - k) c') (ss.drop k).length ((ss.drop k).map StepD.cells).flatten := by
  rw [List.length_drop, List.map_drop]
  exact Row.from_ h (fun y hy => by obtain ⟨z, _, rfl⟩ := List.mem_map.1 hy; rfl) (by simp) hk

theorem sections_run (h : Hd) (j : Nat) (hj : j < 4) : RunOk noAdder ((stepsL false [] (List.replicate 3 [])).drop j) false (newB [] h) ∧
    runF noAdder ((stepsL false [] (List.replicate 3 [])).drop j) false (newB [] h) = ({ newB [] h with sec := 5 }, List.replicate (4 - j) 0) := by
  have hb := newB_ok h
  have h2 := hb.sec_ (k := 2) (by decide)
  have h3 := hb.sec_ (k := 3) (by decide)
  have h4 := hb.sec_ (k := 4) (by decide)
  have h5 := hb.sec_ (k := 5) (by decide)
  rcases (by omega : j = 0 ∨ j = 1 ∨ j = 2 ∨ j = 3) with rfl | rfl | rfl | rfl
  · exact ⟨⟨ok_mk _ 2 _ _ hb (Nat.le_of_ble_eq_true rfl) (by decide), ok_mk _ 3 _ _ h2 (Nat.le_of_ble_eq_true rfl) (by decide), ok_mk _ 4 _ _ h3 (Nat.le_of_ble_eq_true rfl) (by decide), ok_mk _ 5 _ _ h4 (Nat.le_of_ble_eq_true rfl) (by decide), h5⟩, rfl⟩
  · exact ⟨⟨ok_mk _ 3 _ _ hb (Nat.le_of_ble_eq_true rfl) (by decide), ok_mk _ 4 _ _ h3 (Nat.le_of_ble_eq_true rfl) (by decide), ok_mk _ 5 _ _ h4 (Nat.le_of_ble_eq_true rfl) (by decide), h5⟩, rfl⟩
  · exact ⟨⟨ok_mk _ 4 _ _ hb (Nat.le_of_ble_eq_true rfl) (by decide), ok_mk _ 5 _ _ h4 (Nat.le_of_ble_eq_true rfl) (by decide), h5⟩, rfl⟩
  · exact ⟨⟨ok_mk _ 5 _ _ hb (Nat.le_of_ble_eq_true rfl) (by decide), h5⟩, rfl⟩

theorem fnHeadSections_spec (G : Nat → Addr) (h : Hd) (hw : h.wf) (x : Nat) : Spec Tryd.prog 10 [.agg (hdCs h).toArray, .int .u8 x] [] (fun w => GE G w []) (fun r H' => r = .bool true ∧ H' = []) := by
  refine Spec.of Tryd.func10 rfl Tryd.ntmps10 rfl fun w0 hge => ?_
  have hx4 : x % 4 < 4 := Nat.mod_lt _ (by decide)
  obtain ⟨hrun, hrf⟩ := sections_run h (x % 4) hx4
  have hdl : ((stepsL false [] (List.replicate 3 [])).drop (x % 4)).length = 4 - x % 4 := by rw [List.length_drop]; rfl
  refine CodeJ.seq ?_
  refine CodeJ.region ?_
  refine OpsJ.op rfl ?_
  refine OpJ.box rfl rfl rfl rfl fun hd hhd => ?_
  refine OpsJ.yld rfl rfl rfl (Yld.assign rfl rfl) ?_
  refine OpsJ.nil ?_
  refine ExJ.thenN ?_
  refine CodeJ.seq ?_
  refine CodeJ.seq ?_
  refine CodeJ.region ?_
  refine OpsJ.yld rfl rfl rfl (Yld.loadN (vs := hdCs h) rfl Tryd.underlying24 rfl sz_24 rfl (fun w hI => Inv.whole hI (i := 0) rfl)) ?_
  refine OpsJ.op rfl ?_
  refine OpJ.call (specHead_spec h) has_16 rfl rfl rfl rfl rfl [] [0] (by decide) rfl rfl (fun _ _ => trivial) ?_
  rintro _ _ ⟨rfl, rfl⟩
  refine OpsJ.op rfl ?_
  refine OpJ.call (headOk_spec h) has_15 rfl rfl rfl rfl rfl [] [0] (by decide) rfl rfl (fun _ _ => trivial) ?_
  rintro _ _ ⟨rfl, rfl⟩
  refine OpsJ.yld rfl rfl rfl (Yld.not rfl rfl) ?_
  refine OpsJ.nil ?_
  refine ExJ.thenN ?_
  refine CodeJ.cond rfl (fun c10 => ?_) (fun c10 => ?_)
  · refine CodeJ.seq ?_
    refine CodeJ.region ?_
    refine OpsJ.yld rfl rfl rfl (Yld.assign rfl rfl) ?_
    refine OpsJ.nil ?_
    refine ExJ.thenN ?_
    refine CodeJ.ret ?_
    refine ExJ.thenR ?_
    exact ExJ.ret1 Tryd.results10 rfl ⟨rfl, rfl⟩ fun w hI => hI.pick (is := []) (by decide) rfl
  · refine CodeJ.skip ?_
    refine ExJ.thenN ?_
    refine CodeJ.seq ?_
    refine CodeJ.region ?_
    refine OpsJ.op rfl ?_
    refine OpJ.buildSlice (xs := [.const (Go.Value.slice Option.none 0 0), .const (Go.Value.slice Option.none 0 0), .const (Go.Value.slice Option.none 0 0)]) elt_81 rfl rfl rfl rfl rfl rfl (by rfl) (by decide) fun lists hlists => ?_
    refine OpsJ.op rfl ?_
    refine OpJ.call (steps_spec false [] (List.replicate 3 []) (.slice none 0 0) _ [.slice none 0 0, .slice none 0 0, .slice none 0 0] rfl (by decide)) has_23 rfl rfl rfl rfl rfl [] [0, 1] (by decide) rfl rfl (fun w hI => ⟨.inl ⟨none, 0, rfl, rfl, rfl⟩, Own.row (hI.hs _ (List.mem_of_getElem? (i := 0) rfl)).1, fun i v rs h1 h2 => by obtain rfl := List.eq_of_mem_replicate (List.mem_of_getElem? h2); have := List.mem_of_getElem? h1; simp at this; subst this; exact recs_nil _ _ _⟩) ?_
    rintro _ _ ⟨p12, c12, rfl, rfl⟩
    refine OpsJ.someOwn (i := 0) rfl (by decide) fun sb hsb hcap => ?_
    subst hsb
    have hcap : 4 ≤ c12 := hcap
    refine OpsJ.yld rfl rfl rfl (Yld.move rfl rfl) ?_
    refine OpsJ.yld rfl rfl rfl (Yld.remN (p := x) (q := 4) rfl rfl rfl (by decide)) ?_
    refine OpsJ.yld rfl rfl rfl (Yld.sliceFrom (lo := x % 4) rfl Tryd.underlying50 sz_49 rfl rfl (by show x % 4 ≤ 4; omega) (by omega)) ?_
    refine OpsJ.yld rfl rfl rfl (Yld.assign rfl rfl) ?_
    refine OpsJ.nil ?_
    refine ExJ.thenN ?_
    refine CodeJ.seq ?_
    refine CodeJ.region ?_
    refine OpsJ.yld rfl rfl rfl (Yld.loadN (vs := hdCs h) rfl Tryd.underlying24 rfl sz_24 rfl (fun w hI => Inv.whole hI (i := 2) rfl)) ?_
    refine OpsJ.yld rfl rfl rfl (Yld.move rfl rfl) ?_
    refine OpsJ.op rfl ?_
    refine OpJ.call (buildAsks_spec G h hw [] (.slice none 0 0) _ ((stepsL false [] (List.replicate 3 [])).drop (x % 4)) (by omega) (by simp) hrun) has_13 rfl rfl rfl rfl rfl [] [0, 1, 2] (by decide) rfl rfl (fun w hI => ⟨hge.call hI (is := []) rfl, .inl ⟨none, 0, rfl, rfl⟩, Row.stepsFrom (Own.row (hI.hs _ (List.mem_of_getElem? (i := 0) rfl)).1) (Nat.le_of_lt hx4), fun s hs => stepsL_rec (fun l hl r hr => by obtain rfl := List.eq_of_mem_replicate hl; cases hr) s (List.mem_of_mem_drop hs)⟩) ?_
    rintro _ _ ⟨p1, c1, p2, c2, rfl, rfl⟩
    rw [hrf]
    simp only
    refine OpsJ.op rfl ?_
    refine OpJ.alloc rfl rfl rfl zero_37 fun got hgot => ?_
    refine OpsJ.op rfl ?_
    refine OpJ.storeW (i := 0) rfl rfl rfl rfl sz_37 rfl rfl rfl ?_
    refine OpsJ.nil ?_
    refine ExJ.thenN ?_
    refine CodeJ.seq ?_
    refine CodeJ.any (fuel := 13) (listed := #[false, false, false, false, false, false, false, false, false, false, false, false, false]) [0, 1, 2, 3, 4, 5] rfl follows_mixed rfl rfl ?_
    refine AnyJ.take (fuel := 12) (listed' := #[true, false, false, false, false, false, false, false, false, false, false, false, false]) 0 rfl (by kernel_rfl) (by kernel_rfl) (by kernel_rfl) rfl rfl rfl rfl (Yld.loadN (vs := [.slice p1 _ c1, .slice p2 _ c2, .int .i64 0]) rfl Tryd.underlying37 rfl sz_37 rfl (fun w hI => Inv.whole hI (i := 0) rfl)) (fun w hI => hI.pick (is := [0, 1, 2, 3, 4, 5]) (by decide) rfl) ?_
    refine AnyJ.take (fuel := 11) (listed' := #[true, true, false, false, false, false, false, false, false, false, false, false, false]) 1 rfl (by kernel_rfl) (by kernel_rfl) (by kernel_rfl) rfl rfl rfl rfl (Yld.move rfl rfl) (fun w hI => hI.pick (is := [0, 1, 2, 3, 4, 5]) (by decide) rfl) ?_
    refine AnyJ.one (fuel := 10) 2 (by kernel_rfl) ?_
    refine StepJ.op (listed' := #[true, true, true, false, false, false, false, false, false, false, false, false, false]) rfl rfl rfl ?_
    refine OpJ.call (fine_spec _ _ (List.replicate (4 - x % 4) 0) _ (4 - x % 4) _ (by rw [List.length_replicate]; omega)) has_21 rfl rfl rfl rfl rfl [] [0, 1, 2, 3, 4, 5] (by decide) rfl rfl (fun w hI => Own.row (hI.hs _ (List.mem_of_getElem? (i := 1) rfl)).1) ?_
    rintro _ _ ⟨rfl, rfl⟩
    refine ⟨fun w hI => hI.pick (is := [0, 1, 2, 3, 4, 5]) (by decide) rfl, ?_⟩
    refine AnyJ.take (fuel := 9) (listed' := #[true, true, true, true, false, false, false, false, false, false, false, false, false]) 3 rfl (by kernel_rfl) (by kernel_rfl) (by kernel_rfl) rfl rfl rfl rfl (Yld.move rfl rfl) (fun w hI => hI.pick (is := [0, 1, 2, 3, 4, 5]) (by decide) rfl) ?_
    refine AnyJ.splitB (s := 22) rfl (fun g22 => ?_) (fun g22 => ?_)
    · refine AnyJ.takeT (fuel := 8) (listed' := #[true, true, true, true, true, false, false, false, false, false, false, false, false]) 4 rfl (by kernel_rfl) (by kernel_rfl) (by kernel_rfl) rfl rfl rfl rfl rfl rfl (Yld.fieldAddr fa_37_1 rfl rfl) (fun w hI => hI.pick (is := [0, 1, 2, 3, 4, 5]) (by decide) rfl) ?_
      refine AnyJ.takeT (fuel := 7) (listed' := #[true, true, true, true, true, true, false, false, false, false, false, false, false]) 5 rfl (by kernel_rfl) (by kernel_rfl) (by kernel_rfl) rfl rfl rfl rfl rfl rfl (Yld.load1 rfl Tryd.underlying29 rfl rfl (fun w hI => Inv.cell1 hI (i := 0) rfl rfl)) (fun w hI => hI.pick (is := [0, 1, 2, 3, 4, 5]) (by decide) rfl) ?_
      refine AnyJ.takeT (fuel := 6) (listed' := #[true, true, true, true, true, true, true, false, false, false, false, false, false]) 6 rfl (by kernel_rfl) (by kernel_rfl) (by kernel_rfl) rfl rfl rfl rfl rfl rfl (Yld.loadN (vs := hdCs h) rfl Tryd.underlying24 rfl sz_24 rfl (fun w hI => Inv.whole hI (i := 5) rfl)) (fun w hI => hI.pick (is := [0, 1, 2, 3, 4, 5]) (by decide) rfl) ?_
      refine AnyJ.two (fuel := 5) 7 8 (by kernel_rfl) ?_ ?_
      · refine StepJ.opT (listed' := #[true, true, true, true, true, true, true, true, false, false, false, false, false]) rfl rfl rfl rfl rfl ?_
        refine OpJ.call (specHead_spec h) has_16 rfl rfl rfl rfl rfl [] [0, 1, 2, 3, 4, 5] (by decide) rfl rfl (fun _ _ => trivial) ?_
        rintro _ _ ⟨rfl, rfl⟩
        refine ⟨fun w hI => hI.pick (is := [0, 1, 2, 3, 4, 5]) (by decide) rfl, ?_⟩
        refine AnyJ.one (fuel := 4) 8 (by kernel_rfl) ?_
        refine StepJ.opT (listed' := #[true, true, true, true, true, true, true, true, true, false, false, false, false]) rfl rfl rfl rfl rfl ?_
        refine OpJ.buildSlice (xs := [.const (Go.Value.int Go.IntKind.i64 0), .const (Go.Value.int Go.IntKind.i64 0), .const (Go.Value.int Go.IntKind.i64 0), .const (Go.Value.int Go.IntKind.i64 0)]) elt_35 rfl rfl rfl rfl rfl rfl (by rfl) (by decide) fun ns hns => ?_
        refine ⟨fun w hI => hI.pick (is := [1, 2, 3, 4, 5, 6]) (by decide) rfl, ?_⟩
        refine AnyJ.one (fuel := 3) 9 (by kernel_rfl) ?_
        refine StepJ.opT (listed' := #[true, true, true, true, true, true, true, true, true, true, false, false, false]) rfl rfl rfl rfl rfl ?_
        refine OpJ.call (headWire_spec h hw _ [0, 0, 0, 0] (by simp)) has_22 rfl rfl rfl rfl rfl [] [0, 1, 2, 3, 4, 5, 6] (by decide) rfl rfl (fun w hI => Own.row (hI.hs _ (List.mem_of_getElem? (i := 0) rfl)).1) ?_
        rintro _ _ ⟨p28, c28, rfl, rfl⟩
        refine ⟨fun w hI => hI.pick (is := [2, 3, 4, 5, 6, 7]) (by decide) rfl, ?_⟩
        refine AnyJ.one (fuel := 2) 10 (by kernel_rfl) ?_
        refine StepJ.opT (listed' := #[true, true, true, true, true, true, true, true, true, true, true, false, false]) rfl rfl rfl rfl rfl ?_
        refine OpJ.call (same_spec _ _ _ (headWire h [0, 0, 0, 0])) has_17 rfl rfl rfl rfl rfl [] [0, 1, 2, 3, 4, 5, 6, 7] (by decide) rfl rfl (fun w hI => ⟨Inv.bytes (k := 4) rfl w hI, Inv.bytes (k := 0) rfl w hI⟩) ?_
        rintro _ _ ⟨rfl, rfl⟩
        refine ⟨fun w hI => hI.pick (is := [2, 3, 4, 5, 6, 7]) (by decide) rfl, ?_⟩
        refine AnyJ.take (fuel := 1) (listed' := #[true, true, true, true, true, true, true, true, true, true, true, true, false]) 11 rfl (by kernel_rfl) (by kernel_rfl) (by kernel_rfl) rfl rfl rfl rfl (Yld.pickT rfl rfl rfl) (fun w hI => hI.pick (is := [2, 3, 4, 5, 6, 7]) (by decide) rfl) ?_
        refine AnyJ.take (fuel := 0) (listed' := #[true, true, true, true, true, true, true, true, true, true, true, true, true]) 12 rfl (by kernel_rfl) (by kernel_rfl) (by kernel_rfl) rfl rfl rfl rfl (Yld.assign rfl rfl) (fun w hI => hI.pick (is := [2, 3, 4, 5, 6, 7]) (by decide) rfl) ?_
        refine AnyJ.done (by kernel_rfl) ?_
        refine ExJ.thenN ?_
        refine CodeJ.ret ?_
        exact ExJ.ret1 Tryd.results10 rfl ⟨by rw [show ({ newB [] h with sec := 5 } : Bd).fin = headWire h [0, 0, 0, 0] from newB_fin h]; simp, rfl⟩ fun w hI => hI.pick (is := []) (by decide) rfl
      · refine StepJ.opT (listed' := #[true, true, true, true, true, true, true, false, true, false, false, false, false]) rfl rfl rfl rfl rfl ?_
        refine OpJ.buildSlice (xs := [.const (Go.Value.int Go.IntKind.i64 0), .const (Go.Value.int Go.IntKind.i64 0), .const (Go.Value.int Go.IntKind.i64 0), .const (Go.Value.int Go.IntKind.i64 0)]) elt_35 rfl rfl rfl rfl rfl rfl (by rfl) (by decide) fun ns hns => ?_
        refine ⟨fun w hI => hI.pick (is := [1, 2, 3, 4, 5, 6]) (by decide) rfl, ?_⟩
        refine AnyJ.one (fuel := 4) 7 (by kernel_rfl) ?_
        refine StepJ.opT (listed' := #[true, true, true, true, true, true, true, true, true, false, false, false, false]) rfl rfl rfl rfl rfl ?_
        refine OpJ.call (specHead_spec h) has_16 rfl rfl rfl rfl rfl [] [0, 1, 2, 3, 4, 5, 6] (by decide) rfl rfl (fun _ _ => trivial) ?_
        rintro _ _ ⟨rfl, rfl⟩
        refine ⟨fun w hI => hI.pick (is := [1, 2, 3, 4, 5, 6]) (by decide) rfl, ?_⟩
        refine AnyJ.one (fuel := 3) 9 (by kernel_rfl) ?_
        refine StepJ.opT (listed' := #[true, true, true, true, true, true, true, true, true, true, false, false, false]) rfl rfl rfl rfl rfl ?_
        refine OpJ.call (headWire_spec h hw _ [0, 0, 0, 0] (by simp)) has_22 rfl rfl rfl rfl rfl [] [0, 1, 2, 3, 4, 5, 6] (by decide) rfl rfl (fun w hI => Own.row (hI.hs _ (List.mem_of_getElem? (i := 0) rfl)).1) ?_
        rintro _ _ ⟨p28, c28, rfl, rfl⟩
        refine ⟨fun w hI => hI.pick (is := [2, 3, 4, 5, 6, 7]) (by decide) rfl, ?_⟩
        refine AnyJ.one (fuel := 2) 10 (by kernel_rfl) ?_
        refine StepJ.opT (listed' := #[true, true, true, true, true, true, true, true, true, true, true, false, false]) rfl rfl rfl rfl rfl ?_
        refine OpJ.call (same_spec _ _ _ (headWire h [0, 0, 0, 0])) has_17 rfl rfl rfl rfl rfl [] [0, 1, 2, 3, 4, 5, 6, 7] (by decide) rfl rfl (fun w hI => ⟨Inv.bytes (k := 4) rfl w hI, Inv.bytes (k := 0) rfl w hI⟩) ?_
        rintro _ _ ⟨rfl, rfl⟩
        refine ⟨fun w hI => hI.pick (is := [2, 3, 4, 5, 6, 7]) (by decide) rfl, ?_⟩
        refine AnyJ.take (fuel := 1) (listed' := #[true, true, true, true, true, true, true, true, true, true, true, true, false]) 11 rfl (by kernel_rfl) (by kernel_rfl) (by kernel_rfl) rfl rfl rfl rfl (Yld.pickT rfl rfl rfl) (fun w hI => hI.pick (is := [2, 3, 4, 5, 6, 7]) (by decide) rfl) ?_
        refine AnyJ.take (fuel := 0) (listed' := #[true, true, true, true, true, true, true, true, true, true, true, true, true]) 12 rfl (by kernel_rfl) (by kernel_rfl) (by kernel_rfl) rfl rfl rfl rfl (Yld.assign rfl rfl) (fun w hI => hI.pick (is := [2, 3, 4, 5, 6, 7]) (by decide) rfl) ?_
        refine AnyJ.done (by kernel_rfl) ?_
        refine ExJ.thenN ?_
        refine CodeJ.ret ?_
        exact ExJ.ret1 Tryd.results10 rfl ⟨by rw [show ({ newB [] h with sec := 5 } : Bd).fin = headWire h [0, 0, 0, 0] from newB_fin h]; simp, rfl⟩ fun w hI => hI.pick (is := []) (by decide) rfl
    · exact absurd g22 (by rw [all_zero]; decide)
end Go.Proofs.YtdiememgbnplkaaDoor
