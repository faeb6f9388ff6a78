/-
  The law FnHead.
-/
import Derived.Test.YtdiememgbnplkaaDoorAsks
import Derived.Test.YtdiememgbnplkaaDoorLawA
import Derived.Test.YtdiememgbnplkaaDoorSpecC
namespace Go.Proofs.YtdiememgbnplkaaDoor
open Go
set_option maxRecDepth 100000

theorem newB_ok (h : Hd) : BdOk (newB [] h) := ⟨by simp [newB], by simp [newB, zero12], by simp [newB, zero12], by simp [newB]⟩
theorem newB_fin (h : Hd) : (newB [] h).fin = headWire h [0, 0, 0, 0] := by
  simp [Bd.fin, newB, zero12, hd12, headWire]

theorem fnHead_spec (G : Nat → Addr) (h : Hd) (hw : h.wf) : Spec Tryd.prog 9 [.agg (hdCs h).toArray] [] (fun w => GE G w []) (fun r H' => r = .bool true ∧ H' = []) := by
  refine Spec.of Tryd.func9 rfl Tryd.ntmps9 rfl fun w0 hge => ?_
  refine CodeJ.seq ?_
  refine CodeJ.region ?_
  refine OpsJ.op rfl ?_
  refine OpJ.box rfl rfl rfl rfl fun hd hhd => ?_
  refine OpsJ.yld rfl rfl rfl (Yld.assign rfl rfl) ?_
  refine OpsJ.nil ?_
  refine ExJ.thenN ?_
  refine CodeJ.seq ?_
  refine CodeJ.seq ?_
  refine CodeJ.region ?_
  refine OpsJ.yld rfl rfl rfl (Yld.loadN (vs := hdCs h) rfl Tryd.underlying24 rfl sz_24 rfl (fun w hI => Inv.whole hI (i := 0) rfl)) ?_
  refine OpsJ.op rfl ?_
  refine OpJ.call (specHead_spec h) has_16 rfl rfl rfl rfl rfl [] [0] (by decide) rfl rfl (fun _ _ => trivial) ?_
  rintro _ _ ⟨rfl, rfl⟩
  refine OpsJ.op rfl ?_
  refine OpJ.call (headOk_spec h) has_15 rfl rfl rfl rfl rfl [] [0] (by decide) rfl rfl (fun _ _ => trivial) ?_
  rintro _ _ ⟨rfl, rfl⟩
  refine OpsJ.yld rfl rfl rfl (Yld.not rfl rfl) ?_
  refine OpsJ.nil ?_
  refine ExJ.thenN ?_
  refine CodeJ.cond rfl (fun c7 => ?_) (fun c7 => ?_)
  · refine CodeJ.seq ?_
    refine CodeJ.region ?_
    refine OpsJ.yld rfl rfl rfl (Yld.assign rfl rfl) ?_
    refine OpsJ.nil ?_
    refine ExJ.thenN ?_
    refine CodeJ.ret ?_
    refine ExJ.thenR ?_
    exact ExJ.ret1 Tryd.results9 rfl ⟨rfl, rfl⟩ fun w hI => hI.pick (is := []) (by decide) rfl
  · refine CodeJ.skip ?_
    refine ExJ.thenN ?_
    refine CodeJ.seq ?_
    refine CodeJ.region ?_
    refine OpsJ.yld rfl rfl rfl (Yld.loadN (vs := hdCs h) rfl Tryd.underlying24 rfl sz_24 rfl (fun w hI => Inv.whole hI (i := 0) rfl)) ?_
    refine OpsJ.op rfl ?_
    refine OpJ.call (buildAsks_spec G h hw [] (.slice none 0 0) (.slice none 0 0) [] (by simp) (by simp) (newB_ok h)) has_13 rfl rfl rfl rfl rfl [] [0] (by decide) rfl rfl (fun w hI => ⟨hge.call hI (is := []) rfl, .inl ⟨none, 0, rfl, rfl⟩, .inl ⟨none, 0, rfl, rfl, rfl⟩, by simp⟩) ?_
    rintro _ _ ⟨p1, c1, p2, c2, rfl, rfl⟩
    refine OpsJ.op rfl ?_
    refine OpJ.alloc rfl rfl rfl zero_37 fun got hgot => ?_
    refine OpsJ.op rfl ?_
    refine OpJ.storeW (i := 0) rfl rfl rfl rfl sz_37 rfl rfl rfl ?_
    refine OpsJ.nil ?_
    refine ExJ.thenN ?_
    refine CodeJ.seq ?_
    refine CodeJ.any (fuel := 12) (listed := #[false, false, false, false, false, false, false, false, false, false, false, false]) [0, 1, 2, 3] rfl follows_mixed rfl rfl ?_
    refine AnyJ.take (fuel := 11) (listed' := #[true, false, false, false, false, false, false, false, false, false, false, false]) 0 rfl (by kernel_rfl) (by kernel_rfl) (by kernel_rfl) rfl rfl rfl rfl (Yld.loadN (vs := [.slice p1 _ c1, .slice p2 _ c2, .int .i64 0]) rfl Tryd.underlying37 rfl sz_37 rfl (fun w hI => Inv.cells hI (i := 0) rfl rfl (Nat.le_of_ble_eq_true rfl))) (fun w hI => hI.pick (is := [0, 1, 2, 3]) (by decide) rfl) ?_
    refine AnyJ.one (fuel := 10) 1 (by kernel_rfl) ?_
    refine StepJ.op (listed' := #[true, true, false, false, false, false, false, false, false, false, false, false]) rfl rfl rfl ?_
    refine OpJ.call (fine_spec _ _ [] none 0 0 (by simp)) has_21 rfl rfl rfl rfl rfl [] [0, 1, 2, 3] (by decide) rfl rfl (fun w hI => Own.row (hI.hs _ (List.mem_of_getElem? (i := 1) rfl)).1) ?_
    rintro _ _ ⟨rfl, rfl⟩
    refine ⟨fun w hI => hI.pick (is := [0, 1, 2, 3]) (by decide) rfl, ?_⟩
    refine AnyJ.take (fuel := 9) (listed' := #[true, true, true, false, false, false, false, false, false, false, false, false]) 2 rfl (by kernel_rfl) (by kernel_rfl) (by kernel_rfl) rfl rfl rfl rfl (Yld.move rfl rfl) (fun w hI => hI.pick (is := [0, 1, 2, 3]) (by decide) rfl) ?_
    refine AnyJ.splitB (s := 12) rfl (fun g12 => ?_) (fun g12 => ?_)
    · refine AnyJ.takeT (fuel := 8) (listed' := #[true, true, true, true, false, false, false, false, false, false, false, false]) 3 rfl (by kernel_rfl) (by kernel_rfl) (by kernel_rfl) rfl rfl rfl rfl rfl rfl (Yld.fieldAddr fa_37_1 rfl rfl) (fun w hI => hI.pick (is := [0, 1, 2, 3]) (by decide) rfl) ?_
      refine AnyJ.takeT (fuel := 7) (listed' := #[true, true, true, true, true, false, false, false, false, false, false, false]) 4 rfl (by kernel_rfl) (by kernel_rfl) (by kernel_rfl) rfl rfl rfl rfl rfl rfl (Yld.load1 rfl Tryd.underlying29 rfl rfl (fun w hI => Inv.cell1 hI (i := 0) rfl rfl)) (fun w hI => hI.pick (is := [0, 1, 2, 3]) (by decide) rfl) ?_
      refine AnyJ.takeT (fuel := 6) (listed' := #[true, true, true, true, true, true, false, false, false, false, false, false]) 5 rfl (by kernel_rfl) (by kernel_rfl) (by kernel_rfl) rfl rfl rfl rfl rfl rfl (Yld.loadN (vs := hdCs h) rfl Tryd.underlying24 rfl sz_24 rfl (fun w hI => Inv.whole hI (i := 3) rfl)) (fun w hI => hI.pick (is := [0, 1, 2, 3]) (by decide) rfl) ?_
      refine AnyJ.two (fuel := 5) 6 7 (by kernel_rfl) ?_ ?_
      · refine StepJ.opT (listed' := #[true, true, true, true, true, true, true, false, false, false, false, false]) rfl rfl rfl rfl rfl ?_
        refine OpJ.call (specHead_spec h) has_16 rfl rfl rfl rfl rfl [] [0, 1, 2, 3] (by decide) rfl rfl (fun _ _ => trivial) ?_
        rintro _ _ ⟨rfl, rfl⟩
        refine ⟨fun w hI => hI.pick (is := [0, 1, 2, 3]) (by decide) rfl, ?_⟩
        refine AnyJ.one (fuel := 4) 7 (by kernel_rfl) ?_
        refine StepJ.opT (listed' := #[true, true, true, true, true, true, true, true, false, false, false, false]) rfl rfl rfl rfl rfl ?_
        refine OpJ.buildSlice (xs := [.const (Go.Value.int Go.IntKind.i64 0), .const (Go.Value.int Go.IntKind.i64 0), .const (Go.Value.int Go.IntKind.i64 0), .const (Go.Value.int Go.IntKind.i64 0)]) elt_35 rfl rfl rfl rfl rfl rfl (by rfl) (by decide) fun ns hns => ?_
        refine ⟨fun w hI => hI.pick (is := [1, 2, 3, 4]) (by decide) rfl, ?_⟩
        refine AnyJ.one (fuel := 3) 8 (by kernel_rfl) ?_
        refine StepJ.opT (listed' := #[true, true, true, true, true, true, true, true, true, false, false, false]) rfl rfl rfl rfl rfl ?_
        refine OpJ.call (headWire_spec h hw _ [0, 0, 0, 0] (by simp)) has_22 rfl rfl rfl rfl rfl [] [0, 1, 2, 3, 4] (by decide) rfl rfl (fun w hI => Own.row (hI.hs _ (List.mem_of_getElem? (i := 0) rfl)).1) ?_
        rintro _ _ ⟨p18, c18, rfl, rfl⟩
        refine ⟨fun w hI => hI.pick (is := [2, 3, 4, 5]) (by decide) rfl, ?_⟩
        refine AnyJ.one (fuel := 2) 9 (by kernel_rfl) ?_
        refine StepJ.opT (listed' := #[true, true, true, true, true, true, true, true, true, true, false, false]) rfl rfl rfl rfl rfl ?_
        refine OpJ.call (same_spec _ _ (newB [] h).fin (headWire h [0, 0, 0, 0])) has_17 rfl rfl rfl rfl rfl [] [0, 1, 2, 3, 4, 5] (by decide) rfl rfl (fun w hI => ⟨Inv.bytes (k := 4) rfl w hI, Inv.bytes (k := 0) rfl w hI⟩) ?_
        rintro _ _ ⟨rfl, rfl⟩
        refine ⟨fun w hI => hI.pick (is := [2, 3, 4, 5]) (by decide) rfl, ?_⟩
        refine AnyJ.take (fuel := 1) (listed' := #[true, true, true, true, true, true, true, true, true, true, true, false]) 10 rfl (by kernel_rfl) (by kernel_rfl) (by kernel_rfl) rfl rfl rfl rfl (Yld.pickT rfl rfl rfl) (fun w hI => hI.pick (is := [2, 3, 4, 5]) (by decide) rfl) ?_
        refine AnyJ.take (fuel := 0) (listed' := #[true, true, true, true, true, true, true, true, true, true, true, true]) 11 rfl (by kernel_rfl) (by kernel_rfl) (by kernel_rfl) rfl rfl rfl rfl (Yld.assign rfl rfl) (fun w hI => hI.pick (is := [2, 3, 4, 5]) (by decide) rfl) ?_
        refine AnyJ.done (by kernel_rfl) ?_
        refine ExJ.thenN ?_
        refine CodeJ.ret ?_
        exact ExJ.ret1 Tryd.results9 rfl ⟨by rw [newB_fin]; simp, rfl⟩ fun w hI => hI.pick (is := []) (by decide) rfl
      · refine StepJ.opT (listed' := #[true, true, true, true, true, true, false, true, false, false, false, false]) rfl rfl rfl rfl rfl ?_
        refine OpJ.buildSlice (xs := [.const (Go.Value.int Go.IntKind.i64 0), .const (Go.Value.int Go.IntKind.i64 0), .const (Go.Value.int Go.IntKind.i64 0), .const (Go.Value.int Go.IntKind.i64 0)]) elt_35 rfl rfl rfl rfl rfl rfl (by rfl) (by decide) fun ns hns => ?_
        refine ⟨fun w hI => hI.pick (is := [1, 2, 3, 4]) (by decide) rfl, ?_⟩
        refine AnyJ.one (fuel := 4) 6 (by kernel_rfl) ?_
        refine StepJ.opT (listed' := #[true, true, true, true, true, true, true, true, false, false, false, false]) rfl rfl rfl rfl rfl ?_
        refine OpJ.call (specHead_spec h) has_16 rfl rfl rfl rfl rfl [] [0, 1, 2, 3, 4] (by decide) rfl rfl (fun _ _ => trivial) ?_
        rintro _ _ ⟨rfl, rfl⟩
        refine ⟨fun w hI => hI.pick (is := [1, 2, 3, 4]) (by decide) rfl, ?_⟩
        refine AnyJ.one (fuel := 3) 8 (by kernel_rfl) ?_
        refine StepJ.opT (listed' := #[true, true, true, true, true, true, true, true, true, false, false, false]) rfl rfl rfl rfl rfl ?_
        refine OpJ.call (headWire_spec h hw _ [0, 0, 0, 0] (by simp)) has_22 rfl rfl rfl rfl rfl [] [0, 1, 2, 3, 4] (by decide) rfl rfl (fun w hI => Own.row (hI.hs _ (List.mem_of_getElem? (i := 0) rfl)).1) ?_
        rintro _ _ ⟨p18, c18, rfl, rfl⟩
        refine ⟨fun w hI => hI.pick (is := [2, 3, 4, 5]) (by decide) rfl, ?_⟩
        refine AnyJ.one (fuel := 2) 9 (by kernel_rfl) ?_
        refine StepJ.opT (listed' := #[true, true, true, true, true, true, true, true, true, true, false, false]) rfl rfl rfl rfl rfl ?_
        refine OpJ.call (same_spec _ _ (newB [] h).fin (headWire h [0, 0, 0, 0])) has_17 rfl rfl rfl rfl rfl [] [0, 1, 2, 3, 4, 5] (by decide) rfl rfl (fun w hI => ⟨Inv.bytes (k := 4) rfl w hI, Inv.bytes (k := 0) rfl w hI⟩) ?_
        rintro _ _ ⟨rfl, rfl⟩
        refine ⟨fun w hI => hI.pick (is := [2, 3, 4, 5]) (by decide) rfl, ?_⟩
        refine AnyJ.take (fuel := 1) (listed' := #[true, true, true, true, true, true, true, true, true, true, true, false]) 10 rfl (by kernel_rfl) (by kernel_rfl) (by kernel_rfl) rfl rfl rfl rfl (Yld.pickT rfl rfl rfl) (fun w hI => hI.pick (is := [2, 3, 4, 5]) (by decide) rfl) ?_
        refine AnyJ.take (fuel := 0) (listed' := #[true, true, true, true, true, true, true, true, true, true, true, true]) 11 rfl (by kernel_rfl) (by kernel_rfl) (by kernel_rfl) rfl rfl rfl rfl (Yld.assign rfl rfl) (fun w hI => hI.pick (is := [2, 3, 4, 5]) (by decide) rfl) ?_
        refine AnyJ.done (by kernel_rfl) ?_
        refine ExJ.thenN ?_
        refine CodeJ.ret ?_
        exact ExJ.ret1 Tryd.results9 rfl ⟨by rw [newB_fin]; simp, rfl⟩ fun w hI => hI.pick (is := []) (by decide) rfl
    · exact absurd g12 (by decide)
end Go.Proofs.YtdiememgbnplkaaDoor
