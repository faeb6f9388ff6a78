/-
  Contracts of the reference: SOA records.
-/
import Derived.Test.YtjafnfeamlabbaaDoorBg
import Derived.Test.YtjafnfeamlabbaaDoorHASOA
namespace Go.Proofs.YtjafnfeamlabbaaDoor
open Go
set_option maxRecDepth 100000

theorem hostOk_SOA (r : RecD) (hr : r.kind = 4) (hh : RecFit r) : Spec Tryd.prog 75 [r.val] [] (fun _ => True) (fun x H' => x = .bool (nameOk r.host.data.toList && nameOk r.box.data.toList) ∧ H' = []) := by
  have hs := hh.host
  have hs2 := hh.box
  obtain ⟨nm, typ, cls, ttl, len, kd, dataV, data, host, box, n1, n2, n3, n4, n5, textsV, texts, pairsV, qs⟩ := r
  simp only at hr
  subst hr
  refine Spec.of Tryd.func75 rfl Tryd.ntmps75 rfl fun w0 _ => ?_
  refine CodeJ.seq ?_
  refine CodeJ.region ?_
  refine OpsJ.op rfl ?_
  refine OpJ.box rfl rfl rfl rfl fun rb hrb => ?_
  refine OpsJ.yld rfl rfl rfl (Yld.assign rfl rfl) ?_
  refine OpsJ.nil ?_
  refine ExJ.thenN ?_
  refine CodeJ.seq ?_
  refine CodeJ.seq ?_
  refine CodeJ.region ?_
  refine OpsJ.yld rfl rfl rfl (Yld.fieldAddr fa_89_5 rfl rfl) ?_
  refine OpsJ.yld rfl rfl rfl (Yld.load1 rfl Tryd.underlying3 rfl rfl (fun w hI => Inv.cell1 hI (i := 0) rfl rfl)) ?_
  refine OpsJ.nil ?_
  refine ExJ.thenN ?_
  refine CodeJ.block ?_
  refine CodeJ.seq ?_
  refine CodeJ.seq ?_
  refine CodeJ.region ?_
  refine OpsJ.yld rfl rfl rfl (Yld.intBin rfl rfl rfl rfl) ?_
  refine OpsJ.yld rfl rfl rfl (Yld.assign rfl rfl) ?_
  refine OpsJ.nil ?_
  refine ExJ.thenN ?_
  refine CodeJ.condF rfl ?_
  refine CodeJ.seq ?_
  refine CodeJ.region ?_
  refine OpsJ.yld rfl rfl rfl (Yld.intBin rfl rfl rfl rfl) ?_
  refine OpsJ.yld rfl rfl rfl (Yld.assign rfl rfl) ?_
  refine OpsJ.nil ?_
  refine ExJ.thenN ?_
  refine CodeJ.condF rfl ?_
  refine CodeJ.seq ?_
  refine CodeJ.region ?_
  refine OpsJ.yld rfl rfl rfl (Yld.intBin rfl rfl rfl rfl) ?_
  refine OpsJ.yld rfl rfl rfl (Yld.assign rfl rfl) ?_
  refine OpsJ.nil ?_
  refine ExJ.thenN ?_
  refine CodeJ.condF rfl ?_
  refine CodeJ.seq ?_
  refine CodeJ.region ?_
  refine OpsJ.yld rfl rfl rfl (Yld.intBin rfl rfl rfl rfl) ?_
  refine OpsJ.yld rfl rfl rfl (Yld.assign rfl rfl) ?_
  refine OpsJ.nil ?_
  refine ExJ.thenN ?_
  refine CodeJ.condF rfl ?_
  refine CodeJ.seq ?_
  refine CodeJ.region ?_
  refine OpsJ.yld rfl rfl rfl (Yld.intBin rfl rfl rfl rfl) ?_
  refine OpsJ.yld rfl rfl rfl (Yld.assign rfl rfl) ?_
  refine OpsJ.nil ?_
  refine ExJ.thenN ?_
  refine CodeJ.condF rfl ?_
  refine CodeJ.seq ?_
  refine CodeJ.region ?_
  refine OpsJ.yld rfl rfl rfl (Yld.intBin rfl rfl rfl rfl) ?_
  refine OpsJ.yld rfl rfl rfl (Yld.assign rfl rfl) ?_
  refine OpsJ.nil ?_
  refine ExJ.thenN ?_
  refine CodeJ.condF rfl ?_
  refine CodeJ.region ?_
  refine OpsJ.yld rfl rfl rfl (Yld.intBin rfl rfl rfl rfl) ?_
  refine OpsJ.yld rfl rfl rfl (Yld.assign rfl rfl) ?_
  refine OpsJ.nil ?_
  refine ExJ.thenN ?_
  refine CodeJ.condF rfl ?_
  refine CodeJ.seq ?_
  refine CodeJ.region ?_
  refine OpsJ.yld rfl rfl rfl (Yld.intBin rfl rfl rfl rfl) ?_
  refine OpsJ.yld rfl rfl rfl (Yld.assign rfl rfl) ?_
  refine OpsJ.nil ?_
  refine ExJ.thenN ?_
  refine CodeJ.condT rfl ?_
  refine CodeJ.seq ?_
  refine CodeJ.region ?_
  refine OpsJ.yld rfl rfl rfl (Yld.fieldAddr fa_89_7 rfl rfl) ?_
  refine OpsJ.yld rfl rfl rfl (Yld.load1 rfl Tryd.underlying9 rfl rfl (fun w hI => Inv.cell1 hI (i := 0) rfl rfl)) ?_
  refine OpsJ.op rfl ?_
  refine OpJ.call (nameOk_spec host (Nat.le_trans hs (Nat.le_of_ble_eq_true rfl))) has_38 rfl rfl rfl rfl rfl [] [0] (by decide) rfl rfl (fun _ _ => trivial) ?_
  rintro _ _ ⟨rfl, rfl⟩
  refine OpsJ.yld rfl rfl rfl (Yld.move rfl rfl) ?_
  refine OpsJ.splitB (s := 21) rfl (fun g21 => ?_) (fun g21 => ?_)
  · refine OpsJ.opT rfl rfl rfl ?_
    refine OpJ.yld rfl rfl (Yld.fieldAddr fa_89_8 rfl rfl) ?_
    refine OpsJ.opT rfl rfl rfl ?_
    refine OpJ.yld rfl rfl (Yld.load1 rfl Tryd.underlying9 rfl rfl (fun w hI => Inv.cell1 hI (i := 0) rfl rfl)) ?_
    refine OpsJ.opT rfl rfl rfl ?_
    refine OpJ.call (nameOk_spec box (Nat.le_trans hs2 (Nat.le_of_ble_eq_true rfl))) has_38 rfl rfl rfl rfl rfl [] [0] (by decide) rfl rfl (fun _ _ => trivial) ?_
    rintro _ _ ⟨rfl, rfl⟩
    refine OpsJ.yld rfl rfl rfl (Yld.pickT rfl rfl rfl) ?_
    refine OpsJ.yld rfl rfl rfl (Yld.assign rfl rfl) ?_
    refine OpsJ.nil ?_
    refine ExJ.thenN ?_
    refine CodeJ.ret ?_
    refine ExJ.blockR ?_
    refine ExJ.thenR ?_
    refine ExJ.ret1 Tryd.results75 rfl ⟨?_, rfl⟩ fun w hI => hI.pick (is := []) (by decide) rfl
    rw [g21, Bool.true_and]
  · refine OpsJ.opF rfl rfl rfl rfl rfl rfl ?_
    refine OpsJ.opF rfl rfl rfl rfl rfl rfl ?_
    refine OpsJ.opF rfl rfl rfl rfl rfl rfl ?_
    refine OpsJ.yld rfl rfl rfl (Yld.pickF rfl rfl rfl) ?_
    refine OpsJ.yld rfl rfl rfl (Yld.assign rfl rfl) ?_
    refine OpsJ.nil ?_
    refine ExJ.thenN ?_
    refine CodeJ.ret ?_
    refine ExJ.blockR ?_
    refine ExJ.thenR ?_
    refine ExJ.ret1 Tryd.results75 rfl ⟨?_, rfl⟩ fun w hI => hI.pick (is := []) (by decide) rfl
    rw [g21, Bool.false_and]
def soaBytes (r : RecD) : List UInt8 := wire r.host.data.toList ++ wire r.box.data.toList ++ nums20 r
def soaK : Kind := ⟨fun r => (nameOk r.host.data.toList && nameOk r.box.data.toList) && decide ((soaBytes r).length < 65536), soaBytes, fun _ => 6⟩
theorem body_SOA (r : RecD) (hr : r.kind = 4) (hn : (nameOk r.host.data.toList && nameOk r.box.data.toList) = true) : Spec Tryd.prog 40 [r.val] [] (fun w => RecOk w r) (RetB 5 (soaBytes r)) := by
  obtain ⟨nm, typ, cls, ttl, len, kd, dataV, data, host, box, n1, n2, n3, n4, n5, textsV, texts, pairsV, qs⟩ := r
  simp only at hr
  subst hr
  rw [Bool.and_eq_true] at hn
  have hsz := nameOk_size _ hn.1
  have hsz2 := nameOk_size _ hn.2
  have hle := wire_le host hsz
  have hle2 := wire_le box hsz2
  refine Spec.of Tryd.func40 rfl Tryd.ntmps40 rfl fun w0 hok => ?_
  refine CodeJ.seq ?_
  refine CodeJ.region ?_
  refine OpsJ.op rfl ?_
  refine OpJ.box rfl rfl rfl rfl fun rb hrb => ?_
  refine OpsJ.yld rfl rfl rfl (Yld.assign rfl rfl) ?_
  refine OpsJ.nil ?_
  refine ExJ.thenN ?_
  refine CodeJ.seq ?_
  refine CodeJ.region ?_
  refine OpsJ.yld rfl rfl rfl (Yld.fieldAddr fa_89_9 rfl rfl) ?_
  refine OpsJ.yld rfl rfl rfl (Yld.load1 rfl Tryd.underlying25 rfl rfl (fun w hI => Inv.cell1 hI (i := 0) rfl rfl)) ?_
  refine OpsJ.yld rfl rfl rfl (Yld.convInt rfl Tryd.underlying25 Tryd.underlying22 rfl) ?_
  refine OpsJ.yld rfl rfl rfl (Yld.fieldAddr fa_89_10 rfl rfl) ?_
  refine OpsJ.yld rfl rfl rfl (Yld.load1 rfl Tryd.underlying25 rfl rfl (fun w hI => Inv.cell1 hI (i := 0) rfl rfl)) ?_
  refine OpsJ.yld rfl rfl rfl (Yld.convInt rfl Tryd.underlying25 Tryd.underlying22 rfl) ?_
  refine OpsJ.yld rfl rfl rfl (Yld.fieldAddr fa_89_11 rfl rfl) ?_
  refine OpsJ.yld rfl rfl rfl (Yld.load1 rfl Tryd.underlying25 rfl rfl (fun w hI => Inv.cell1 hI (i := 0) rfl rfl)) ?_
  refine OpsJ.yld rfl rfl rfl (Yld.convInt rfl Tryd.underlying25 Tryd.underlying22 rfl) ?_
  refine OpsJ.op rfl ?_
  refine OpJ.buildSlice (xs := [.tmp 9, .tmp 12, .tmp 15]) elt_144 rfl rfl rfl rfl rfl rfl (by rfl) (by decide) fun ns hns => ?_
  refine OpsJ.yld rfl rfl rfl (Yld.assign rfl rfl) ?_
  refine OpsJ.nil ?_
  refine ExJ.thenN ?_
  refine CodeJ.seq ?_
  refine CodeJ.seq ?_
  refine CodeJ.region ?_
  refine OpsJ.yld rfl rfl rfl (Yld.fieldAddr fa_89_5 rfl rfl) ?_
  refine OpsJ.yld rfl rfl rfl (Yld.load1 rfl Tryd.underlying3 rfl rfl (fun w hI => Inv.cell1 hI (i := 1) rfl rfl)) ?_
  refine OpsJ.nil ?_
  refine ExJ.thenN ?_
  refine CodeJ.block ?_
  refine CodeJ.seq ?_
  refine CodeJ.region ?_
  refine OpsJ.yld rfl rfl rfl (Yld.intBin rfl rfl rfl rfl) ?_
  refine OpsJ.yld rfl rfl rfl (Yld.assign rfl rfl) ?_
  refine OpsJ.nil ?_
  refine ExJ.thenN ?_
  refine CodeJ.condF rfl ?_
  refine CodeJ.seq ?_
  refine CodeJ.region ?_
  refine OpsJ.yld rfl rfl rfl (Yld.intBin rfl rfl rfl rfl) ?_
  refine OpsJ.yld rfl rfl rfl (Yld.assign rfl rfl) ?_
  refine OpsJ.nil ?_
  refine ExJ.thenN ?_
  refine CodeJ.condF rfl ?_
  refine CodeJ.seq ?_
  refine CodeJ.seq ?_
  refine CodeJ.region ?_
  refine OpsJ.yld rfl rfl rfl (Yld.intBin rfl rfl rfl rfl) ?_
  refine OpsJ.yld rfl rfl rfl (Yld.assign rfl rfl) ?_
  refine OpsJ.nil ?_
  refine ExJ.thenN ?_
  refine CodeJ.condF rfl ?_
  refine CodeJ.seq ?_
  refine CodeJ.region ?_
  refine OpsJ.yld rfl rfl rfl (Yld.intBin rfl rfl rfl rfl) ?_
  refine OpsJ.yld rfl rfl rfl (Yld.assign rfl rfl) ?_
  refine OpsJ.nil ?_
  refine ExJ.thenN ?_
  refine CodeJ.condF rfl ?_
  refine CodeJ.region ?_
  refine OpsJ.yld rfl rfl rfl (Yld.intBin rfl rfl rfl rfl) ?_
  refine OpsJ.yld rfl rfl rfl (Yld.assign rfl rfl) ?_
  refine OpsJ.nil ?_
  refine ExJ.thenN ?_
  refine CodeJ.condF rfl ?_
  refine CodeJ.seq ?_
  refine CodeJ.region ?_
  refine OpsJ.yld rfl rfl rfl (Yld.intBin rfl rfl rfl rfl) ?_
  refine OpsJ.yld rfl rfl rfl (Yld.assign rfl rfl) ?_
  refine OpsJ.nil ?_
  refine ExJ.thenN ?_
  refine CodeJ.condF rfl ?_
  refine CodeJ.seq ?_
  refine CodeJ.region ?_
  refine OpsJ.yld rfl rfl rfl (Yld.intBin rfl rfl rfl rfl) ?_
  refine OpsJ.yld rfl rfl rfl (Yld.assign rfl rfl) ?_
  refine OpsJ.nil ?_
  refine ExJ.thenN ?_
  refine CodeJ.condT rfl ?_
  refine CodeJ.seq ?_
  refine CodeJ.any (fuel := 24) (listed := #[false, false, false, false, false, false, false, false, false, false, false, false, false, false, false, false, false, false, false, false, false, false, false, false]) [1] rfl follows_mixed rfl rfl ?_
  refine AnyJ.take (fuel := 23) (listed' := #[true, false, false, false, false, false, false, false, false, false, false, false, false, false, false, false, false, false, false, false, false, false, false, false]) 0 rfl (by kernel_rfl) (by kernel_rfl) (by kernel_rfl) rfl rfl rfl rfl (Yld.fieldAddr fa_89_7 rfl rfl) (fun w hI => hI.pick (is := [1]) (by decide) rfl) ?_
  refine AnyJ.take (fuel := 22) (listed' := #[true, true, false, false, false, false, false, false, false, false, false, false, false, false, false, false, false, false, false, false, false, false, false, false]) 1 rfl (by kernel_rfl) (by kernel_rfl) (by kernel_rfl) rfl rfl rfl rfl (Yld.load1 rfl Tryd.underlying9 rfl rfl (fun w hI => Inv.cell1 hI (i := 0) rfl rfl)) (fun w hI => hI.pick (is := [1]) (by decide) rfl) ?_
  refine AnyJ.take (fuel := 21) (listed' := #[true, true, false, true, false, false, false, false, false, false, false, false, false, false, false, false, false, false, false, false, false, false, false, false]) 3 rfl (by kernel_rfl) (by kernel_rfl) (by kernel_rfl) rfl rfl rfl rfl (Yld.fieldAddr fa_89_8 rfl rfl) (fun w hI => hI.pick (is := [1]) (by decide) rfl) ?_
  refine AnyJ.take (fuel := 20) (listed' := #[true, true, false, true, true, false, false, false, false, false, false, false, false, false, false, false, false, false, false, false, false, false, false, false]) 4 rfl (by kernel_rfl) (by kernel_rfl) (by kernel_rfl) rfl rfl rfl rfl (Yld.load1 rfl Tryd.underlying9 rfl rfl (fun w hI => Inv.cell1 hI (i := 0) rfl rfl)) (fun w hI => hI.pick (is := [1]) (by decide) rfl) ?_
  refine AnyJ.take (fuel := 19) (listed' := #[true, true, false, true, true, false, true, false, false, false, false, false, false, false, false, false, false, false, false, false, false, false, false, false]) 6 rfl (by kernel_rfl) (by kernel_rfl) (by kernel_rfl) rfl rfl rfl rfl (Yld.fieldAddr fa_89_9 rfl rfl) (fun w hI => hI.pick (is := [1]) (by decide) rfl) ?_
  refine AnyJ.take (fuel := 18) (listed' := #[true, true, false, true, true, false, true, true, false, false, false, false, false, false, false, false, false, false, false, false, false, false, false, false]) 7 rfl (by kernel_rfl) (by kernel_rfl) (by kernel_rfl) rfl rfl rfl rfl (Yld.load1 rfl Tryd.underlying25 rfl rfl (fun w hI => Inv.cell1 hI (i := 0) rfl rfl)) (fun w hI => hI.pick (is := [1]) (by decide) rfl) ?_
  refine AnyJ.take (fuel := 17) (listed' := #[true, true, false, true, true, false, true, true, false, true, false, false, false, false, false, false, false, false, false, false, false, false, false, false]) 9 rfl (by kernel_rfl) (by kernel_rfl) (by kernel_rfl) rfl rfl rfl rfl (Yld.fieldAddr fa_89_10 rfl rfl) (fun w hI => hI.pick (is := [1]) (by decide) rfl) ?_
  refine AnyJ.take (fuel := 16) (listed' := #[true, true, false, true, true, false, true, true, false, true, true, false, false, false, false, false, false, false, false, false, false, false, false, false]) 10 rfl (by kernel_rfl) (by kernel_rfl) (by kernel_rfl) rfl rfl rfl rfl (Yld.load1 rfl Tryd.underlying25 rfl rfl (fun w hI => Inv.cell1 hI (i := 0) rfl rfl)) (fun w hI => hI.pick (is := [1]) (by decide) rfl) ?_
  refine AnyJ.take (fuel := 15) (listed' := #[true, true, false, true, true, false, true, true, false, true, true, false, true, false, false, false, false, false, false, false, false, false, false, false]) 12 rfl (by kernel_rfl) (by kernel_rfl) (by kernel_rfl) rfl rfl rfl rfl (Yld.fieldAddr fa_89_11 rfl rfl) (fun w hI => hI.pick (is := [1]) (by decide) rfl) ?_
  refine AnyJ.take (fuel := 14) (listed' := #[true, true, false, true, true, false, true, true, false, true, true, false, true, true, false, false, false, false, false, false, false, false, false, false]) 13 rfl (by kernel_rfl) (by kernel_rfl) (by kernel_rfl) rfl rfl rfl rfl (Yld.load1 rfl Tryd.underlying25 rfl rfl (fun w hI => Inv.cell1 hI (i := 0) rfl rfl)) (fun w hI => hI.pick (is := [1]) (by decide) rfl) ?_
  refine AnyJ.take (fuel := 13) (listed' := #[true, true, false, true, true, false, true, true, false, true, true, false, true, true, false, true, false, false, false, false, false, false, false, false]) 15 rfl (by kernel_rfl) (by kernel_rfl) (by kernel_rfl) rfl rfl rfl rfl (Yld.fieldAddr fa_89_12 rfl rfl) (fun w hI => hI.pick (is := [1]) (by decide) rfl) ?_
  refine AnyJ.take (fuel := 12) (listed' := #[true, true, false, true, true, false, true, true, false, true, true, false, true, true, false, true, true, false, false, false, false, false, false, false]) 16 rfl (by kernel_rfl) (by kernel_rfl) (by kernel_rfl) rfl rfl rfl rfl (Yld.load1 rfl Tryd.underlying25 rfl rfl (fun w hI => Inv.cell1 hI (i := 0) rfl rfl)) (fun w hI => hI.pick (is := [1]) (by decide) rfl) ?_
  refine AnyJ.take (fuel := 11) (listed' := #[true, true, false, true, true, false, true, true, false, true, true, false, true, true, false, true, true, false, true, false, false, false, false, false]) 18 rfl (by kernel_rfl) (by kernel_rfl) (by kernel_rfl) rfl rfl rfl rfl (Yld.fieldAddr fa_89_13 rfl rfl) (fun w hI => hI.pick (is := [1]) (by decide) rfl) ?_
  refine AnyJ.take (fuel := 10) (listed' := #[true, true, false, true, true, false, true, true, false, true, true, false, true, true, false, true, true, false, true, true, false, false, false, false]) 19 rfl (by kernel_rfl) (by kernel_rfl) (by kernel_rfl) rfl rfl rfl rfl (Yld.load1 rfl Tryd.underlying25 rfl rfl (fun w hI => Inv.cell1 hI (i := 0) rfl rfl)) (fun w hI => hI.pick (is := [1]) (by decide) rfl) ?_
  refine AnyJ.one (fuel := 9) 2 (by kernel_rfl) ?_
  refine StepJ.op (listed' := #[true, true, true, true, true, false, true, true, false, true, true, false, true, true, false, true, true, false, true, true, false, false, false, false]) rfl rfl rfl ?_
  refine OpJ.call (wire_spec host (Nat.le_trans hsz (by decide))) has_77 rfl rfl rfl rfl rfl [] [0, 1] (by decide) rfl rfl (fun _ _ => trivial) ?_
  rintro _ _ ⟨p51, c51, rfl, rfl⟩
  refine ⟨fun w hI => hI.pick (is := [2]) (by decide) rfl, ?_⟩
  refine AnyJ.one (fuel := 8) 5 (by kernel_rfl) ?_
  refine StepJ.op (listed' := #[true, true, true, true, true, true, true, true, false, true, true, false, true, true, false, true, true, false, true, true, false, false, false, false]) rfl rfl rfl ?_
  refine OpJ.call (wire_spec box (Nat.le_trans hsz2 (by decide))) has_77 rfl rfl rfl rfl rfl [] [0, 1, 2] (by decide) rfl rfl (fun _ _ => trivial) ?_
  rintro _ _ ⟨p54, c54, rfl, rfl⟩
  refine ⟨fun w hI => hI.pick (is := [3]) (by decide) rfl, ?_⟩
  refine AnyJ.one (fuel := 7) 8 (by kernel_rfl) ?_
  refine StepJ.op (listed' := #[true, true, true, true, true, true, true, true, true, true, true, false, true, true, false, true, true, false, true, true, false, false, false, false]) rfl rfl rfl ?_
  refine OpJ.call (four_spec _) has_80 rfl rfl rfl rfl rfl [] [0, 1, 2, 3] (by decide) rfl rfl (fun _ _ => trivial) ?_
  rintro _ _ ⟨p57, c57, rfl, rfl⟩
  refine ⟨fun w hI => hI.pick (is := [4]) (by decide) rfl, ?_⟩
  refine AnyJ.one (fuel := 6) 11 (by kernel_rfl) ?_
  refine StepJ.op (listed' := #[true, true, true, true, true, true, true, true, true, true, true, true, true, true, false, true, true, false, true, true, false, false, false, false]) rfl rfl rfl ?_
  refine OpJ.call (four_spec _) has_80 rfl rfl rfl rfl rfl [] [0, 1, 2, 3, 4] (by decide) rfl rfl (fun _ _ => trivial) ?_
  rintro _ _ ⟨p60, c60, rfl, rfl⟩
  refine ⟨fun w hI => hI.pick (is := [5]) (by decide) rfl, ?_⟩
  refine AnyJ.one (fuel := 5) 14 (by kernel_rfl) ?_
  refine StepJ.op (listed' := #[true, true, true, true, true, true, true, true, true, true, true, true, true, true, true, true, true, false, true, true, false, false, false, false]) rfl rfl rfl ?_
  refine OpJ.call (four_spec _) has_80 rfl rfl rfl rfl rfl [] [0, 1, 2, 3, 4, 5] (by decide) rfl rfl (fun _ _ => trivial) ?_
  rintro _ _ ⟨p63, c63, rfl, rfl⟩
  refine ⟨fun w hI => hI.pick (is := [6]) (by decide) rfl, ?_⟩
  refine AnyJ.one (fuel := 4) 17 (by kernel_rfl) ?_
  refine StepJ.op (listed' := #[true, true, true, true, true, true, true, true, true, true, true, true, true, true, true, true, true, true, true, true, false, false, false, false]) rfl rfl rfl ?_
  refine OpJ.call (four_spec _) has_80 rfl rfl rfl rfl rfl [] [0, 1, 2, 3, 4, 5, 6] (by decide) rfl rfl (fun _ _ => trivial) ?_
  rintro _ _ ⟨p66, c66, rfl, rfl⟩
  refine ⟨fun w hI => hI.pick (is := [7]) (by decide) rfl, ?_⟩
  refine AnyJ.one (fuel := 3) 20 (by kernel_rfl) ?_
  refine StepJ.op (listed' := #[true, true, true, true, true, true, true, true, true, true, true, true, true, true, true, true, true, true, true, true, true, false, false, false]) rfl rfl rfl ?_
  refine OpJ.call (four_spec _) has_80 rfl rfl rfl rfl rfl [] [0, 1, 2, 3, 4, 5, 6, 7] (by decide) rfl rfl (fun _ _ => trivial) ?_
  rintro _ _ ⟨p69, c69, rfl, rfl⟩
  refine ⟨fun w hI => hI.pick (is := [8]) (by decide) rfl, ?_⟩
  refine AnyJ.one (fuel := 2) 21 (by kernel_rfl) ?_
  refine StepJ.op (listed' := #[true, true, true, true, true, true, true, true, true, true, true, true, true, true, true, true, true, true, true, true, true, true, false, false]) rfl rfl rfl ?_
  refine OpJ.buildSlice (xs := [.tmp 51, .tmp 54, .tmp 57, .tmp 60, .tmp 63, .tmp 66, .tmp 69]) elt_174 rfl rfl rfl rfl rfl rfl (by rfl) (by decide) fun parts hparts => ?_
  refine ⟨fun w hI => hI.pick (is := [9]) (by decide) rfl, ?_⟩
  refine AnyJ.one (fuel := 1) 22 (by kernel_rfl) ?_
  refine StepJ.op (listed' := #[true, true, true, true, true, true, true, true, true, true, true, true, true, true, true, true, true, true, true, true, true, true, true, false]) rfl rfl rfl ?_
  refine OpJ.call (joined_spec _ [wire host.data.toList, wire box.data.toList, b4 n1, b4 n2, b4 n3, b4 n4, b4 n5] (by simp [b4_len]; omega) (by simp)) has_78 rfl rfl rfl rfl rfl [] [0, 1, 2, 3, 4, 5, 6, 7, 8, 9] (by decide) rfl rfl (Inv.parts (i := 0) rfl rfl ⟨Inv.bytes (k := 7) rfl, Inv.bytes (k := 6) rfl, Inv.bytes (k := 5) rfl, Inv.bytes (k := 4) rfl, Inv.bytes (k := 3) rfl, Inv.bytes (k := 2) rfl, Inv.bytes (k := 1) rfl, trivial⟩) ?_
  rintro _ _ ⟨pj, cj, rfl, rfl⟩
  refine ⟨fun w hI => hI.pick (is := [10]) (by decide) rfl, ?_⟩
  refine AnyJ.take (fuel := 0) (listed' := #[true, true, true, true, true, true, true, true, true, true, true, true, true, true, true, true, true, true, true, true, true, true, true, true]) 23 rfl (by kernel_rfl) (by kernel_rfl) (by kernel_rfl) rfl rfl rfl rfl (Yld.assign rfl rfl) (fun w hI => hI.pick (is := [10]) (by decide) rfl) ?_
  refine AnyJ.done (by kernel_rfl) ?_
  refine ExJ.thenN ?_
  refine CodeJ.ret ?_
  refine ExJ.blockR ?_
  refine ExJ.thenR ?_
  have he : soaBytes ⟨nm, typ, cls, ttl, len, 4, dataV, data, host, box, n1, n2, n3, n4, n5, textsV, texts, pairsV, qs⟩ = [wire host.data.toList, wire box.data.toList, b4 n1, b4 n2, b4 n3, b4 n4, b4 n5].flatten := by simp [soaBytes, nums20]
  rw [he]
  exact ExJ.retB Tryd.results40 rfl fun w hI => hI.pick (is := [0]) (by decide) rfl

theorem bodyOk_SOA (r : RecD) (hr : r.kind = 4) (hh : RecFit r) : Spec Tryd.prog 39 [r.val] [] (fun w => RecOk w r) (fun x H' => x = .bool (soaK.ok r) ∧ H' = []) := by
  refine Spec.of Tryd.func39 rfl Tryd.ntmps39 rfl fun w0 hok => ?_
  have htl := hh.texts
  obtain ⟨pt, ct, htv⟩ := hok.texts.shape
  have htx := hok.texts
  have hall : Spec Tryd.prog 75 [r.val] [] (fun _ => True) (fun x H' => x = .bool ((nameOk r.host.data.toList && nameOk r.box.data.toList)) ∧ H' = []) := hostOk_SOA r hr hh
  have hbd : ((nameOk r.host.data.toList && nameOk r.box.data.toList)) = true → Spec Tryd.prog 40 [r.val] [] (fun w => RecOk w r) (RetB 5 (soaK.body r)) := body_SOA r hr
  have hkd : soaK.ok r = (((nameOk r.host.data.toList && nameOk r.box.data.toList)) && decide ((soaK.body r).length < 65536)) := rfl
  obtain ⟨nm, typ, cls, ttl, len, kd, dataV, data, host, box, n1, n2, n3, n4, n5, textsV, texts, pairsV, qs⟩ := r
  simp only at hr htl htv htx
  subst hr htv
  refine CodeJ.seq ?_
  refine CodeJ.region ?_
  refine OpsJ.op rfl ?_
  refine OpJ.box rfl rfl rfl rfl fun rb hrb => ?_
  refine OpsJ.yld rfl rfl rfl (Yld.assign rfl rfl) ?_
  refine OpsJ.nil ?_
  refine ExJ.thenN ?_
  refine CodeJ.seq ?_
  refine CodeJ.seq ?_
  refine CodeJ.region ?_
  refine OpsJ.yld rfl rfl rfl (Yld.fieldAddr fa_89_14 rfl rfl) ?_
  refine OpsJ.yld rfl rfl rfl (Yld.load1 rfl Tryd.underlying27 rfl rfl (fun w hI => Inv.cell1 hI (i := 0) rfl rfl)) ?_
  refine OpsJ.yld rfl rfl rfl (Yld.lenSlice rfl rfl rfl Tryd.underlying27 rfl) ?_
  refine OpsJ.yld rfl rfl rfl (Yld.move rfl rfl) ?_
  refine OpsJ.nil ?_
  refine ExJ.thenN ?_
  refine CodeJ.block ?_
  refine CodeJ.loopP (fun L H m => ∃ j : Nat, j ≤ texts.length ∧ L = [(1, .pointer (some ⟨rb, 0, none⟩)), (6, .slice pt texts.length ct), (7, .int .i64 texts.length), (8, .int .i64 j)] ∧ H = [.blk rb (RecD.cells ⟨nm, typ, cls, ttl, len, 4, dataV, data, host, box, n1, n2, n3, n4, n5, .slice pt texts.length ct, texts, pairsV, qs⟩).toArray 89] ∧ m = texts.length - j) ⟨0, Nat.zero_le _, rfl, rfl, rfl⟩ ⟨rfl, rfl, rfl, rfl, trivial⟩ (fun w hI => hI) ?_
  rintro _ _ _ ⟨j, hj, rfl, rfl, rfl⟩
  refine CodeJ.seq ?_
  refine CodeJ.region ?_
  refine OpsJ.yld rfl rfl rfl (Yld.intBin rfl rfl rfl rfl) ?_
  refine OpsJ.nil ?_
  refine ExJ.thenN ?_
  refine CodeJ.seq ?_
  refine CodeJ.condP rfl (fun c9 => ?_) (fun c9 => ?_)
  · have hj' : j < texts.length := by omega
    obtain ⟨x, hx⟩ : ∃ x, texts[j]? = some x := ⟨texts[j], List.getElem?_eq_getElem hj'⟩
    obtain ⟨b, off, c, hpv, hcell⟩ := Row.at (xss := texts.map fun s => [Value.string s]) (by rw [List.map_flatten_single]; exact htx) (fun y hy => by obtain ⟨z, _, rfl⟩ := List.mem_map.1 hy; rfl) (by simp) hj'
    simp only [Value.slice.injEq] at hpv
    obtain ⟨rfl, _, rfl⟩ := hpv
    have hcx := hcell [.string x] (by simp [hx])
    refine CodeJ.skip ?_
    refine ExJ.thenN ?_
    refine CodeJ.seq ?_
    refine CodeJ.block ?_
    refine CodeJ.seq ?_
    refine CodeJ.region ?_
    refine OpsJ.yld rfl rfl rfl (Yld.indexAddr rfl Tryd.underlying27 sz_9 rfl rfl hj') ?_
    refine OpsJ.yld rfl rfl rfl (Yld.load1 rfl Tryd.underlying9 rfl rfl (fun w hI => hI.old hcx (by simp [fp]))) ?_
    refine OpsJ.yld rfl rfl rfl (Yld.assign rfl rfl) ?_
    refine OpsJ.nil ?_
    refine ExJ.thenN ?_
    refine CodeJ.seq ?_
    refine CodeJ.region ?_
    refine OpsJ.yld rfl rfl rfl (Yld.fieldAddr fa_89_5 rfl rfl) ?_
    refine OpsJ.yld rfl rfl rfl (Yld.load1 rfl Tryd.underlying3 rfl rfl (fun w hI => Inv.cell1 hI (i := 0) rfl rfl)) ?_
    refine OpsJ.yld rfl rfl rfl (Yld.intBin rfl rfl rfl rfl) ?_
    refine OpsJ.yld rfl rfl rfl (Yld.move rfl rfl) ?_
    refine OpsJ.opF rfl rfl rfl rfl rfl rfl ?_
    refine OpsJ.opF rfl rfl rfl rfl rfl rfl ?_
    refine OpsJ.opF rfl rfl rfl rfl rfl rfl ?_
    refine OpsJ.yld rfl rfl rfl (Yld.pickF rfl rfl rfl) ?_
    refine OpsJ.nil ?_
    refine ExJ.thenN ?_
    refine CodeJ.condF rfl ?_
    refine CodeJ.skip ?_
    refine ExJ.blockN ?_
    refine ExJ.thenN ?_
    refine CodeJ.region ?_
    refine OpsJ.yld rfl rfl rfl (Yld.intBin rfl rfl rfl rfl) ?_
    rw [i64_succ j (by omega)]
    refine OpsJ.yld rfl rfl rfl (Yld.move rfl rfl) ?_
    refine OpsJ.nil ?_
    exact ExJ.againP ⟨j + 1, by omega, rfl, rfl, rfl⟩ (by omega) ⟨rfl, rfl, rfl, rfl, trivial⟩ fun w hI => hI
  · refine CodeJ.exit ?_
    refine ExJ.thenX ?_
    refine ExJ.thenX ?_
    refine ExJ.blockHit ?_
    refine ExJ.thenN ?_
    refine CodeJ.seq ?_
    refine CodeJ.seq ?_
    refine CodeJ.region ?_
    refine OpsJ.yld rfl rfl rfl (Yld.fieldAddr fa_89_5 rfl rfl) ?_
    refine OpsJ.yld rfl rfl rfl (Yld.load1 rfl Tryd.underlying3 rfl rfl (fun w hI => Inv.cell1 hI (i := 0) rfl rfl)) ?_
    refine OpsJ.yld rfl rfl rfl (Yld.intBin rfl rfl rfl rfl) ?_
    refine OpsJ.yld rfl rfl rfl (Yld.move rfl rfl) ?_
    refine OpsJ.opF rfl rfl rfl rfl rfl rfl ?_
    refine OpsJ.opF rfl rfl rfl rfl rfl rfl ?_
    refine OpsJ.opF rfl rfl rfl rfl rfl rfl ?_
    refine OpsJ.opF rfl rfl rfl rfl rfl rfl ?_
    refine OpsJ.yld rfl rfl rfl (Yld.pickF rfl rfl rfl) ?_
    refine OpsJ.yld rfl rfl rfl (Yld.move rfl rfl) ?_
    refine OpsJ.opT rfl rfl rfl ?_
    refine OpJ.yld rfl rfl (Yld.fieldAddr fa_89_5 rfl rfl) ?_
    refine OpsJ.opT rfl rfl rfl ?_
    refine OpJ.yld rfl rfl (Yld.load1 rfl Tryd.underlying3 rfl rfl (fun w hI => Inv.cell1 hI (i := 0) rfl rfl)) ?_
    refine OpsJ.opT rfl rfl rfl ?_
    refine OpJ.yld rfl rfl (Yld.intBin rfl rfl rfl rfl) ?_
    refine OpsJ.opT rfl rfl rfl ?_
    refine OpJ.yld rfl rfl (Yld.move rfl rfl) ?_
    refine OpsJ.opT rfl rfl rfl ?_
    refine OpJ.yld rfl rfl (Yld.fieldAddr fa_89_5 rfl rfl) ?_
    refine OpsJ.opT rfl rfl rfl ?_
    refine OpJ.yld rfl rfl (Yld.load1 rfl Tryd.underlying3 rfl rfl (fun w hI => Inv.cell1 hI (i := 0) rfl rfl)) ?_
    refine OpsJ.opT rfl rfl rfl ?_
    refine OpJ.yld rfl rfl (Yld.intBin rfl rfl rfl rfl) ?_
    refine OpsJ.opT rfl rfl rfl ?_
    refine OpJ.yld rfl rfl (Yld.pickF rfl rfl rfl) ?_
    refine OpsJ.opT rfl rfl rfl ?_
    refine OpJ.yld rfl rfl (Yld.move rfl rfl) ?_
    refine OpsJ.opF rfl rfl rfl rfl rfl rfl ?_
    refine OpsJ.opF rfl rfl rfl rfl rfl rfl ?_
    refine OpsJ.opF rfl rfl rfl rfl rfl rfl ?_
    refine OpsJ.opF rfl rfl rfl rfl rfl rfl ?_
    refine OpsJ.opT rfl rfl rfl ?_
    refine OpJ.yld rfl rfl (Yld.pickF rfl rfl rfl) ?_
    refine OpsJ.yld rfl rfl rfl (Yld.pickF rfl rfl rfl) ?_
    refine OpsJ.nil ?_
    refine ExJ.thenN ?_
    refine CodeJ.condF rfl ?_
    refine CodeJ.skip ?_
    refine ExJ.thenN ?_
    refine CodeJ.seq ?_
    refine CodeJ.region ?_
    refine OpsJ.yld rfl rfl rfl (Yld.loadN (vs := RecD.cells ⟨nm, typ, cls, ttl, len, 4, dataV, data, host, box, n1, n2, n3, n4, n5, .slice pt texts.length ct, texts, pairsV, qs⟩) rfl Tryd.underlying89 rfl sz_89 rfl (fun w hI => Inv.whole hI (i := 0) rfl)) ?_
    refine OpsJ.op rfl ?_
    refine OpJ.call (hall) has_75 rfl rfl rfl rfl rfl [] [0] (by decide) rfl rfl (fun _ _ => trivial) ?_
    rintro _ _ ⟨rfl, rfl⟩
    refine OpsJ.yld rfl rfl rfl (Yld.move rfl rfl) ?_
    refine OpsJ.splitB (s := 48) rfl (fun g48 => ?_) (fun g48 => ?_)
    · refine OpsJ.opT rfl rfl rfl ?_
      refine OpJ.yld rfl rfl (Yld.loadN (vs := RecD.cells ⟨nm, typ, cls, ttl, len, 4, dataV, data, host, box, n1, n2, n3, n4, n5, .slice pt texts.length ct, texts, pairsV, qs⟩) rfl Tryd.underlying89 rfl sz_89 rfl (fun w hI => Inv.whole hI (i := 0) rfl)) ?_
      refine OpsJ.opT rfl rfl rfl ?_
      refine OpJ.call (hbd g48) has_40 rfl rfl rfl rfl rfl [] [0] (by decide) rfl rfl (fun w hI => hok.keep0 hI.keep) ?_
      rintro _ _ ⟨p50, c50, rfl, rfl⟩
      refine OpsJ.opT rfl rfl rfl ?_
      refine OpJ.yld rfl rfl (Yld.lenSlice rfl rfl rfl Tryd.underlying26 rfl) ?_
      refine OpsJ.opT rfl rfl rfl ?_
      refine OpJ.yld rfl rfl (Yld.intBin rfl rfl rfl rfl) ?_
      refine OpsJ.yld rfl rfl rfl (Yld.pickT rfl rfl rfl) ?_
      refine OpsJ.yld rfl rfl rfl (Yld.assign rfl rfl) ?_
      refine OpsJ.nil ?_
      refine ExJ.thenN ?_
      refine CodeJ.ret ?_
      refine ExJ.ret1 Tryd.results39 rfl ⟨?_, rfl⟩ fun w hI => hI.pick (is := []) (by decide) rfl
      rw [hkd, g48, Bool.true_and]
      exact congrArg Value.bool (by rw [Bool.eq_iff_iff, decide_eq_true_iff, decide_eq_true_iff]; omega)
    · refine OpsJ.opF rfl rfl rfl rfl rfl rfl ?_
      refine OpsJ.opF rfl rfl rfl rfl rfl rfl ?_
      refine OpsJ.opF rfl rfl rfl rfl rfl rfl ?_
      refine OpsJ.opF rfl rfl rfl rfl rfl rfl ?_
      refine OpsJ.yld rfl rfl rfl (Yld.pickF rfl rfl rfl) ?_
      refine OpsJ.yld rfl rfl rfl (Yld.assign rfl rfl) ?_
      refine OpsJ.nil ?_
      refine ExJ.thenN ?_
      refine CodeJ.ret ?_
      refine ExJ.ret1 Tryd.results39 rfl ⟨?_, rfl⟩ fun w hI => hI.pick (is := []) (by decide) rfl
      rw [hkd, g48]
      rfl

theorem one_SOA (r : RecD) (hr : r.kind = ((4 : Nat) : Int)) (hh : RecFit r) : soaK.One 4 r := by
  refine ⟨bodyOk_SOA r hr hh, fun h => ?_, fun h => ?_, hr, rfl⟩
  · have h' : (((nameOk r.host.data.toList && nameOk r.box.data.toList)) && decide ((soaK.body r).length < 65536)) = true := h
    rw [Bool.and_eq_true] at h'
    exact body_SOA r hr h'.1
  · have h' : (((nameOk r.host.data.toList && nameOk r.box.data.toList)) && decide ((soaK.body r).length < 65536)) = true := h
    rw [Bool.and_eq_true, decide_eq_true_iff] at h'
    exact h'.2
end Go.Proofs.YtjafnfeamlabbaaDoor
