/-
  Contracts of the reference: SVCB records.
-/
import Derived.Test.YtamobccbioafmaaDoorHKPair
namespace Go.Proofs.YtamobccbioafmaaDoor
open Go
set_option maxRecDepth 100000

theorem hostOk_SVCB (r : RecD) (hr : r.kind = 11) (hh : RecFit r) : Spec Tryd.prog 63 [r.val] [] (fun _ => True) (fun x H' => x = .bool (nameOk r.host.data.toList) ∧ H' = []) := by
  have hs := hh.host
  obtain ⟨nm, typ, cls, ttl, len, kd, dataV, data, host, box, n1, n2, n3, n4, n5, textsV, texts, pairsV, qs⟩ := r
  simp only at hr
  subst hr
  refine Spec.of Tryd.func63 rfl Tryd.ntmps63 rfl fun w0 _ => ?_
  refine CodeJ.seq ?_
  refine CodeJ.region ?_
  refine OpsJ.op rfl ?_
  refine OpJ.box rfl rfl rfl rfl fun rb hrb => ?_
  refine OpsJ.yld rfl rfl rfl (Yld.assign rfl rfl) ?_
  refine OpsJ.nil ?_
  refine ExJ.thenN ?_
  refine CodeJ.seq ?_
  refine CodeJ.seq ?_
  refine CodeJ.region ?_
  refine OpsJ.yld rfl rfl rfl (Yld.fieldAddr fa_86_5 rfl rfl) ?_
  refine OpsJ.yld rfl rfl rfl (Yld.load1 rfl Tryd.underlying3 rfl rfl (fun w hI => Inv.cell1 hI (i := 0) rfl rfl)) ?_
  refine OpsJ.nil ?_
  refine ExJ.thenN ?_
  refine CodeJ.block ?_
  refine CodeJ.seq ?_
  refine CodeJ.seq ?_
  refine CodeJ.region ?_
  refine OpsJ.yld rfl rfl rfl (Yld.intBin rfl rfl rfl rfl) ?_
  refine OpsJ.yld rfl rfl rfl (Yld.assign rfl rfl) ?_
  refine OpsJ.nil ?_
  refine ExJ.thenN ?_
  refine CodeJ.condF rfl ?_
  refine CodeJ.seq ?_
  refine CodeJ.region ?_
  refine OpsJ.yld rfl rfl rfl (Yld.intBin rfl rfl rfl rfl) ?_
  refine OpsJ.yld rfl rfl rfl (Yld.assign rfl rfl) ?_
  refine OpsJ.nil ?_
  refine ExJ.thenN ?_
  refine CodeJ.condF rfl ?_
  refine CodeJ.seq ?_
  refine CodeJ.region ?_
  refine OpsJ.yld rfl rfl rfl (Yld.intBin rfl rfl rfl rfl) ?_
  refine OpsJ.yld rfl rfl rfl (Yld.assign rfl rfl) ?_
  refine OpsJ.nil ?_
  refine ExJ.thenN ?_
  refine CodeJ.condF rfl ?_
  refine CodeJ.seq ?_
  refine CodeJ.region ?_
  refine OpsJ.yld rfl rfl rfl (Yld.intBin rfl rfl rfl rfl) ?_
  refine OpsJ.yld rfl rfl rfl (Yld.assign rfl rfl) ?_
  refine OpsJ.nil ?_
  refine ExJ.thenN ?_
  refine CodeJ.condF rfl ?_
  refine CodeJ.seq ?_
  refine CodeJ.region ?_
  refine OpsJ.yld rfl rfl rfl (Yld.intBin rfl rfl rfl rfl) ?_
  refine OpsJ.yld rfl rfl rfl (Yld.assign rfl rfl) ?_
  refine OpsJ.nil ?_
  refine ExJ.thenN ?_
  refine CodeJ.condF rfl ?_
  refine CodeJ.seq ?_
  refine CodeJ.region ?_
  refine OpsJ.yld rfl rfl rfl (Yld.intBin rfl rfl rfl rfl) ?_
  refine OpsJ.yld rfl rfl rfl (Yld.assign rfl rfl) ?_
  refine OpsJ.nil ?_
  refine ExJ.thenN ?_
  refine CodeJ.condT rfl ?_
  refine CodeJ.skip ?_
  refine ExJ.thenN ?_
  refine CodeJ.condT rfl ?_
  refine CodeJ.seq ?_
  refine CodeJ.region ?_
  refine OpsJ.yld rfl rfl rfl (Yld.fieldAddr fa_86_7 rfl rfl) ?_
  refine OpsJ.yld rfl rfl rfl (Yld.load1 rfl Tryd.underlying9 rfl rfl (fun w hI => Inv.cell1 hI (i := 0) rfl rfl)) ?_
  refine OpsJ.op rfl ?_
  refine OpJ.call (nameOk_spec host (Nat.le_trans hs (Nat.le_of_ble_eq_true rfl))) has_23 rfl rfl rfl rfl rfl [] [0] (by decide) rfl rfl (fun _ _ => trivial) ?_
  rintro _ _ ⟨rfl, rfl⟩
  refine OpsJ.yld rfl rfl rfl (Yld.assign rfl rfl) ?_
  refine OpsJ.nil ?_
  refine ExJ.thenN ?_
  refine CodeJ.ret ?_
  refine ExJ.blockR ?_
  refine ExJ.thenR ?_
  exact ExJ.ret1 Tryd.results63 rfl ⟨rfl, rfl⟩ fun w hI => hI.pick (is := []) (by decide) rfl

/-- a number, a name, parameters -/
def svcbBytes (r : RecD) : List UInt8 := be16 (r.n1 % 65536) ++ wire r.host.data.toList ++ pairsW r.pairs
def svcbK : Kind := ⟨fun r => ascN r.pairs && (nameOk r.host.data.toList && decide ((svcbBytes r).length < 65536)), svcbBytes, fun _ => 64⟩
theorem okn_SVCB {x : RecD} (hok : svcbK.recOk x = true) : nameOk x.name.data.toList = true ∧ ascN x.pairs = true ∧ nameOk x.host.data.toList = true ∧ (svcbK.body x).length < 65536 := by
  have h := hok
  simp only [Kind.recOk, svcbK, Bool.and_eq_true, decide_eq_true_eq] at h
  exact h
theorem body_SVCB (r : RecD) (hr : r.kind = 11) (hf : (pairsW r.pairs).length ≤ 4398046511104) (hn : nameOk r.host.data.toList = true) : Spec Tryd.prog 34 [r.val] [] (fun w => RecOk w r) (RetB 5 (svcbBytes r)) := by
  obtain ⟨nm, typ, cls, ttl, len, kd, dataV, data, host, box, n1, n2, n3, n4, n5, textsV, texts, pairsV, qs⟩ := r
  simp only at hr
  subst hr
  have hsz := nameOk_size _ hn
  have hle := wire_le host hsz
  have hpl : (pairsW qs).length ≤ 4398046511104 := hf
  refine Spec.of Tryd.func34 rfl Tryd.ntmps34 rfl fun w0 hok => ?_
  refine CodeJ.seq ?_
  refine CodeJ.region ?_
  refine OpsJ.op rfl ?_
  refine OpJ.box rfl rfl rfl rfl fun rb hrb => ?_
  refine OpsJ.yld rfl rfl rfl (Yld.assign rfl rfl) ?_
  refine OpsJ.nil ?_
  refine ExJ.thenN ?_
  refine CodeJ.seq ?_
  refine CodeJ.region ?_
  refine OpsJ.yld rfl rfl rfl (Yld.fieldAddr fa_86_9 rfl rfl) ?_
  refine OpsJ.yld rfl rfl rfl (Yld.load1 rfl Tryd.underlying30 rfl rfl (fun w hI => Inv.cell1 hI (i := 0) rfl rfl)) ?_
  refine OpsJ.yld rfl rfl rfl (Yld.convInt rfl Tryd.underlying30 Tryd.underlying22 rfl) ?_
  refine OpsJ.yld rfl rfl rfl (Yld.fieldAddr fa_86_10 rfl rfl) ?_
  refine OpsJ.yld rfl rfl rfl (Yld.load1 rfl Tryd.underlying30 rfl rfl (fun w hI => Inv.cell1 hI (i := 0) rfl rfl)) ?_
  refine OpsJ.yld rfl rfl rfl (Yld.convInt rfl Tryd.underlying30 Tryd.underlying22 rfl) ?_
  refine OpsJ.yld rfl rfl rfl (Yld.fieldAddr fa_86_11 rfl rfl) ?_
  refine OpsJ.yld rfl rfl rfl (Yld.load1 rfl Tryd.underlying30 rfl rfl (fun w hI => Inv.cell1 hI (i := 0) rfl rfl)) ?_
  refine OpsJ.yld rfl rfl rfl (Yld.convInt rfl Tryd.underlying30 Tryd.underlying22 rfl) ?_
  rw [u16_wrap, u16_wrap, u16_wrap]
  refine OpsJ.op rfl ?_
  refine OpJ.buildSlice (xs := [.tmp 9, .tmp 12, .tmp 15]) elt_132 rfl rfl rfl rfl rfl rfl (by rfl) (by decide) fun ns hns => ?_
  refine OpsJ.yld rfl rfl rfl (Yld.assign rfl rfl) ?_
  refine OpsJ.nil ?_
  refine ExJ.thenN ?_
  refine CodeJ.seq ?_
  refine CodeJ.seq ?_
  refine CodeJ.region ?_
  refine OpsJ.yld rfl rfl rfl (Yld.fieldAddr fa_86_5 rfl rfl) ?_
  refine OpsJ.yld rfl rfl rfl (Yld.load1 rfl Tryd.underlying3 rfl rfl (fun w hI => Inv.cell1 hI (i := 1) rfl rfl)) ?_
  refine OpsJ.nil ?_
  refine ExJ.thenN ?_
  refine CodeJ.block ?_
  refine CodeJ.seq ?_
  refine CodeJ.region ?_
  refine OpsJ.yld rfl rfl rfl (Yld.intBin rfl rfl rfl rfl) ?_
  refine OpsJ.yld rfl rfl rfl (Yld.assign rfl rfl) ?_
  refine OpsJ.nil ?_
  refine ExJ.thenN ?_
  refine CodeJ.condF rfl ?_
  refine CodeJ.seq ?_
  refine CodeJ.region ?_
  refine OpsJ.yld rfl rfl rfl (Yld.intBin rfl rfl rfl rfl) ?_
  refine OpsJ.yld rfl rfl rfl (Yld.assign rfl rfl) ?_
  refine OpsJ.nil ?_
  refine ExJ.thenN ?_
  refine CodeJ.condF rfl ?_
  refine CodeJ.seq ?_
  refine CodeJ.seq ?_
  refine CodeJ.region ?_
  refine OpsJ.yld rfl rfl rfl (Yld.intBin rfl rfl rfl rfl) ?_
  refine OpsJ.yld rfl rfl rfl (Yld.assign rfl rfl) ?_
  refine OpsJ.nil ?_
  refine ExJ.thenN ?_
  refine CodeJ.condF rfl ?_
  refine CodeJ.seq ?_
  refine CodeJ.region ?_
  refine OpsJ.yld rfl rfl rfl (Yld.intBin rfl rfl rfl rfl) ?_
  refine OpsJ.yld rfl rfl rfl (Yld.assign rfl rfl) ?_
  refine OpsJ.nil ?_
  refine ExJ.thenN ?_
  refine CodeJ.condF rfl ?_
  refine CodeJ.region ?_
  refine OpsJ.yld rfl rfl rfl (Yld.intBin rfl rfl rfl rfl) ?_
  refine OpsJ.yld rfl rfl rfl (Yld.assign rfl rfl) ?_
  refine OpsJ.nil ?_
  refine ExJ.thenN ?_
  refine CodeJ.condF rfl ?_
  refine CodeJ.seq ?_
  refine CodeJ.region ?_
  refine OpsJ.yld rfl rfl rfl (Yld.intBin rfl rfl rfl rfl) ?_
  refine OpsJ.yld rfl rfl rfl (Yld.assign rfl rfl) ?_
  refine OpsJ.nil ?_
  refine ExJ.thenN ?_
  refine CodeJ.condF rfl ?_
  refine CodeJ.seq ?_
  refine CodeJ.region ?_
  refine OpsJ.yld rfl rfl rfl (Yld.intBin rfl rfl rfl rfl) ?_
  refine OpsJ.yld rfl rfl rfl (Yld.assign rfl rfl) ?_
  refine OpsJ.nil ?_
  refine ExJ.thenN ?_
  refine CodeJ.condF rfl ?_
  refine CodeJ.seq ?_
  refine CodeJ.region ?_
  refine OpsJ.yld rfl rfl rfl (Yld.intBin rfl rfl rfl rfl) ?_
  refine OpsJ.yld rfl rfl rfl (Yld.assign rfl rfl) ?_
  refine OpsJ.nil ?_
  refine ExJ.thenN ?_
  refine CodeJ.condF rfl ?_
  refine CodeJ.seq ?_
  refine CodeJ.region ?_
  refine OpsJ.yld rfl rfl rfl (Yld.intBin rfl rfl rfl rfl) ?_
  refine OpsJ.yld rfl rfl rfl (Yld.assign rfl rfl) ?_
  refine OpsJ.nil ?_
  refine ExJ.thenN ?_
  refine CodeJ.condF rfl ?_
  refine CodeJ.seq ?_
  refine CodeJ.region ?_
  refine OpsJ.yld rfl rfl rfl (Yld.intBin rfl rfl rfl rfl) ?_
  refine OpsJ.yld rfl rfl rfl (Yld.assign rfl rfl) ?_
  refine OpsJ.nil ?_
  refine ExJ.thenN ?_
  refine CodeJ.condF rfl ?_
  refine CodeJ.seq ?_
  refine CodeJ.seq ?_
  refine CodeJ.region ?_
  refine OpsJ.yld rfl rfl rfl (Yld.intBin rfl rfl rfl rfl) ?_
  refine OpsJ.yld rfl rfl rfl (Yld.assign rfl rfl) ?_
  refine OpsJ.nil ?_
  refine ExJ.thenN ?_
  refine CodeJ.condT rfl ?_
  refine CodeJ.skip ?_
  refine ExJ.thenN ?_
  refine CodeJ.condT rfl ?_
  refine CodeJ.seq ?_
  refine CodeJ.any (fuel := 13) (listed := #[false, false, false, false, false, false, false, false, false, false, false, false, false]) [0, 1] rfl follows_mixed rfl rfl ?_
  refine AnyJ.take (fuel := 12) (listed' := #[true, false, false, false, false, false, false, false, false, false, false, false, false]) 0 rfl (by kernel_rfl) (by kernel_rfl) (by kernel_rfl) rfl rfl rfl rfl (Yld.move rfl rfl) (fun w hI => hI.pick (is := [0, 1]) (by decide) rfl) ?_
  refine AnyJ.take (fuel := 11) (listed' := #[true, true, false, false, false, false, false, false, false, false, false, false, false]) 1 rfl (by kernel_rfl) (by kernel_rfl) (by kernel_rfl) rfl rfl rfl rfl (Yld.indexAddr (i := 0) rfl Tryd.underlying132 sz_22 rfl rfl (by decide)) (fun w hI => hI.pick (is := [0, 1]) (by decide) rfl) ?_
  refine AnyJ.take (fuel := 10) (listed' := #[true, true, true, false, false, false, false, false, false, false, false, false, false]) 2 rfl (by kernel_rfl) (by kernel_rfl) (by kernel_rfl) rfl rfl rfl rfl (Yld.load1 rfl Tryd.underlying22 rfl rfl (fun w hI => (Own.cells (hI.hs _ (List.mem_of_getElem? (i := 0) rfl)).1 _ _ _ _ rfl).2.2.one (k := 0) rfl)) (fun w hI => hI.pick (is := [0, 1]) (by decide) rfl) ?_
  refine AnyJ.take (fuel := 9) (listed' := #[true, true, true, false, true, false, false, false, false, false, false, false, false]) 4 rfl (by kernel_rfl) (by kernel_rfl) (by kernel_rfl) rfl rfl rfl rfl (Yld.fieldAddr fa_86_7 rfl rfl) (fun w hI => hI.pick (is := [0, 1]) (by decide) rfl) ?_
  refine AnyJ.take (fuel := 8) (listed' := #[true, true, true, false, true, true, false, false, false, false, false, false, false]) 5 rfl (by kernel_rfl) (by kernel_rfl) (by kernel_rfl) rfl rfl rfl rfl (Yld.load1 rfl Tryd.underlying9 rfl rfl (fun w hI => Inv.cell1 hI (i := 1) rfl rfl)) (fun w hI => hI.pick (is := [0, 1]) (by decide) rfl) ?_
  refine AnyJ.take (fuel := 7) (listed' := #[true, true, true, false, true, true, false, true, false, false, false, false, false]) 7 rfl (by kernel_rfl) (by kernel_rfl) (by kernel_rfl) rfl rfl rfl rfl (Yld.fieldAddr fa_86_15 rfl rfl) (fun w hI => hI.pick (is := [0, 1]) (by decide) rfl) ?_
  refine AnyJ.take (fuel := 6) (listed' := #[true, true, true, false, true, true, false, true, true, false, false, false, false]) 8 rfl (by kernel_rfl) (by kernel_rfl) (by kernel_rfl) rfl rfl rfl rfl (Yld.load1 rfl Tryd.underlying84 rfl rfl (fun w hI => Inv.cell1 hI (i := 1) rfl rfl)) (fun w hI => hI.pick (is := [0, 1]) (by decide) rfl) ?_
  refine AnyJ.one (fuel := 5) 3 (by kernel_rfl) ?_
  refine StepJ.op (listed' := #[true, true, true, true, true, true, false, true, true, false, false, false, false]) rfl rfl rfl ?_
  refine OpJ.call (two_spec _) has_67 rfl rfl rfl rfl rfl [] [0, 1] (by decide) rfl rfl (fun _ _ => trivial) ?_
  rintro _ _ ⟨p122, c122, rfl, rfl⟩
  refine ⟨fun w hI => hI.pick (is := [1, 2]) (by decide) rfl, ?_⟩
  refine AnyJ.one (fuel := 4) 6 (by kernel_rfl) ?_
  refine StepJ.op (listed' := #[true, true, true, true, true, true, true, true, true, false, false, false, false]) rfl rfl rfl ?_
  refine OpJ.call (wire_spec host (Nat.le_trans hsz (by decide))) has_65 rfl rfl rfl rfl rfl [] [0, 1, 2] (by decide) rfl rfl (fun _ _ => trivial) ?_
  rintro _ _ ⟨p125, c125, rfl, rfl⟩
  refine ⟨fun w hI => hI.pick (is := [2, 3]) (by decide) rfl, ?_⟩
  refine AnyJ.one (fuel := 3) 9 (by kernel_rfl) ?_
  refine StepJ.op (listed' := #[true, true, true, true, true, true, true, true, true, true, false, false, false]) rfl rfl rfl ?_
  refine OpJ.call (pairs_spec pairsV qs hpl) has_69 rfl rfl rfl rfl rfl [] [0, 1, 2, 3] (by decide) rfl rfl (fun w hI => PairsB.keep0 ⟨hok.pairs, hok.pdata⟩ hI.keep) ?_
  rintro _ _ ⟨p128, c128, rfl, rfl⟩
  refine ⟨fun w hI => hI.pick (is := [3, 4]) (by decide) rfl, ?_⟩
  refine AnyJ.one (fuel := 2) 10 (by kernel_rfl) ?_
  refine StepJ.op (listed' := #[true, true, true, true, true, true, true, true, true, true, true, false, false]) rfl rfl rfl ?_
  refine OpJ.buildSlice (xs := [.tmp 122, .tmp 125, .tmp 128]) elt_162 rfl rfl rfl rfl rfl rfl (by rfl) (by decide) fun parts hparts => ?_
  refine ⟨fun w hI => hI.pick (is := [4, 5]) (by decide) rfl, ?_⟩
  refine AnyJ.one (fuel := 1) 11 (by kernel_rfl) ?_
  refine StepJ.op (listed' := #[true, true, true, true, true, true, true, true, true, true, true, true, false]) rfl rfl rfl ?_
  refine OpJ.call (joined_spec _ [be16 (n1 % 65536), wire host.data.toList, pairsW qs] (by simp [be16_len]; omega) (by simp)) has_66 rfl rfl rfl rfl rfl [] [0, 1, 2, 3, 4, 5] (by decide) rfl rfl (Inv.parts (i := 0) rfl rfl ⟨Inv.bytes (k := 3) rfl, Inv.bytes (k := 2) rfl, Inv.bytes (k := 1) rfl, trivial⟩) ?_
  rintro _ _ ⟨pj, cj, rfl, rfl⟩
  refine ⟨fun w hI => hI.pick (is := [5, 6]) (by decide) rfl, ?_⟩
  refine AnyJ.take (fuel := 0) (listed' := #[true, true, true, true, true, true, true, true, true, true, true, true, true]) 12 rfl (by kernel_rfl) (by kernel_rfl) (by kernel_rfl) rfl rfl rfl rfl (Yld.assign rfl rfl) (fun w hI => hI.pick (is := [5, 6]) (by decide) rfl) ?_
  refine AnyJ.done (by kernel_rfl) ?_
  refine ExJ.thenN ?_
  refine CodeJ.ret ?_
  refine ExJ.blockR ?_
  refine ExJ.thenR ?_
  have he : svcbBytes ⟨nm, typ, cls, ttl, len, 11, dataV, data, host, box, n1, n2, n3, n4, n5, textsV, texts, pairsV, qs⟩ = [be16 (n1 % 65536), wire host.data.toList, pairsW qs].flatten := by simp [svcbBytes]
  rw [he]
  exact ExJ.retB Tryd.results34 rfl fun w hI => hI.pick (is := [0]) (by decide) rfl

theorem bodyOk_SVCB (r : RecD) (hr : r.kind = 11) (hh : RecFit r) (hf : (pairsW r.pairs).length ≤ 4398046511104) : Spec Tryd.prog 33 [r.val] [] (fun w => RecOk w r) (fun x H' => x = .bool (svcbK.ok r) ∧ H' = []) := by
  refine Spec.of Tryd.func33 rfl Tryd.ntmps33 rfl fun w0 hok => ?_
  have htl := hh.texts
  have hpl := hh.pairs
  obtain ⟨pt, ct, htv⟩ := hok.texts.shape
  have htx := hok.texts
  have hall : Spec Tryd.prog 63 [r.val] [] (fun _ => True) (fun x H' => x = .bool (nameOk r.host.data.toList) ∧ H' = []) := hostOk_SVCB r hr hh
  have hbd : nameOk r.host.data.toList = true → Spec Tryd.prog 34 [r.val] [] (fun w => RecOk w r) (RetB 5 (svcbK.body r)) := body_SVCB r hr hf
  have hkd : svcbK.ok r = (ascN r.pairs && (nameOk r.host.data.toList && decide ((svcbK.body r).length < 65536))) := rfl
  obtain ⟨nm, typ, cls, ttl, len, kd, dataV, data, host, box, n1, n2, n3, n4, n5, textsV, texts, pairsV, qs⟩ := r
  simp only at hr htl htv htx hpl
  subst hr htv
  refine CodeJ.seq ?_
  refine CodeJ.region ?_
  refine OpsJ.op rfl ?_
  refine OpJ.box rfl rfl rfl rfl fun rb hrb => ?_
  refine OpsJ.yld rfl rfl rfl (Yld.assign rfl rfl) ?_
  refine OpsJ.nil ?_
  refine ExJ.thenN ?_
  refine CodeJ.seq ?_
  refine CodeJ.seq ?_
  refine CodeJ.region ?_
  refine OpsJ.yld rfl rfl rfl (Yld.fieldAddr fa_86_14 rfl rfl) ?_
  refine OpsJ.yld rfl rfl rfl (Yld.load1 rfl Tryd.underlying32 rfl rfl (fun w hI => Inv.cell1 hI (i := 0) rfl rfl)) ?_
  refine OpsJ.yld rfl rfl rfl (Yld.lenSlice rfl rfl rfl Tryd.underlying32 rfl) ?_
  refine OpsJ.yld rfl rfl rfl (Yld.move rfl rfl) ?_
  refine OpsJ.nil ?_
  refine ExJ.thenN ?_
  refine CodeJ.block ?_
  refine CodeJ.loopP (fun L H m => ∃ j : Nat, j ≤ texts.length ∧ L = [(1, .pointer (some ⟨rb, 0, none⟩)), (6, .slice pt texts.length ct), (7, .int .i64 texts.length), (8, .int .i64 j)] ∧ H = [.blk rb (RecD.cells ⟨nm, typ, cls, ttl, len, 11, dataV, data, host, box, n1, n2, n3, n4, n5, .slice pt texts.length ct, texts, pairsV, qs⟩).toArray 86] ∧ m = texts.length - j) ⟨0, Nat.zero_le _, rfl, rfl, rfl⟩ ⟨rfl, rfl, rfl, rfl, trivial⟩ (fun w hI => hI) ?_
  rintro _ _ _ ⟨j, hj, rfl, rfl, rfl⟩
  refine CodeJ.seq ?_
  refine CodeJ.region ?_
  refine OpsJ.yld rfl rfl rfl (Yld.intBin rfl rfl rfl rfl) ?_
  refine OpsJ.nil ?_
  refine ExJ.thenN ?_
  refine CodeJ.seq ?_
  refine CodeJ.condP rfl (fun c9 => ?_) (fun c9 => ?_)
  · have hj' : j < texts.length := by omega
    obtain ⟨x, hx⟩ : ∃ x, texts[j]? = some x := ⟨texts[j], List.getElem?_eq_getElem hj'⟩
    obtain ⟨b, off, c, hpv, hcell⟩ := Row.at (xss := texts.map fun s => [Value.string s]) (by rw [List.map_flatten_single]; exact htx) (fun y hy => by obtain ⟨z, _, rfl⟩ := List.mem_map.1 hy; rfl) (by simp) hj'
    simp only [Value.slice.injEq] at hpv
    obtain ⟨rfl, _, rfl⟩ := hpv
    have hcx := hcell [.string x] (by simp [hx])
    refine CodeJ.skip ?_
    refine ExJ.thenN ?_
    refine CodeJ.seq ?_
    refine CodeJ.block ?_
    refine CodeJ.seq ?_
    refine CodeJ.region ?_
    refine OpsJ.yld rfl rfl rfl (Yld.indexAddr rfl Tryd.underlying32 sz_9 rfl rfl hj') ?_
    refine OpsJ.yld rfl rfl rfl (Yld.load1 rfl Tryd.underlying9 rfl rfl (fun w hI => hI.old hcx (by simp [fp]))) ?_
    refine OpsJ.yld rfl rfl rfl (Yld.assign rfl rfl) ?_
    refine OpsJ.nil ?_
    refine ExJ.thenN ?_
    refine CodeJ.seq ?_
    refine CodeJ.region ?_
    refine OpsJ.yld rfl rfl rfl (Yld.fieldAddr fa_86_5 rfl rfl) ?_
    refine OpsJ.yld rfl rfl rfl (Yld.load1 rfl Tryd.underlying3 rfl rfl (fun w hI => Inv.cell1 hI (i := 0) rfl rfl)) ?_
    refine OpsJ.yld rfl rfl rfl (Yld.intBin rfl rfl rfl rfl) ?_
    refine OpsJ.yld rfl rfl rfl (Yld.move rfl rfl) ?_
    refine OpsJ.opF rfl rfl rfl rfl rfl rfl ?_
    refine OpsJ.opF rfl rfl rfl rfl rfl rfl ?_
    refine OpsJ.opF rfl rfl rfl rfl rfl rfl ?_
    refine OpsJ.yld rfl rfl rfl (Yld.pickF rfl rfl rfl) ?_
    refine OpsJ.nil ?_
    refine ExJ.thenN ?_
    refine CodeJ.condF rfl ?_
    refine CodeJ.skip ?_
    refine ExJ.blockN ?_
    refine ExJ.thenN ?_
    refine CodeJ.region ?_
    refine OpsJ.yld rfl rfl rfl (Yld.intBin rfl rfl rfl rfl) ?_
    rw [i64_succ j (by omega)]
    refine OpsJ.yld rfl rfl rfl (Yld.move rfl rfl) ?_
    refine OpsJ.nil ?_
    exact ExJ.againP ⟨j + 1, by omega, rfl, rfl, rfl⟩ (by omega) ⟨rfl, rfl, rfl, rfl, trivial⟩ fun w hI => hI
  · refine CodeJ.exit ?_
    refine ExJ.thenX ?_
    refine ExJ.thenX ?_
    refine ExJ.blockHit ?_
    refine ExJ.thenN ?_
    refine CodeJ.seq ?_
    refine CodeJ.seq ?_
    refine CodeJ.region ?_
    refine OpsJ.yld rfl rfl rfl (Yld.fieldAddr fa_86_5 rfl rfl) ?_
    refine OpsJ.yld rfl rfl rfl (Yld.load1 rfl Tryd.underlying3 rfl rfl (fun w hI => Inv.cell1 hI (i := 0) rfl rfl)) ?_
    refine OpsJ.yld rfl rfl rfl (Yld.intBin rfl rfl rfl rfl) ?_
    refine OpsJ.yld rfl rfl rfl (Yld.move rfl rfl) ?_
    refine OpsJ.opF rfl rfl rfl rfl rfl rfl ?_
    refine OpsJ.opF rfl rfl rfl rfl rfl rfl ?_
    refine OpsJ.opF rfl rfl rfl rfl rfl rfl ?_
    refine OpsJ.opF rfl rfl rfl rfl rfl rfl ?_
    refine OpsJ.yld rfl rfl rfl (Yld.pickF rfl rfl rfl) ?_
    refine OpsJ.yld rfl rfl rfl (Yld.move rfl rfl) ?_
    refine OpsJ.opT rfl rfl rfl ?_
    refine OpJ.yld rfl rfl (Yld.fieldAddr fa_86_5 rfl rfl) ?_
    refine OpsJ.opT rfl rfl rfl ?_
    refine OpJ.yld rfl rfl (Yld.load1 rfl Tryd.underlying3 rfl rfl (fun w hI => Inv.cell1 hI (i := 0) rfl rfl)) ?_
    refine OpsJ.opT rfl rfl rfl ?_
    refine OpJ.yld rfl rfl (Yld.intBin rfl rfl rfl rfl) ?_
    refine OpsJ.opT rfl rfl rfl ?_
    refine OpJ.yld rfl rfl (Yld.move rfl rfl) ?_
    refine OpsJ.opF rfl rfl rfl rfl rfl rfl ?_
    refine OpsJ.opF rfl rfl rfl rfl rfl rfl ?_
    refine OpsJ.opF rfl rfl rfl rfl rfl rfl ?_
    refine OpsJ.opT rfl rfl rfl ?_
    refine OpJ.yld rfl rfl (Yld.pickT rfl rfl rfl) ?_
    refine OpsJ.opT rfl rfl rfl ?_
    refine OpJ.yld rfl rfl (Yld.move rfl rfl) ?_
    refine OpsJ.opT rfl rfl rfl ?_
    refine OpJ.yld rfl rfl (Yld.fieldAddr fa_86_15 rfl rfl) ?_
    refine OpsJ.opT rfl rfl rfl ?_
    refine OpJ.yld rfl rfl (Yld.load1 rfl Tryd.underlying84 rfl rfl (fun w hI => Inv.cell1 hI (i := 0) rfl rfl)) ?_
    refine OpsJ.opT rfl rfl rfl ?_
    refine OpJ.call (ascending_spec pairsV qs (by omega)) has_62 rfl rfl rfl rfl rfl [] [0] (by decide) rfl rfl (fun w hI => Row.keep0 hok.pairs hI.keep) ?_
    rintro _ _ ⟨rfl, rfl⟩
    refine OpsJ.opT rfl rfl rfl ?_
    refine OpJ.yld rfl rfl (Yld.not rfl rfl) ?_
    refine OpsJ.opT rfl rfl rfl ?_
    refine OpJ.yld rfl rfl (Yld.pickT rfl rfl rfl) ?_
    refine OpsJ.yld rfl rfl rfl (Yld.pickF rfl rfl rfl) ?_
    refine OpsJ.nil ?_
    refine ExJ.thenN ?_
    refine CodeJ.cond rfl (fun c45 => ?_) (fun c45 => ?_)
    · have hasc : ascN qs = false := by simpa using c45
      refine CodeJ.seq ?_
      refine CodeJ.region ?_
      refine OpsJ.yld rfl rfl rfl (Yld.assign rfl rfl) ?_
      refine OpsJ.nil ?_
      refine ExJ.thenN ?_
      refine CodeJ.ret ?_
      refine ExJ.thenR ?_
      exact ExJ.ret1 Tryd.results33 rfl ⟨by rw [hkd]; show Value.bool false = Value.bool (ascN qs && _); rw [hasc]; rfl, rfl⟩ fun w hI => hI.pick (is := []) (by decide) rfl
    · have hasc : ascN qs = true := by simpa using c45
      have hkd2 : svcbK.ok ⟨nm, typ, cls, ttl, len, 11, dataV, data, host, box, n1, n2, n3, n4, n5, .slice pt texts.length ct, texts, pairsV, qs⟩ = (nameOk host.data.toList && decide ((svcbK.body ⟨nm, typ, cls, ttl, len, 11, dataV, data, host, box, n1, n2, n3, n4, n5, .slice pt texts.length ct, texts, pairsV, qs⟩).length < 65536)) := by
        rw [hkd]
        show (ascN qs && _) = _
        rw [hasc, Bool.true_and]
      refine CodeJ.skip ?_
      refine ExJ.thenN ?_
      refine CodeJ.seq ?_
      refine CodeJ.region ?_
      refine OpsJ.yld rfl rfl rfl (Yld.loadN (vs := RecD.cells ⟨nm, typ, cls, ttl, len, 11, dataV, data, host, box, n1, n2, n3, n4, n5, .slice pt texts.length ct, texts, pairsV, qs⟩) rfl Tryd.underlying86 rfl sz_86 rfl (fun w hI => Inv.whole hI (i := 0) rfl)) ?_
      refine OpsJ.op rfl ?_
      refine OpJ.call (hall) has_63 rfl rfl rfl rfl rfl [] [0] (by decide) rfl rfl (fun _ _ => trivial) ?_
      rintro _ _ ⟨rfl, rfl⟩
      refine OpsJ.yld rfl rfl rfl (Yld.move rfl rfl) ?_
      refine OpsJ.splitB (s := 48) rfl (fun g48 => ?_) (fun g48 => ?_)
      · refine OpsJ.opT rfl rfl rfl ?_
        refine OpJ.yld rfl rfl (Yld.loadN (vs := RecD.cells ⟨nm, typ, cls, ttl, len, 11, dataV, data, host, box, n1, n2, n3, n4, n5, .slice pt texts.length ct, texts, pairsV, qs⟩) rfl Tryd.underlying86 rfl sz_86 rfl (fun w hI => Inv.whole hI (i := 0) rfl)) ?_
        refine OpsJ.opT rfl rfl rfl ?_
        refine OpJ.call (hbd g48) has_34 rfl rfl rfl rfl rfl [] [0] (by decide) rfl rfl (fun w hI => hok.keep0 hI.keep) ?_
        rintro _ _ ⟨p50, c50, rfl, rfl⟩
        refine OpsJ.opT rfl rfl rfl ?_
        refine OpJ.yld rfl rfl (Yld.lenSlice rfl rfl rfl Tryd.underlying31 rfl) ?_
        refine OpsJ.opT rfl rfl rfl ?_
        refine OpJ.yld rfl rfl (Yld.intBin rfl rfl rfl rfl) ?_
        refine OpsJ.yld rfl rfl rfl (Yld.pickT rfl rfl rfl) ?_
        refine OpsJ.yld rfl rfl rfl (Yld.assign rfl rfl) ?_
        refine OpsJ.nil ?_
        refine ExJ.thenN ?_
        refine CodeJ.ret ?_
        refine ExJ.ret1 Tryd.results33 rfl ⟨?_, rfl⟩ fun w hI => hI.pick (is := []) (by decide) rfl
        rw [hkd2, g48, Bool.true_and]
        exact congrArg Value.bool (by rw [Bool.eq_iff_iff, decide_eq_true_iff, decide_eq_true_iff]; omega)
      · refine OpsJ.opF rfl rfl rfl rfl rfl rfl ?_
        refine OpsJ.opF rfl rfl rfl rfl rfl rfl ?_
        refine OpsJ.opF rfl rfl rfl rfl rfl rfl ?_
        refine OpsJ.opF rfl rfl rfl rfl rfl rfl ?_
        refine OpsJ.yld rfl rfl rfl (Yld.pickF rfl rfl rfl) ?_
        refine OpsJ.yld rfl rfl rfl (Yld.assign rfl rfl) ?_
        refine OpsJ.nil ?_
        refine ExJ.thenN ?_
        refine CodeJ.ret ?_
        refine ExJ.ret1 Tryd.results33 rfl ⟨?_, rfl⟩ fun w hI => hI.pick (is := []) (by decide) rfl
        rw [hkd2, g48]
        rfl
theorem one_SVCB (r : RecD) (hr : r.kind = ((11 : Nat) : Int)) (hh : RecFit r) (hf : (pairsW r.pairs).length ≤ 4398046511104) : svcbK.One 11 r := by
  refine ⟨bodyOk_SVCB r hr hh hf, fun h => ?_, fun h => ?_, hr, rfl⟩
  · have h' : (ascN r.pairs && (nameOk r.host.data.toList && decide ((svcbK.body r).length < 65536))) = true := h
    rw [Bool.and_eq_true, Bool.and_eq_true] at h'
    exact body_SVCB r hr hf h'.2.1
  · have h' : (ascN r.pairs && (nameOk r.host.data.toList && decide ((svcbK.body r).length < 65536))) = true := h
    rw [Bool.and_eq_true, Bool.and_eq_true, decide_eq_true_iff] at h'
    exact h'.2.2
end Go.Proofs.YtamobccbioafmaaDoor
