/-
  Contracts of the reference: CNAME records.
-/
import Derived.Test.YtijhpaejdchjgaaDoorBg
namespace Go.Proofs.YtijhpaejdchjgaaDoor
open Go
set_option maxRecDepth 100000

theorem hostOk_CNAME (r : RecD) (hr : r.kind = 3) (hh : RecFit r) : Spec Tryd.prog 57 [r.val] [] (fun _ => True) (fun x H' => x = .bool (nameOk r.host.data.toList) ∧ H' = []) := by
  have hs := hh.host
  obtain ⟨nm, typ, cls, ttl, len, kd, dataV, data, host, box, n1, n2, n3, n4, n5, textsV, texts, pairsV, qs⟩ := r
  simp only at hr
  subst hr
  refine Spec.of Tryd.func57 rfl Tryd.ntmps57 rfl fun w0 _ => ?_
  refine CodeJ.seq ?_
  refine CodeJ.region ?_
  refine OpsJ.op rfl ?_
  refine OpJ.box rfl rfl rfl rfl fun rb hrb => ?_
  refine OpsJ.yld rfl rfl rfl (Yld.assign rfl rfl) ?_
  refine OpsJ.nil ?_
  refine ExJ.thenN ?_
  refine CodeJ.seq ?_
  refine CodeJ.seq ?_
  refine CodeJ.region ?_
  refine OpsJ.yld rfl rfl rfl (Yld.fieldAddr fa_68_5 rfl rfl) ?_
  refine OpsJ.yld rfl rfl rfl (Yld.load1 rfl Tryd.underlying3 rfl rfl (fun w hI => Inv.cell1 hI (i := 0) rfl rfl)) ?_
  refine OpsJ.nil ?_
  refine ExJ.thenN ?_
  refine CodeJ.block ?_
  refine CodeJ.seq ?_
  refine CodeJ.seq ?_
  refine CodeJ.region ?_
  refine OpsJ.yld rfl rfl rfl (Yld.intBin rfl rfl rfl rfl) ?_
  refine OpsJ.yld rfl rfl rfl (Yld.assign rfl rfl) ?_
  refine OpsJ.nil ?_
  refine ExJ.thenN ?_
  refine CodeJ.condF rfl ?_
  refine CodeJ.seq ?_
  refine CodeJ.region ?_
  refine OpsJ.yld rfl rfl rfl (Yld.intBin rfl rfl rfl rfl) ?_
  refine OpsJ.yld rfl rfl rfl (Yld.assign rfl rfl) ?_
  refine OpsJ.nil ?_
  refine ExJ.thenN ?_
  refine CodeJ.condT rfl ?_
  refine CodeJ.skip ?_
  refine ExJ.thenN ?_
  refine CodeJ.condT rfl ?_
  refine CodeJ.seq ?_
  refine CodeJ.region ?_
  refine OpsJ.yld rfl rfl rfl (Yld.fieldAddr fa_68_7 rfl rfl) ?_
  refine OpsJ.yld rfl rfl rfl (Yld.load1 rfl Tryd.underlying9 rfl rfl (fun w hI => Inv.cell1 hI (i := 0) rfl rfl)) ?_
  refine OpsJ.op rfl ?_
  refine OpJ.call (nameOk_spec host (Nat.le_trans hs (Nat.le_of_ble_eq_true rfl))) has_26 rfl rfl rfl rfl rfl [] [0] (by decide) rfl rfl (fun _ _ => trivial) ?_
  rintro _ _ ⟨rfl, rfl⟩
  refine OpsJ.yld rfl rfl rfl (Yld.assign rfl rfl) ?_
  refine OpsJ.nil ?_
  refine ExJ.thenN ?_
  refine CodeJ.ret ?_
  refine ExJ.blockR ?_
  refine ExJ.thenR ?_
  exact ExJ.ret1 Tryd.results57 rfl ⟨rfl, rfl⟩ fun w hI => hI.pick (is := []) (by decide) rfl

theorem body_CNAME (r : RecD) (hr : r.kind = 3) (hn : nameOk r.host.data.toList = true) : Spec Tryd.prog 32 [r.val] [] (fun w => RecOk w r) (RetB 5 (wire r.host.data.toList)) := by
  obtain ⟨nm, typ, cls, ttl, len, kd, dataV, data, host, box, n1, n2, n3, n4, n5, textsV, texts, pairsV, qs⟩ := r
  simp only at hr
  subst hr
  have hsz := nameOk_size _ hn
  refine Spec.of Tryd.func32 rfl Tryd.ntmps32 rfl fun w0 hok => ?_
  refine CodeJ.seq ?_
  refine CodeJ.region ?_
  refine OpsJ.op rfl ?_
  refine OpJ.box rfl rfl rfl rfl fun rb hrb => ?_
  refine OpsJ.yld rfl rfl rfl (Yld.assign rfl rfl) ?_
  refine OpsJ.nil ?_
  refine ExJ.thenN ?_
  refine CodeJ.seq ?_
  refine CodeJ.region ?_
  refine OpsJ.yld rfl rfl rfl (Yld.fieldAddr fa_68_9 rfl rfl) ?_
  refine OpsJ.yld rfl rfl rfl (Yld.load1 rfl Tryd.underlying38 rfl rfl (fun w hI => Inv.cell1 hI (i := 0) rfl rfl)) ?_
  refine OpsJ.yld rfl rfl rfl (Yld.convInt rfl Tryd.underlying38 Tryd.underlying22 rfl) ?_
  refine OpsJ.yld rfl rfl rfl (Yld.fieldAddr fa_68_10 rfl rfl) ?_
  refine OpsJ.yld rfl rfl rfl (Yld.load1 rfl Tryd.underlying38 rfl rfl (fun w hI => Inv.cell1 hI (i := 0) rfl rfl)) ?_
  refine OpsJ.yld rfl rfl rfl (Yld.convInt rfl Tryd.underlying38 Tryd.underlying22 rfl) ?_
  refine OpsJ.yld rfl rfl rfl (Yld.fieldAddr fa_68_11 rfl rfl) ?_
  refine OpsJ.yld rfl rfl rfl (Yld.load1 rfl Tryd.underlying38 rfl rfl (fun w hI => Inv.cell1 hI (i := 0) rfl rfl)) ?_
  refine OpsJ.yld rfl rfl rfl (Yld.convInt rfl Tryd.underlying38 Tryd.underlying22 rfl) ?_
  refine OpsJ.op rfl ?_
  refine OpJ.buildSlice (xs := [.tmp 9, .tmp 12, .tmp 15]) elt_114 rfl rfl rfl rfl rfl rfl (by rfl) (by decide) fun ns hns => ?_
  refine OpsJ.yld rfl rfl rfl (Yld.assign rfl rfl) ?_
  refine OpsJ.nil ?_
  refine ExJ.thenN ?_
  refine CodeJ.seq ?_
  refine CodeJ.seq ?_
  refine CodeJ.region ?_
  refine OpsJ.yld rfl rfl rfl (Yld.fieldAddr fa_68_5 rfl rfl) ?_
  refine OpsJ.yld rfl rfl rfl (Yld.load1 rfl Tryd.underlying3 rfl rfl (fun w hI => Inv.cell1 hI (i := 1) rfl rfl)) ?_
  refine OpsJ.nil ?_
  refine ExJ.thenN ?_
  refine CodeJ.block ?_
  refine CodeJ.seq ?_
  refine CodeJ.region ?_
  refine OpsJ.yld rfl rfl rfl (Yld.intBin rfl rfl rfl rfl) ?_
  refine OpsJ.yld rfl rfl rfl (Yld.assign rfl rfl) ?_
  refine OpsJ.nil ?_
  refine ExJ.thenN ?_
  refine CodeJ.condF rfl ?_
  refine CodeJ.seq ?_
  refine CodeJ.region ?_
  refine OpsJ.yld rfl rfl rfl (Yld.intBin rfl rfl rfl rfl) ?_
  refine OpsJ.yld rfl rfl rfl (Yld.assign rfl rfl) ?_
  refine OpsJ.nil ?_
  refine ExJ.thenN ?_
  refine CodeJ.condF rfl ?_
  refine CodeJ.seq ?_
  refine CodeJ.seq ?_
  refine CodeJ.region ?_
  refine OpsJ.yld rfl rfl rfl (Yld.intBin rfl rfl rfl rfl) ?_
  refine OpsJ.yld rfl rfl rfl (Yld.assign rfl rfl) ?_
  refine OpsJ.nil ?_
  refine ExJ.thenN ?_
  refine CodeJ.condF rfl ?_
  refine CodeJ.seq ?_
  refine CodeJ.region ?_
  refine OpsJ.yld rfl rfl rfl (Yld.intBin rfl rfl rfl rfl) ?_
  refine OpsJ.yld rfl rfl rfl (Yld.assign rfl rfl) ?_
  refine OpsJ.nil ?_
  refine ExJ.thenN ?_
  refine CodeJ.condT rfl ?_
  refine CodeJ.skip ?_
  refine ExJ.thenN ?_
  refine CodeJ.condT rfl ?_
  refine CodeJ.seq ?_
  refine CodeJ.region ?_
  refine OpsJ.yld rfl rfl rfl (Yld.fieldAddr fa_68_7 rfl rfl) ?_
  refine OpsJ.yld rfl rfl rfl (Yld.load1 rfl Tryd.underlying9 rfl rfl (fun w hI => Inv.cell1 hI (i := 1) rfl rfl)) ?_
  refine OpsJ.op rfl ?_
  refine OpJ.call (wire_spec host (Nat.le_trans hsz (by decide))) has_59 rfl rfl rfl rfl rfl [] [0, 1] (by decide) rfl rfl (fun _ _ => trivial) ?_
  rintro _ _ ⟨p35, c35, rfl, rfl⟩
  refine OpsJ.yld rfl rfl rfl (Yld.assign rfl rfl) ?_
  refine OpsJ.nil ?_
  refine ExJ.thenN ?_
  refine CodeJ.ret ?_
  refine ExJ.blockR ?_
  refine ExJ.thenR ?_
  exact ExJ.retB Tryd.results32 rfl fun w hI => hI.pick (is := [0]) (by decide) rfl

theorem bodyOk_CNAME (r : RecD) (hr : r.kind = 3) (hh : RecFit r) : Spec Tryd.prog 31 [r.val] [] (fun w => RecOk w r) (fun x H' => x = .bool ((hostK 5).ok r) ∧ H' = []) := by
  refine Spec.of Tryd.func31 rfl Tryd.ntmps31 rfl fun w0 hok => ?_
  have htl := hh.texts
  obtain ⟨pt, ct, htv⟩ := hok.texts.shape
  have htx := hok.texts
  have hall : Spec Tryd.prog 57 [r.val] [] (fun _ => True) (fun x H' => x = .bool (nameOk r.host.data.toList) ∧ H' = []) := hostOk_CNAME r hr hh
  have hbd : (nameOk r.host.data.toList) = true → Spec Tryd.prog 32 [r.val] [] (fun w => RecOk w r) (RetB 5 ((hostK 5).body r)) := body_CNAME r hr
  have hkd : (hostK 5).ok r = ((nameOk r.host.data.toList) && decide (((hostK 5).body r).length < 65536)) := rfl
  obtain ⟨nm, typ, cls, ttl, len, kd, dataV, data, host, box, n1, n2, n3, n4, n5, textsV, texts, pairsV, qs⟩ := r
  simp only at hr htl htv htx
  subst hr htv
  refine CodeJ.seq ?_
  refine CodeJ.region ?_
  refine OpsJ.op rfl ?_
  refine OpJ.box rfl rfl rfl rfl fun rb hrb => ?_
  refine OpsJ.yld rfl rfl rfl (Yld.assign rfl rfl) ?_
  refine OpsJ.nil ?_
  refine ExJ.thenN ?_
  refine CodeJ.seq ?_
  refine CodeJ.seq ?_
  refine CodeJ.region ?_
  refine OpsJ.yld rfl rfl rfl (Yld.fieldAddr fa_68_14 rfl rfl) ?_
  refine OpsJ.yld rfl rfl rfl (Yld.load1 rfl Tryd.underlying40 rfl rfl (fun w hI => Inv.cell1 hI (i := 0) rfl rfl)) ?_
  refine OpsJ.yld rfl rfl rfl (Yld.lenSlice rfl rfl rfl Tryd.underlying40 rfl) ?_
  refine OpsJ.yld rfl rfl rfl (Yld.move rfl rfl) ?_
  refine OpsJ.nil ?_
  refine ExJ.thenN ?_
  refine CodeJ.block ?_
  refine CodeJ.loopP (fun L H m => ∃ j : Nat, j ≤ texts.length ∧ L = [(1, .pointer (some ⟨rb, 0, none⟩)), (6, .slice pt texts.length ct), (7, .int .i64 texts.length), (8, .int .i64 j)] ∧ H = [.blk rb (RecD.cells ⟨nm, typ, cls, ttl, len, 3, dataV, data, host, box, n1, n2, n3, n4, n5, .slice pt texts.length ct, texts, pairsV, qs⟩).toArray 68] ∧ m = texts.length - j) ⟨0, Nat.zero_le _, rfl, rfl, rfl⟩ ⟨rfl, rfl, rfl, rfl, trivial⟩ (fun w hI => hI) ?_
  rintro _ _ _ ⟨j, hj, rfl, rfl, rfl⟩
  refine CodeJ.seq ?_
  refine CodeJ.region ?_
  refine OpsJ.yld rfl rfl rfl (Yld.intBin rfl rfl rfl rfl) ?_
  refine OpsJ.nil ?_
  refine ExJ.thenN ?_
  refine CodeJ.seq ?_
  refine CodeJ.condP rfl (fun c9 => ?_) (fun c9 => ?_)
  · have hj' : j < texts.length := by omega
    obtain ⟨x, hx⟩ : ∃ x, texts[j]? = some x := ⟨texts[j], List.getElem?_eq_getElem hj'⟩
    obtain ⟨b, off, c, hpv, hcell⟩ := Row.at (xss := texts.map fun s => [Value.string s]) (by rw [List.map_flatten_single]; exact htx) (fun y hy => by obtain ⟨z, _, rfl⟩ := List.mem_map.1 hy; rfl) (by simp) hj'
    simp only [Value.slice.injEq] at hpv
    obtain ⟨rfl, _, rfl⟩ := hpv
    have hcx := hcell [.string x] (by simp [hx])
    refine CodeJ.skip ?_
    refine ExJ.thenN ?_
    refine CodeJ.seq ?_
    refine CodeJ.block ?_
    refine CodeJ.seq ?_
    refine CodeJ.region ?_
    refine OpsJ.yld rfl rfl rfl (Yld.indexAddr rfl Tryd.underlying40 sz_9 rfl rfl hj') ?_
    refine OpsJ.yld rfl rfl rfl (Yld.load1 rfl Tryd.underlying9 rfl rfl (fun w hI => hI.old hcx (by simp [fp]))) ?_
    refine OpsJ.yld rfl rfl rfl (Yld.assign rfl rfl) ?_
    refine OpsJ.nil ?_
    refine ExJ.thenN ?_
    refine CodeJ.seq ?_
    refine CodeJ.region ?_
    refine OpsJ.yld rfl rfl rfl (Yld.fieldAddr fa_68_5 rfl rfl) ?_
    refine OpsJ.yld rfl rfl rfl (Yld.load1 rfl Tryd.underlying3 rfl rfl (fun w hI => Inv.cell1 hI (i := 0) rfl rfl)) ?_
    refine OpsJ.yld rfl rfl rfl (Yld.intBin rfl rfl rfl rfl) ?_
    refine OpsJ.yld rfl rfl rfl (Yld.move rfl rfl) ?_
    refine OpsJ.opF rfl rfl rfl rfl rfl rfl ?_
    refine OpsJ.opF rfl rfl rfl rfl rfl rfl ?_
    refine OpsJ.opF rfl rfl rfl rfl rfl rfl ?_
    refine OpsJ.yld rfl rfl rfl (Yld.pickF rfl rfl rfl) ?_
    refine OpsJ.nil ?_
    refine ExJ.thenN ?_
    refine CodeJ.condF rfl ?_
    refine CodeJ.skip ?_
    refine ExJ.blockN ?_
    refine ExJ.thenN ?_
    refine CodeJ.region ?_
    refine OpsJ.yld rfl rfl rfl (Yld.intBin rfl rfl rfl rfl) ?_
    rw [i64_succ j (by omega)]
    refine OpsJ.yld rfl rfl rfl (Yld.move rfl rfl) ?_
    refine OpsJ.nil ?_
    exact ExJ.againP ⟨j + 1, by omega, rfl, rfl, rfl⟩ (by omega) ⟨rfl, rfl, rfl, rfl, trivial⟩ fun w hI => hI
  · refine CodeJ.exit ?_
    refine ExJ.thenX ?_
    refine ExJ.thenX ?_
    refine ExJ.blockHit ?_
    refine ExJ.thenN ?_
    refine CodeJ.seq ?_
    refine CodeJ.seq ?_
    refine CodeJ.region ?_
    refine OpsJ.yld rfl rfl rfl (Yld.fieldAddr fa_68_5 rfl rfl) ?_
    refine OpsJ.yld rfl rfl rfl (Yld.load1 rfl Tryd.underlying3 rfl rfl (fun w hI => Inv.cell1 hI (i := 0) rfl rfl)) ?_
    refine OpsJ.yld rfl rfl rfl (Yld.intBin rfl rfl rfl rfl) ?_
    refine OpsJ.yld rfl rfl rfl (Yld.move rfl rfl) ?_
    refine OpsJ.opF rfl rfl rfl rfl rfl rfl ?_
    refine OpsJ.opF rfl rfl rfl rfl rfl rfl ?_
    refine OpsJ.opF rfl rfl rfl rfl rfl rfl ?_
    refine OpsJ.opF rfl rfl rfl rfl rfl rfl ?_
    refine OpsJ.yld rfl rfl rfl (Yld.pickF rfl rfl rfl) ?_
    refine OpsJ.yld rfl rfl rfl (Yld.move rfl rfl) ?_
    refine OpsJ.opT rfl rfl rfl ?_
    refine OpJ.yld rfl rfl (Yld.fieldAddr fa_68_5 rfl rfl) ?_
    refine OpsJ.opT rfl rfl rfl ?_
    refine OpJ.yld rfl rfl (Yld.load1 rfl Tryd.underlying3 rfl rfl (fun w hI => Inv.cell1 hI (i := 0) rfl rfl)) ?_
    refine OpsJ.opT rfl rfl rfl ?_
    refine OpJ.yld rfl rfl (Yld.intBin rfl rfl rfl rfl) ?_
    refine OpsJ.opT rfl rfl rfl ?_
    refine OpJ.yld rfl rfl (Yld.move rfl rfl) ?_
    refine OpsJ.opT rfl rfl rfl ?_
    refine OpJ.yld rfl rfl (Yld.fieldAddr fa_68_5 rfl rfl) ?_
    refine OpsJ.opT rfl rfl rfl ?_
    refine OpJ.yld rfl rfl (Yld.load1 rfl Tryd.underlying3 rfl rfl (fun w hI => Inv.cell1 hI (i := 0) rfl rfl)) ?_
    refine OpsJ.opT rfl rfl rfl ?_
    refine OpJ.yld rfl rfl (Yld.intBin rfl rfl rfl rfl) ?_
    refine OpsJ.opT rfl rfl rfl ?_
    refine OpJ.yld rfl rfl (Yld.pickF rfl rfl rfl) ?_
    refine OpsJ.opT rfl rfl rfl ?_
    refine OpJ.yld rfl rfl (Yld.move rfl rfl) ?_
    refine OpsJ.opF rfl rfl rfl rfl rfl rfl ?_
    refine OpsJ.opF rfl rfl rfl rfl rfl rfl ?_
    refine OpsJ.opF rfl rfl rfl rfl rfl rfl ?_
    refine OpsJ.opF rfl rfl rfl rfl rfl rfl ?_
    refine OpsJ.opT rfl rfl rfl ?_
    refine OpJ.yld rfl rfl (Yld.pickF rfl rfl rfl) ?_
    refine OpsJ.yld rfl rfl rfl (Yld.pickF rfl rfl rfl) ?_
    refine OpsJ.nil ?_
    refine ExJ.thenN ?_
    refine CodeJ.condF rfl ?_
    refine CodeJ.skip ?_
    refine ExJ.thenN ?_
    refine CodeJ.seq ?_
    refine CodeJ.region ?_
    refine OpsJ.yld rfl rfl rfl (Yld.loadN (vs := RecD.cells ⟨nm, typ, cls, ttl, len, 3, dataV, data, host, box, n1, n2, n3, n4, n5, .slice pt texts.length ct, texts, pairsV, qs⟩) rfl Tryd.underlying68 rfl sz_68 rfl (fun w hI => Inv.whole hI (i := 0) rfl)) ?_
    refine OpsJ.op rfl ?_
    refine OpJ.call (hall) has_57 rfl rfl rfl rfl rfl [] [0] (by decide) rfl rfl (fun _ _ => trivial) ?_
    rintro _ _ ⟨rfl, rfl⟩
    refine OpsJ.yld rfl rfl rfl (Yld.move rfl rfl) ?_
    refine OpsJ.splitB (s := 48) rfl (fun g48 => ?_) (fun g48 => ?_)
    · refine OpsJ.opT rfl rfl rfl ?_
      refine OpJ.yld rfl rfl (Yld.loadN (vs := RecD.cells ⟨nm, typ, cls, ttl, len, 3, dataV, data, host, box, n1, n2, n3, n4, n5, .slice pt texts.length ct, texts, pairsV, qs⟩) rfl Tryd.underlying68 rfl sz_68 rfl (fun w hI => Inv.whole hI (i := 0) rfl)) ?_
      refine OpsJ.opT rfl rfl rfl ?_
      refine OpJ.call (hbd g48) has_32 rfl rfl rfl rfl rfl [] [0] (by decide) rfl rfl (fun w hI => hok.keep0 hI.keep) ?_
      rintro _ _ ⟨p50, c50, rfl, rfl⟩
      refine OpsJ.opT rfl rfl rfl ?_
      refine OpJ.yld rfl rfl (Yld.lenSlice rfl rfl rfl Tryd.underlying39 rfl) ?_
      refine OpsJ.opT rfl rfl rfl ?_
      refine OpJ.yld rfl rfl (Yld.intBin rfl rfl rfl rfl) ?_
      refine OpsJ.yld rfl rfl rfl (Yld.pickT rfl rfl rfl) ?_
      refine OpsJ.yld rfl rfl rfl (Yld.assign rfl rfl) ?_
      refine OpsJ.nil ?_
      refine ExJ.thenN ?_
      refine CodeJ.ret ?_
      refine ExJ.ret1 Tryd.results31 rfl ⟨?_, rfl⟩ fun w hI => hI.pick (is := []) (by decide) rfl
      rw [hkd, g48, Bool.true_and]
      exact congrArg Value.bool (by rw [Bool.eq_iff_iff, decide_eq_true_iff, decide_eq_true_iff]; omega)
    · refine OpsJ.opF rfl rfl rfl rfl rfl rfl ?_
      refine OpsJ.opF rfl rfl rfl rfl rfl rfl ?_
      refine OpsJ.opF rfl rfl rfl rfl rfl rfl ?_
      refine OpsJ.opF rfl rfl rfl rfl rfl rfl ?_
      refine OpsJ.yld rfl rfl rfl (Yld.pickF rfl rfl rfl) ?_
      refine OpsJ.yld rfl rfl rfl (Yld.assign rfl rfl) ?_
      refine OpsJ.nil ?_
      refine ExJ.thenN ?_
      refine CodeJ.ret ?_
      refine ExJ.ret1 Tryd.results31 rfl ⟨?_, rfl⟩ fun w hI => hI.pick (is := []) (by decide) rfl
      rw [hkd, g48]
      rfl

theorem one_CNAME (r : RecD) (hr : r.kind = ((3 : Nat) : Int)) (hh : RecFit r) : (hostK 5).One 3 r := by
  refine ⟨bodyOk_CNAME r hr hh, fun h => ?_, fun h => ?_, hr, rfl⟩
  · have h' : ((nameOk r.host.data.toList) && decide (((hostK 5).body r).length < 65536)) = true := h
    rw [Bool.and_eq_true] at h'
    exact body_CNAME r hr h'.1
  · have h' : ((nameOk r.host.data.toList) && decide (((hostK 5).body r).length < 65536)) = true := h
    rw [Bool.and_eq_true, decide_eq_true_iff] at h'
    exact h'.2
end Go.Proofs.YtijhpaejdchjgaaDoor
