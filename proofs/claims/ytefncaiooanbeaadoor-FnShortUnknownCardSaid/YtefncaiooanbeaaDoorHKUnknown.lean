/-
  Contracts of the reference: Unknown records.
-/
import Derived.Test.YtefncaiooanbeaaDoorBg
namespace Go.Proofs.YtefncaiooanbeaaDoor
open Go
set_option maxRecDepth 100000

theorem hostOk_Unknown (r : RecD) (hr : r.kind = 13) : Spec Tryd.prog 73 [r.val] [] (fun _ => True) (fun x H' => x = .bool true ∧ H' = []) := by
  obtain ⟨nm, typ, cls, ttl, len, kd, dataV, data, host, box, n1, n2, n3, n4, n5, textsV, texts, pairsV, qs⟩ := r
  simp only at hr
  subst hr
  refine Spec.of Tryd.func73 rfl Tryd.ntmps73 rfl fun w0 _ => ?_
  refine CodeJ.seq ?_
  refine CodeJ.region ?_
  refine OpsJ.op rfl ?_
  refine OpJ.box rfl rfl rfl rfl fun rb hrb => ?_
  refine OpsJ.yld rfl rfl rfl (Yld.assign rfl rfl) ?_
  refine OpsJ.nil ?_
  refine ExJ.thenN ?_
  refine CodeJ.seq ?_
  refine CodeJ.seq ?_
  refine CodeJ.region ?_
  refine OpsJ.yld rfl rfl rfl (Yld.fieldAddr fa_83_5 rfl rfl) ?_
  refine OpsJ.yld rfl rfl rfl (Yld.load1 rfl Tryd.underlying3 rfl rfl (fun w hI => Inv.cell1 hI (i := 0) rfl rfl)) ?_
  refine OpsJ.nil ?_
  refine ExJ.thenN ?_
  refine CodeJ.block ?_
  refine CodeJ.seq ?_
  refine CodeJ.seq ?_
  refine CodeJ.region ?_
  refine OpsJ.yld rfl rfl rfl (Yld.intBin rfl rfl rfl rfl) ?_
  refine OpsJ.yld rfl rfl rfl (Yld.assign rfl rfl) ?_
  refine OpsJ.nil ?_
  refine ExJ.thenN ?_
  refine CodeJ.condF rfl ?_
  refine CodeJ.seq ?_
  refine CodeJ.region ?_
  refine OpsJ.yld rfl rfl rfl (Yld.intBin rfl rfl rfl rfl) ?_
  refine OpsJ.yld rfl rfl rfl (Yld.assign rfl rfl) ?_
  refine OpsJ.nil ?_
  refine ExJ.thenN ?_
  refine CodeJ.condF rfl ?_
  refine CodeJ.seq ?_
  refine CodeJ.region ?_
  refine OpsJ.yld rfl rfl rfl (Yld.intBin rfl rfl rfl rfl) ?_
  refine OpsJ.yld rfl rfl rfl (Yld.assign rfl rfl) ?_
  refine OpsJ.nil ?_
  refine ExJ.thenN ?_
  refine CodeJ.condF rfl ?_
  refine CodeJ.seq ?_
  refine CodeJ.region ?_
  refine OpsJ.yld rfl rfl rfl (Yld.intBin rfl rfl rfl rfl) ?_
  refine OpsJ.yld rfl rfl rfl (Yld.assign rfl rfl) ?_
  refine OpsJ.nil ?_
  refine ExJ.thenN ?_
  refine CodeJ.condF rfl ?_
  refine CodeJ.seq ?_
  refine CodeJ.region ?_
  refine OpsJ.yld rfl rfl rfl (Yld.intBin rfl rfl rfl rfl) ?_
  refine OpsJ.yld rfl rfl rfl (Yld.assign rfl rfl) ?_
  refine OpsJ.nil ?_
  refine ExJ.thenN ?_
  refine CodeJ.condF rfl ?_
  refine CodeJ.seq ?_
  refine CodeJ.region ?_
  refine OpsJ.yld rfl rfl rfl (Yld.intBin rfl rfl rfl rfl) ?_
  refine OpsJ.yld rfl rfl rfl (Yld.assign rfl rfl) ?_
  refine OpsJ.nil ?_
  refine ExJ.thenN ?_
  refine CodeJ.condF rfl ?_
  refine CodeJ.region ?_
  refine OpsJ.yld rfl rfl rfl (Yld.intBin rfl rfl rfl rfl) ?_
  refine OpsJ.yld rfl rfl rfl (Yld.assign rfl rfl) ?_
  refine OpsJ.nil ?_
  refine ExJ.thenN ?_
  refine CodeJ.condF rfl ?_
  refine CodeJ.seq ?_
  refine CodeJ.region ?_
  refine OpsJ.yld rfl rfl rfl (Yld.intBin rfl rfl rfl rfl) ?_
  refine OpsJ.yld rfl rfl rfl (Yld.assign rfl rfl) ?_
  refine OpsJ.nil ?_
  refine ExJ.thenN ?_
  refine CodeJ.condF rfl ?_
  refine CodeJ.skip ?_
  refine ExJ.blockN ?_
  refine ExJ.thenN ?_
  refine CodeJ.seq ?_
  refine CodeJ.region ?_
  refine OpsJ.yld rfl rfl rfl (Yld.assign rfl rfl) ?_
  refine OpsJ.nil ?_
  refine ExJ.thenN ?_
  refine CodeJ.ret ?_
  exact ExJ.ret1 Tryd.results73 rfl ⟨rfl, rfl⟩ fun w hI => hI.pick (is := []) (by decide) rfl

def unkK : Kind := ⟨fun r => true && decide (r.data.length < 65536), fun r => r.data, fun r => r.typ⟩
theorem okn_Unknown {x : RecD} (hok : unkK.recOk x = true) : nameOk x.name.data.toList = true ∧ x.data.length < 65536 := by
  have h := hok
  simp only [Kind.recOk, unkK, Bool.true_and, Bool.and_eq_true, decide_eq_true_eq] at h
  exact h
theorem body_Unknown (r : RecD) (hr : r.kind = 13) (hh : RecFit r) (_hn : true = true) : Spec Tryd.prog 37 [r.val] [] (fun w => RecOk w r) (RetB 5 r.data) := by
  have hdl := hh.data
  obtain ⟨nm, typ, cls, ttl, len, kd, dataV, data, host, box, n1, n2, n3, n4, n5, textsV, texts, pairsV, qs⟩ := r
  simp only at hr
  subst hr
  simp only at hdl
  refine Spec.of Tryd.func37 rfl Tryd.ntmps37 rfl fun w0 hok => ?_
  obtain ⟨pd, cd, hdv⟩ := hok.data.shape
  have hdat := hok.data
  simp only at hdv hdat
  subst hdv
  refine CodeJ.seq ?_
  refine CodeJ.region ?_
  refine OpsJ.op rfl ?_
  refine OpJ.box rfl rfl rfl rfl fun rb hrb => ?_
  refine OpsJ.yld rfl rfl rfl (Yld.assign rfl rfl) ?_
  refine OpsJ.nil ?_
  refine ExJ.thenN ?_
  refine CodeJ.seq ?_
  refine CodeJ.region ?_
  refine OpsJ.yld rfl rfl rfl (Yld.fieldAddr fa_83_9 rfl rfl) ?_
  refine OpsJ.yld rfl rfl rfl (Yld.load1 rfl Tryd.underlying25 rfl rfl (fun w hI => Inv.cell1 hI (i := 0) rfl rfl)) ?_
  refine OpsJ.yld rfl rfl rfl (Yld.convInt rfl Tryd.underlying25 Tryd.underlying22 rfl) ?_
  refine OpsJ.yld rfl rfl rfl (Yld.fieldAddr fa_83_10 rfl rfl) ?_
  refine OpsJ.yld rfl rfl rfl (Yld.load1 rfl Tryd.underlying25 rfl rfl (fun w hI => Inv.cell1 hI (i := 0) rfl rfl)) ?_
  refine OpsJ.yld rfl rfl rfl (Yld.convInt rfl Tryd.underlying25 Tryd.underlying22 rfl) ?_
  refine OpsJ.yld rfl rfl rfl (Yld.fieldAddr fa_83_11 rfl rfl) ?_
  refine OpsJ.yld rfl rfl rfl (Yld.load1 rfl Tryd.underlying25 rfl rfl (fun w hI => Inv.cell1 hI (i := 0) rfl rfl)) ?_
  refine OpsJ.yld rfl rfl rfl (Yld.convInt rfl Tryd.underlying25 Tryd.underlying22 rfl) ?_
  refine OpsJ.op rfl ?_
  refine OpJ.buildSlice (xs := [.tmp 9, .tmp 12, .tmp 15]) elt_143 rfl rfl rfl rfl rfl rfl (by rfl) (by decide) fun ns hns => ?_
  refine OpsJ.yld rfl rfl rfl (Yld.assign rfl rfl) ?_
  refine OpsJ.nil ?_
  refine ExJ.thenN ?_
  refine CodeJ.seq ?_
  refine CodeJ.seq ?_
  refine CodeJ.region ?_
  refine OpsJ.yld rfl rfl rfl (Yld.fieldAddr fa_83_5 rfl rfl) ?_
  refine OpsJ.yld rfl rfl rfl (Yld.load1 rfl Tryd.underlying3 rfl rfl (fun w hI => Inv.cell1 hI (i := 1) rfl rfl)) ?_
  refine OpsJ.nil ?_
  refine ExJ.thenN ?_
  refine CodeJ.block ?_
  refine CodeJ.seq ?_
  refine CodeJ.region ?_
  refine OpsJ.yld rfl rfl rfl (Yld.intBin rfl rfl rfl rfl) ?_
  refine OpsJ.yld rfl rfl rfl (Yld.assign rfl rfl) ?_
  refine OpsJ.nil ?_
  refine ExJ.thenN ?_
  refine CodeJ.condF rfl ?_
  refine CodeJ.seq ?_
  refine CodeJ.region ?_
  refine OpsJ.yld rfl rfl rfl (Yld.intBin rfl rfl rfl rfl) ?_
  refine OpsJ.yld rfl rfl rfl (Yld.assign rfl rfl) ?_
  refine OpsJ.nil ?_
  refine ExJ.thenN ?_
  refine CodeJ.condF rfl ?_
  refine CodeJ.seq ?_
  refine CodeJ.seq ?_
  refine CodeJ.region ?_
  refine OpsJ.yld rfl rfl rfl (Yld.intBin rfl rfl rfl rfl) ?_
  refine OpsJ.yld rfl rfl rfl (Yld.assign rfl rfl) ?_
  refine OpsJ.nil ?_
  refine ExJ.thenN ?_
  refine CodeJ.condF rfl ?_
  refine CodeJ.seq ?_
  refine CodeJ.region ?_
  refine OpsJ.yld rfl rfl rfl (Yld.intBin rfl rfl rfl rfl) ?_
  refine OpsJ.yld rfl rfl rfl (Yld.assign rfl rfl) ?_
  refine OpsJ.nil ?_
  refine ExJ.thenN ?_
  refine CodeJ.condF rfl ?_
  refine CodeJ.region ?_
  refine OpsJ.yld rfl rfl rfl (Yld.intBin rfl rfl rfl rfl) ?_
  refine OpsJ.yld rfl rfl rfl (Yld.assign rfl rfl) ?_
  refine OpsJ.nil ?_
  refine ExJ.thenN ?_
  refine CodeJ.condF rfl ?_
  refine CodeJ.seq ?_
  refine CodeJ.region ?_
  refine OpsJ.yld rfl rfl rfl (Yld.intBin rfl rfl rfl rfl) ?_
  refine OpsJ.yld rfl rfl rfl (Yld.assign rfl rfl) ?_
  refine OpsJ.nil ?_
  refine ExJ.thenN ?_
  refine CodeJ.condF rfl ?_
  refine CodeJ.seq ?_
  refine CodeJ.region ?_
  refine OpsJ.yld rfl rfl rfl (Yld.intBin rfl rfl rfl rfl) ?_
  refine OpsJ.yld rfl rfl rfl (Yld.assign rfl rfl) ?_
  refine OpsJ.nil ?_
  refine ExJ.thenN ?_
  refine CodeJ.condF rfl ?_
  refine CodeJ.seq ?_
  refine CodeJ.region ?_
  refine OpsJ.yld rfl rfl rfl (Yld.intBin rfl rfl rfl rfl) ?_
  refine OpsJ.yld rfl rfl rfl (Yld.assign rfl rfl) ?_
  refine OpsJ.nil ?_
  refine ExJ.thenN ?_
  refine CodeJ.condF rfl ?_
  refine CodeJ.seq ?_
  refine CodeJ.region ?_
  refine OpsJ.yld rfl rfl rfl (Yld.intBin rfl rfl rfl rfl) ?_
  refine OpsJ.yld rfl rfl rfl (Yld.assign rfl rfl) ?_
  refine OpsJ.nil ?_
  refine ExJ.thenN ?_
  refine CodeJ.condF rfl ?_
  refine CodeJ.seq ?_
  refine CodeJ.region ?_
  refine OpsJ.yld rfl rfl rfl (Yld.intBin rfl rfl rfl rfl) ?_
  refine OpsJ.yld rfl rfl rfl (Yld.assign rfl rfl) ?_
  refine OpsJ.nil ?_
  refine ExJ.thenN ?_
  refine CodeJ.condF rfl ?_
  refine CodeJ.seq ?_
  refine CodeJ.seq ?_
  refine CodeJ.region ?_
  refine OpsJ.yld rfl rfl rfl (Yld.intBin rfl rfl rfl rfl) ?_
  refine OpsJ.yld rfl rfl rfl (Yld.assign rfl rfl) ?_
  refine OpsJ.nil ?_
  refine ExJ.thenN ?_
  refine CodeJ.condF rfl ?_
  refine CodeJ.region ?_
  refine OpsJ.yld rfl rfl rfl (Yld.intBin rfl rfl rfl rfl) ?_
  refine OpsJ.yld rfl rfl rfl (Yld.assign rfl rfl) ?_
  refine OpsJ.nil ?_
  refine ExJ.thenN ?_
  refine CodeJ.condF rfl ?_
  refine CodeJ.skip ?_
  refine ExJ.blockN ?_
  refine ExJ.thenN ?_
  refine CodeJ.seq ?_
  refine CodeJ.region ?_
  refine OpsJ.yld rfl rfl rfl (Yld.fieldAddr fa_83_6 rfl rfl) ?_
  refine OpsJ.yld rfl rfl rfl (Yld.load1 rfl Tryd.underlying26 rfl rfl (fun w hI => Inv.cell1 hI (i := 1) rfl rfl)) ?_
  refine OpsJ.op rfl ?_
  refine OpJ.buildSlice (xs := [.tmp 132]) elt_173 rfl rfl rfl rfl rfl rfl (by rfl) (by decide) fun parts hparts => ?_
  refine OpsJ.op rfl ?_
  refine OpJ.call (joined_spec _ [data] (by simp; omega) (by simp)) has_76 rfl rfl rfl rfl rfl [] [0, 1, 2] (by decide) rfl rfl (Inv.parts (i := 0) rfl rfl ⟨fun w hI => hdat.keep hI.keep (by simp [fp]), trivial⟩) ?_
  rintro _ _ ⟨pj, cj, rfl, rfl⟩
  simp only [flat_one]
  refine OpsJ.yld rfl rfl rfl (Yld.assign rfl rfl) ?_
  refine OpsJ.nil ?_
  refine ExJ.thenN ?_
  refine CodeJ.ret ?_
  exact ExJ.retB Tryd.results37 rfl fun w hI => hI.pick (is := [0]) (by decide) rfl

theorem bodyOk_Unknown (r : RecD) (hr : r.kind = 13) (hh : RecFit r) : Spec Tryd.prog 36 [r.val] [] (fun w => RecOk w r) (fun x H' => x = .bool (unkK.ok r) ∧ H' = []) := by
  refine Spec.of Tryd.func36 rfl Tryd.ntmps36 rfl fun w0 hok => ?_
  have htl := hh.texts
  obtain ⟨pt, ct, htv⟩ := hok.texts.shape
  have htx := hok.texts
  have hall : Spec Tryd.prog 73 [r.val] [] (fun _ => True) (fun x H' => x = .bool (true) ∧ H' = []) := hostOk_Unknown r hr
  have hbd : (true) = true → Spec Tryd.prog 37 [r.val] [] (fun w => RecOk w r) (RetB 5 (unkK.body r)) := body_Unknown r hr hh
  have hkd : unkK.ok r = ((true) && decide ((unkK.body r).length < 65536)) := rfl
  obtain ⟨nm, typ, cls, ttl, len, kd, dataV, data, host, box, n1, n2, n3, n4, n5, textsV, texts, pairsV, qs⟩ := r
  simp only at hr htl htv htx
  subst hr htv
  refine CodeJ.seq ?_
  refine CodeJ.region ?_
  refine OpsJ.op rfl ?_
  refine OpJ.box rfl rfl rfl rfl fun rb hrb => ?_
  refine OpsJ.yld rfl rfl rfl (Yld.assign rfl rfl) ?_
  refine OpsJ.nil ?_
  refine ExJ.thenN ?_
  refine CodeJ.seq ?_
  refine CodeJ.seq ?_
  refine CodeJ.region ?_
  refine OpsJ.yld rfl rfl rfl (Yld.fieldAddr fa_83_14 rfl rfl) ?_
  refine OpsJ.yld rfl rfl rfl (Yld.load1 rfl Tryd.underlying27 rfl rfl (fun w hI => Inv.cell1 hI (i := 0) rfl rfl)) ?_
  refine OpsJ.yld rfl rfl rfl (Yld.lenSlice rfl rfl rfl Tryd.underlying27 rfl) ?_
  refine OpsJ.yld rfl rfl rfl (Yld.move rfl rfl) ?_
  refine OpsJ.nil ?_
  refine ExJ.thenN ?_
  refine CodeJ.block ?_
  refine CodeJ.loopP (fun L H m => ∃ j : Nat, j ≤ texts.length ∧ L = [(1, .pointer (some ⟨rb, 0, none⟩)), (6, .slice pt texts.length ct), (7, .int .i64 texts.length), (8, .int .i64 j)] ∧ H = [.blk rb (RecD.cells ⟨nm, typ, cls, ttl, len, 13, dataV, data, host, box, n1, n2, n3, n4, n5, .slice pt texts.length ct, texts, pairsV, qs⟩).toArray 83] ∧ m = texts.length - j) ⟨0, Nat.zero_le _, rfl, rfl, rfl⟩ ⟨rfl, rfl, rfl, rfl, trivial⟩ (fun w hI => hI) ?_
  rintro _ _ _ ⟨j, hj, rfl, rfl, rfl⟩
  refine CodeJ.seq ?_
  refine CodeJ.region ?_
  refine OpsJ.yld rfl rfl rfl (Yld.intBin rfl rfl rfl rfl) ?_
  refine OpsJ.nil ?_
  refine ExJ.thenN ?_
  refine CodeJ.seq ?_
  refine CodeJ.condP rfl (fun c9 => ?_) (fun c9 => ?_)
  · have hj' : j < texts.length := by omega
    obtain ⟨x, hx⟩ : ∃ x, texts[j]? = some x := ⟨texts[j], List.getElem?_eq_getElem hj'⟩
    obtain ⟨b, off, c, hpv, hcell⟩ := Row.at (xss := texts.map fun s => [Value.string s]) (by rw [List.map_flatten_single]; exact htx) (fun y hy => by obtain ⟨z, _, rfl⟩ := List.mem_map.1 hy; rfl) (by simp) hj'
    simp only [Value.slice.injEq] at hpv
    obtain ⟨rfl, _, rfl⟩ := hpv
    have hcx := hcell [.string x] (by simp [hx])
    refine CodeJ.skip ?_
    refine ExJ.thenN ?_
    refine CodeJ.seq ?_
    refine CodeJ.block ?_
    refine CodeJ.seq ?_
    refine CodeJ.region ?_
    refine OpsJ.yld rfl rfl rfl (Yld.indexAddr rfl Tryd.underlying27 sz_9 rfl rfl hj') ?_
    refine OpsJ.yld rfl rfl rfl (Yld.load1 rfl Tryd.underlying9 rfl rfl (fun w hI => hI.old hcx (by simp [fp]))) ?_
    refine OpsJ.yld rfl rfl rfl (Yld.assign rfl rfl) ?_
    refine OpsJ.nil ?_
    refine ExJ.thenN ?_
    refine CodeJ.seq ?_
    refine CodeJ.region ?_
    refine OpsJ.yld rfl rfl rfl (Yld.fieldAddr fa_83_5 rfl rfl) ?_
    refine OpsJ.yld rfl rfl rfl (Yld.load1 rfl Tryd.underlying3 rfl rfl (fun w hI => Inv.cell1 hI (i := 0) rfl rfl)) ?_
    refine OpsJ.yld rfl rfl rfl (Yld.intBin rfl rfl rfl rfl) ?_
    refine OpsJ.yld rfl rfl rfl (Yld.move rfl rfl) ?_
    refine OpsJ.opF rfl rfl rfl rfl rfl rfl ?_
    refine OpsJ.opF rfl rfl rfl rfl rfl rfl ?_
    refine OpsJ.opF rfl rfl rfl rfl rfl rfl ?_
    refine OpsJ.yld rfl rfl rfl (Yld.pickF rfl rfl rfl) ?_
    refine OpsJ.nil ?_
    refine ExJ.thenN ?_
    refine CodeJ.condF rfl ?_
    refine CodeJ.skip ?_
    refine ExJ.blockN ?_
    refine ExJ.thenN ?_
    refine CodeJ.region ?_
    refine OpsJ.yld rfl rfl rfl (Yld.intBin rfl rfl rfl rfl) ?_
    rw [i64_succ j (by omega)]
    refine OpsJ.yld rfl rfl rfl (Yld.move rfl rfl) ?_
    refine OpsJ.nil ?_
    exact ExJ.againP ⟨j + 1, by omega, rfl, rfl, rfl⟩ (by omega) ⟨rfl, rfl, rfl, rfl, trivial⟩ fun w hI => hI
  · refine CodeJ.exit ?_
    refine ExJ.thenX ?_
    refine ExJ.thenX ?_
    refine ExJ.blockHit ?_
    refine ExJ.thenN ?_
    refine CodeJ.seq ?_
    refine CodeJ.seq ?_
    refine CodeJ.region ?_
    refine OpsJ.yld rfl rfl rfl (Yld.fieldAddr fa_83_5 rfl rfl) ?_
    refine OpsJ.yld rfl rfl rfl (Yld.load1 rfl Tryd.underlying3 rfl rfl (fun w hI => Inv.cell1 hI (i := 0) rfl rfl)) ?_
    refine OpsJ.yld rfl rfl rfl (Yld.intBin rfl rfl rfl rfl) ?_
    refine OpsJ.yld rfl rfl rfl (Yld.move rfl rfl) ?_
    refine OpsJ.opF rfl rfl rfl rfl rfl rfl ?_
    refine OpsJ.opF rfl rfl rfl rfl rfl rfl ?_
    refine OpsJ.opF rfl rfl rfl rfl rfl rfl ?_
    refine OpsJ.opF rfl rfl rfl rfl rfl rfl ?_
    refine OpsJ.yld rfl rfl rfl (Yld.pickF rfl rfl rfl) ?_
    refine OpsJ.yld rfl rfl rfl (Yld.move rfl rfl) ?_
    refine OpsJ.opT rfl rfl rfl ?_
    refine OpJ.yld rfl rfl (Yld.fieldAddr fa_83_5 rfl rfl) ?_
    refine OpsJ.opT rfl rfl rfl ?_
    refine OpJ.yld rfl rfl (Yld.load1 rfl Tryd.underlying3 rfl rfl (fun w hI => Inv.cell1 hI (i := 0) rfl rfl)) ?_
    refine OpsJ.opT rfl rfl rfl ?_
    refine OpJ.yld rfl rfl (Yld.intBin rfl rfl rfl rfl) ?_
    refine OpsJ.opT rfl rfl rfl ?_
    refine OpJ.yld rfl rfl (Yld.move rfl rfl) ?_
    refine OpsJ.opT rfl rfl rfl ?_
    refine OpJ.yld rfl rfl (Yld.fieldAddr fa_83_5 rfl rfl) ?_
    refine OpsJ.opT rfl rfl rfl ?_
    refine OpJ.yld rfl rfl (Yld.load1 rfl Tryd.underlying3 rfl rfl (fun w hI => Inv.cell1 hI (i := 0) rfl rfl)) ?_
    refine OpsJ.opT rfl rfl rfl ?_
    refine OpJ.yld rfl rfl (Yld.intBin rfl rfl rfl rfl) ?_
    refine OpsJ.opT rfl rfl rfl ?_
    refine OpJ.yld rfl rfl (Yld.pickF rfl rfl rfl) ?_
    refine OpsJ.opT rfl rfl rfl ?_
    refine OpJ.yld rfl rfl (Yld.move rfl rfl) ?_
    refine OpsJ.opF rfl rfl rfl rfl rfl rfl ?_
    refine OpsJ.opF rfl rfl rfl rfl rfl rfl ?_
    refine OpsJ.opF rfl rfl rfl rfl rfl rfl ?_
    refine OpsJ.opF rfl rfl rfl rfl rfl rfl ?_
    refine OpsJ.opT rfl rfl rfl ?_
    refine OpJ.yld rfl rfl (Yld.pickF rfl rfl rfl) ?_
    refine OpsJ.yld rfl rfl rfl (Yld.pickF rfl rfl rfl) ?_
    refine OpsJ.nil ?_
    refine ExJ.thenN ?_
    refine CodeJ.condF rfl ?_
    refine CodeJ.skip ?_
    refine ExJ.thenN ?_
    refine CodeJ.seq ?_
    refine CodeJ.region ?_
    refine OpsJ.yld rfl rfl rfl (Yld.loadN (vs := RecD.cells ⟨nm, typ, cls, ttl, len, 13, dataV, data, host, box, n1, n2, n3, n4, n5, .slice pt texts.length ct, texts, pairsV, qs⟩) rfl Tryd.underlying83 rfl sz_83 rfl (fun w hI => Inv.whole hI (i := 0) rfl)) ?_
    refine OpsJ.op rfl ?_
    refine OpJ.call (hall) has_73 rfl rfl rfl rfl rfl [] [0] (by decide) rfl rfl (fun _ _ => trivial) ?_
    rintro _ _ ⟨rfl, rfl⟩
    refine OpsJ.yld rfl rfl rfl (Yld.move rfl rfl) ?_
    refine OpsJ.splitB (s := 48) rfl (fun g48 => ?_) (fun g48 => ?_)
    · refine OpsJ.opT rfl rfl rfl ?_
      refine OpJ.yld rfl rfl (Yld.loadN (vs := RecD.cells ⟨nm, typ, cls, ttl, len, 13, dataV, data, host, box, n1, n2, n3, n4, n5, .slice pt texts.length ct, texts, pairsV, qs⟩) rfl Tryd.underlying83 rfl sz_83 rfl (fun w hI => Inv.whole hI (i := 0) rfl)) ?_
      refine OpsJ.opT rfl rfl rfl ?_
      refine OpJ.call (hbd g48) has_37 rfl rfl rfl rfl rfl [] [0] (by decide) rfl rfl (fun w hI => hok.keep0 hI.keep) ?_
      rintro _ _ ⟨p50, c50, rfl, rfl⟩
      refine OpsJ.opT rfl rfl rfl ?_
      refine OpJ.yld rfl rfl (Yld.lenSlice rfl rfl rfl Tryd.underlying26 rfl) ?_
      refine OpsJ.opT rfl rfl rfl ?_
      refine OpJ.yld rfl rfl (Yld.intBin rfl rfl rfl rfl) ?_
      refine OpsJ.yld rfl rfl rfl (Yld.pickT rfl rfl rfl) ?_
      refine OpsJ.yld rfl rfl rfl (Yld.assign rfl rfl) ?_
      refine OpsJ.nil ?_
      refine ExJ.thenN ?_
      refine CodeJ.ret ?_
      refine ExJ.ret1 Tryd.results36 rfl ⟨?_, rfl⟩ fun w hI => hI.pick (is := []) (by decide) rfl
      rw [hkd, g48, Bool.true_and]
      exact congrArg Value.bool (by rw [Bool.eq_iff_iff, decide_eq_true_iff, decide_eq_true_iff]; omega)
    · refine OpsJ.opF rfl rfl rfl rfl rfl rfl ?_
      refine OpsJ.opF rfl rfl rfl rfl rfl rfl ?_
      refine OpsJ.opF rfl rfl rfl rfl rfl rfl ?_
      refine OpsJ.opF rfl rfl rfl rfl rfl rfl ?_
      refine OpsJ.yld rfl rfl rfl (Yld.pickF rfl rfl rfl) ?_
      refine OpsJ.yld rfl rfl rfl (Yld.assign rfl rfl) ?_
      refine OpsJ.nil ?_
      refine ExJ.thenN ?_
      refine CodeJ.ret ?_
      refine ExJ.ret1 Tryd.results36 rfl ⟨?_, rfl⟩ fun w hI => hI.pick (is := []) (by decide) rfl
      rw [hkd, g48]
      rfl

theorem one_Unknown (r : RecD) (hr : r.kind = ((13 : Nat) : Int)) (hh : RecFit r) : unkK.One 13 r := by
  refine ⟨bodyOk_Unknown r hr hh, fun h => ?_, fun h => ?_, hr, rfl⟩
  · have h' : ((true) && decide ((unkK.body r).length < 65536)) = true := h
    rw [Bool.and_eq_true] at h'
    exact body_Unknown r hr hh rfl
  · have h' : ((true) && decide ((unkK.body r).length < 65536)) = true := h
    rw [Bool.and_eq_true, decide_eq_true_iff] at h'
    exact h'.2
end Go.Proofs.YtefncaiooanbeaaDoor
