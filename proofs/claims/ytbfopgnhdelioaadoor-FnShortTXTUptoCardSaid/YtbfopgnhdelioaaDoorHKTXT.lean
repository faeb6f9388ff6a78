/-
  Contracts of the reference: TXT records.
-/
import Derived.Test.YtbfopgnhdelioaaDoorBg
import Derived.Test.YtbfopgnhdelioaaDoorHBodyP
namespace Go.Proofs.YtbfopgnhdelioaaDoor
open Go
set_option maxRecDepth 100000

theorem hostOk_TXT (r : RecD) (hr : r.kind = 7) : Spec Tryd.prog 56 [r.val] [] (fun _ => True) (fun x H' => x = .bool true ∧ H' = []) := by
  obtain ⟨nm, typ, cls, ttl, len, kd, dataV, data, host, box, n1, n2, n3, n4, n5, textsV, texts, pairsV, qs⟩ := r
  simp only at hr
  subst hr
  refine Spec.of Tryd.func56 rfl Tryd.ntmps56 rfl fun w0 _ => ?_
  refine CodeJ.seq ?_
  refine CodeJ.region ?_
  refine OpsJ.op rfl ?_
  refine OpJ.box rfl rfl rfl rfl fun rb hrb => ?_
  refine OpsJ.yld rfl rfl rfl (Yld.assign rfl rfl) ?_
  refine OpsJ.nil ?_
  refine ExJ.thenN ?_
  refine CodeJ.seq ?_
  refine CodeJ.seq ?_
  refine CodeJ.region ?_
  refine OpsJ.yld rfl rfl rfl (Yld.fieldAddr fa_81_5 rfl rfl) ?_
  refine OpsJ.yld rfl rfl rfl (Yld.load1 rfl Tryd.underlying3 rfl rfl (fun w hI => Inv.cell1 hI (i := 0) rfl rfl)) ?_
  refine OpsJ.nil ?_
  refine ExJ.thenN ?_
  refine CodeJ.block ?_
  refine CodeJ.seq ?_
  refine CodeJ.seq ?_
  refine CodeJ.region ?_
  refine OpsJ.yld rfl rfl rfl (Yld.intBin rfl rfl rfl rfl) ?_
  refine OpsJ.yld rfl rfl rfl (Yld.assign rfl rfl) ?_
  refine OpsJ.nil ?_
  refine ExJ.thenN ?_
  refine CodeJ.condF rfl ?_
  refine CodeJ.seq ?_
  refine CodeJ.region ?_
  refine OpsJ.yld rfl rfl rfl (Yld.intBin rfl rfl rfl rfl) ?_
  refine OpsJ.yld rfl rfl rfl (Yld.assign rfl rfl) ?_
  refine OpsJ.nil ?_
  refine ExJ.thenN ?_
  refine CodeJ.condF rfl ?_
  refine CodeJ.seq ?_
  refine CodeJ.region ?_
  refine OpsJ.yld rfl rfl rfl (Yld.intBin rfl rfl rfl rfl) ?_
  refine OpsJ.yld rfl rfl rfl (Yld.assign rfl rfl) ?_
  refine OpsJ.nil ?_
  refine ExJ.thenN ?_
  refine CodeJ.condF rfl ?_
  refine CodeJ.seq ?_
  refine CodeJ.region ?_
  refine OpsJ.yld rfl rfl rfl (Yld.intBin rfl rfl rfl rfl) ?_
  refine OpsJ.yld rfl rfl rfl (Yld.assign rfl rfl) ?_
  refine OpsJ.nil ?_
  refine ExJ.thenN ?_
  refine CodeJ.condF rfl ?_
  refine CodeJ.seq ?_
  refine CodeJ.region ?_
  refine OpsJ.yld rfl rfl rfl (Yld.intBin rfl rfl rfl rfl) ?_
  refine OpsJ.yld rfl rfl rfl (Yld.assign rfl rfl) ?_
  refine OpsJ.nil ?_
  refine ExJ.thenN ?_
  refine CodeJ.condF rfl ?_
  refine CodeJ.seq ?_
  refine CodeJ.region ?_
  refine OpsJ.yld rfl rfl rfl (Yld.intBin rfl rfl rfl rfl) ?_
  refine OpsJ.yld rfl rfl rfl (Yld.assign rfl rfl) ?_
  refine OpsJ.nil ?_
  refine ExJ.thenN ?_
  refine CodeJ.condF rfl ?_
  refine CodeJ.region ?_
  refine OpsJ.yld rfl rfl rfl (Yld.intBin rfl rfl rfl rfl) ?_
  refine OpsJ.yld rfl rfl rfl (Yld.assign rfl rfl) ?_
  refine OpsJ.nil ?_
  refine ExJ.thenN ?_
  refine CodeJ.condF rfl ?_
  refine CodeJ.seq ?_
  refine CodeJ.region ?_
  refine OpsJ.yld rfl rfl rfl (Yld.intBin rfl rfl rfl rfl) ?_
  refine OpsJ.yld rfl rfl rfl (Yld.assign rfl rfl) ?_
  refine OpsJ.nil ?_
  refine ExJ.thenN ?_
  refine CodeJ.condF rfl ?_
  refine CodeJ.skip ?_
  refine ExJ.blockN ?_
  refine ExJ.thenN ?_
  refine CodeJ.seq ?_
  refine CodeJ.region ?_
  refine OpsJ.yld rfl rfl rfl (Yld.assign rfl rfl) ?_
  refine OpsJ.nil ?_
  refine ExJ.thenN ?_
  refine CodeJ.ret ?_
  exact ExJ.ret1 Tryd.results56 rfl ⟨rfl, rfl⟩ fun w hI => hI.pick (is := []) (by decide) rfl

def txtK : Kind := ⟨fun r => shortT r.texts && (!r.texts.isEmpty && decide ((textsW r.texts).length < 65536)), fun r => textsW r.texts, fun _ => 16⟩
theorem okn_TXT {x : RecD} (hok : txtK.recOk x = true) : nameOk x.name.data.toList = true ∧ shortT x.texts = true ∧ x.texts.isEmpty = false ∧ (textsW x.texts).length < 65536 := by
  have h := hok
  simp only [Kind.recOk, txtK, Bool.and_eq_true, decide_eq_true_eq, Bool.not_eq_true'] at h
  exact h
theorem body_TXT (r : RecD) (hr : r.kind = 7) (hf : (textsW r.texts).length ≤ 4398046511104) : Spec Tryd.prog 26 [r.val] [] (fun w => RecOk w r) (RetB 5 (textsW r.texts)) := by
  obtain ⟨nm, typ, cls, ttl, len, kd, dataV, data, host, box, n1, n2, n3, n4, n5, textsV, texts, pairsV, qs⟩ := r
  simp only at hr
  subst hr
  simp only at hf
  refine Spec.of Tryd.func26 rfl Tryd.ntmps26 rfl fun w0 hok => ?_
  obtain ⟨pt, ct, htv⟩ := hok.texts.shape
  have htx := hok.texts
  simp only at htv htx
  subst htv
  have hnl : texts.length ≤ 4398046511104 := by
    have : ∀ l : List ByteArray, l.length ≤ (textsW l).length := fun l => by
      induction l with
      | nil => simp
      | cons p r ih =>
        rw [textsW_cons, List.length_append, textW_len, List.length_cons]
        omega
    exact Nat.le_trans (this texts) hf
  refine CodeJ.seq ?_
  refine CodeJ.region ?_
  refine OpsJ.op rfl ?_
  refine OpJ.box rfl rfl rfl rfl fun rb hrb => ?_
  refine OpsJ.yld rfl rfl rfl (Yld.assign rfl rfl) ?_
  refine OpsJ.nil ?_
  refine ExJ.thenN ?_
  refine CodeJ.seq ?_
  refine CodeJ.region ?_
  refine OpsJ.yld rfl rfl rfl (Yld.fieldAddr fa_81_9 rfl rfl) ?_
  refine OpsJ.yld rfl rfl rfl (Yld.load1 rfl Tryd.underlying25 rfl rfl (fun w hI => Inv.cell1 hI (i := 0) rfl rfl)) ?_
  refine OpsJ.yld rfl rfl rfl (Yld.convInt rfl Tryd.underlying25 Tryd.underlying22 rfl) ?_
  refine OpsJ.yld rfl rfl rfl (Yld.fieldAddr fa_81_10 rfl rfl) ?_
  refine OpsJ.yld rfl rfl rfl (Yld.load1 rfl Tryd.underlying25 rfl rfl (fun w hI => Inv.cell1 hI (i := 0) rfl rfl)) ?_
  refine OpsJ.yld rfl rfl rfl (Yld.convInt rfl Tryd.underlying25 Tryd.underlying22 rfl) ?_
  refine OpsJ.yld rfl rfl rfl (Yld.fieldAddr fa_81_11 rfl rfl) ?_
  refine OpsJ.yld rfl rfl rfl (Yld.load1 rfl Tryd.underlying25 rfl rfl (fun w hI => Inv.cell1 hI (i := 0) rfl rfl)) ?_
  refine OpsJ.yld rfl rfl rfl (Yld.convInt rfl Tryd.underlying25 Tryd.underlying22 rfl) ?_
  refine OpsJ.op rfl ?_
  refine OpJ.buildSlice (xs := [.tmp 9, .tmp 12, .tmp 15]) elt_132 rfl rfl rfl rfl rfl rfl (by rfl) (by decide) fun ns hns => ?_
  refine OpsJ.yld rfl rfl rfl (Yld.assign rfl rfl) ?_
  refine OpsJ.nil ?_
  refine ExJ.thenN ?_
  refine CodeJ.seq ?_
  refine CodeJ.seq ?_
  refine CodeJ.region ?_
  refine OpsJ.yld rfl rfl rfl (Yld.fieldAddr fa_81_5 rfl rfl) ?_
  refine OpsJ.yld rfl rfl rfl (Yld.load1 rfl Tryd.underlying3 rfl rfl (fun w hI => Inv.cell1 hI (i := 1) rfl rfl)) ?_
  refine OpsJ.nil ?_
  refine ExJ.thenN ?_
  refine CodeJ.block ?_
  refine CodeJ.seq ?_
  refine CodeJ.region ?_
  refine OpsJ.yld rfl rfl rfl (Yld.intBin rfl rfl rfl rfl) ?_
  refine OpsJ.yld rfl rfl rfl (Yld.assign rfl rfl) ?_
  refine OpsJ.nil ?_
  refine ExJ.thenN ?_
  refine CodeJ.condF rfl ?_
  refine CodeJ.seq ?_
  refine CodeJ.region ?_
  refine OpsJ.yld rfl rfl rfl (Yld.intBin rfl rfl rfl rfl) ?_
  refine OpsJ.yld rfl rfl rfl (Yld.assign rfl rfl) ?_
  refine OpsJ.nil ?_
  refine ExJ.thenN ?_
  refine CodeJ.condF rfl ?_
  refine CodeJ.seq ?_
  refine CodeJ.seq ?_
  refine CodeJ.region ?_
  refine OpsJ.yld rfl rfl rfl (Yld.intBin rfl rfl rfl rfl) ?_
  refine OpsJ.yld rfl rfl rfl (Yld.assign rfl rfl) ?_
  refine OpsJ.nil ?_
  refine ExJ.thenN ?_
  refine CodeJ.condF rfl ?_
  refine CodeJ.seq ?_
  refine CodeJ.region ?_
  refine OpsJ.yld rfl rfl rfl (Yld.intBin rfl rfl rfl rfl) ?_
  refine OpsJ.yld rfl rfl rfl (Yld.assign rfl rfl) ?_
  refine OpsJ.nil ?_
  refine ExJ.thenN ?_
  refine CodeJ.condF rfl ?_
  refine CodeJ.region ?_
  refine OpsJ.yld rfl rfl rfl (Yld.intBin rfl rfl rfl rfl) ?_
  refine OpsJ.yld rfl rfl rfl (Yld.assign rfl rfl) ?_
  refine OpsJ.nil ?_
  refine ExJ.thenN ?_
  refine CodeJ.condF rfl ?_
  refine CodeJ.seq ?_
  refine CodeJ.region ?_
  refine OpsJ.yld rfl rfl rfl (Yld.intBin rfl rfl rfl rfl) ?_
  refine OpsJ.yld rfl rfl rfl (Yld.assign rfl rfl) ?_
  refine OpsJ.nil ?_
  refine ExJ.thenN ?_
  refine CodeJ.condF rfl ?_
  refine CodeJ.seq ?_
  refine CodeJ.region ?_
  refine OpsJ.yld rfl rfl rfl (Yld.intBin rfl rfl rfl rfl) ?_
  refine OpsJ.yld rfl rfl rfl (Yld.assign rfl rfl) ?_
  refine OpsJ.nil ?_
  refine ExJ.thenN ?_
  refine CodeJ.condF rfl ?_
  refine CodeJ.seq ?_
  refine CodeJ.region ?_
  refine OpsJ.yld rfl rfl rfl (Yld.intBin rfl rfl rfl rfl) ?_
  refine OpsJ.yld rfl rfl rfl (Yld.assign rfl rfl) ?_
  refine OpsJ.nil ?_
  refine ExJ.thenN ?_
  refine CodeJ.condT rfl ?_
  refine CodeJ.seq ?_
  refine CodeJ.region ?_
  refine OpsJ.op rfl ?_
  refine OpJ.buildSlice (xs := []) elt_26 rfl rfl rfl rfl rfl rfl (by rfl) (by decide) fun out hout => ?_
  refine OpsJ.yld rfl rfl rfl (Yld.assign rfl rfl) ?_
  refine OpsJ.nil ?_
  refine ExJ.thenN ?_
  refine CodeJ.seq ?_
  refine CodeJ.seq ?_
  refine CodeJ.region ?_
  refine OpsJ.yld rfl rfl rfl (Yld.fieldAddr fa_81_14 rfl rfl) ?_
  refine OpsJ.yld rfl rfl rfl (Yld.load1 rfl Tryd.underlying27 rfl rfl (fun w hI => Inv.cell1 hI (i := 2) rfl rfl)) ?_
  refine OpsJ.yld rfl rfl rfl (Yld.lenSlice rfl rfl rfl Tryd.underlying27 rfl) ?_
  refine OpsJ.yld rfl rfl rfl (Yld.move rfl rfl) ?_
  refine OpsJ.nil ?_
  refine ExJ.thenN ?_
  refine CodeJ.block ?_
  refine CodeJ.loopP (fun L H m => ∃ (k : Nat) (p : Option Addr) (q : Nat), k ≤ texts.length ∧ L = [(4, .slice p (textsW (texts.take k)).length q), (76, .slice pt texts.length ct), (77, .int .i64 texts.length), (78, .int .i64 k)] ∧ H = [ownB 5 (.slice p (textsW (texts.take k)).length q) (textsW (texts.take k))] ∧ m = texts.length - k) ⟨0, _, _, Nat.zero_le _, rfl, rfl, rfl⟩ ⟨rfl, rfl, rfl, rfl, trivial⟩ (fun w hI => hI.pick (is := [0]) (by decide) rfl) ?_
  rintro _ _ _ ⟨k, p, q, hk, rfl, rfl, rfl⟩
  refine CodeJ.seq ?_
  refine CodeJ.region ?_
  refine OpsJ.yld rfl rfl rfl (Yld.intBin rfl rfl rfl rfl) ?_
  refine OpsJ.nil ?_
  refine ExJ.thenN ?_
  refine CodeJ.seq ?_
  refine CodeJ.condP rfl (fun c79 => ?_) (fun c79 => ?_)
  · have hk' : k < texts.length := by omega
    obtain ⟨x, hx⟩ : ∃ x, texts[k]? = some x := ⟨texts[k], List.getElem?_eq_getElem hk'⟩
    obtain ⟨b, off, c, hpv, hcell⟩ := Row.at (xss := texts.map fun s => [Value.string s]) (by rw [List.map_flatten_single]; exact htx) (fun y hy => by obtain ⟨z, _, rfl⟩ := List.mem_map.1 hy; rfl) (by simp) hk'
    simp only [Value.slice.injEq] at hpv
    obtain ⟨rfl, _, rfl⟩ := hpv
    have hcx := hcell [.string x] (by simp [hx])
    have hnx0 := textsW_take texts k x hx
    have hnx : textsW (texts.take (k + 1)) = textsW (texts.take k) ++ [UInt8.ofNat x.size] ++ x.data.toList := by rw [hnx0]; simp [textW]
    have hlt : (textsW (texts.take (k + 1))).length ≤ 4398046511104 := Nat.le_trans (sized_take textW texts (k + 1)) hf
    rw [hnx] at hlt
    simp only [List.length_append, List.length_singleton, str_len] at hlt
    refine CodeJ.skip ?_
    refine ExJ.thenN ?_
    refine CodeJ.seq ?_
    refine CodeJ.block ?_
    refine CodeJ.seq ?_
    refine CodeJ.region ?_
    refine OpsJ.yld rfl rfl rfl (Yld.indexAddr rfl Tryd.underlying27 sz_9 rfl rfl hk') ?_
    refine OpsJ.yld rfl rfl rfl (Yld.load1 rfl Tryd.underlying9 rfl rfl (fun w hI => hI.old hcx (by simp [fp]))) ?_
    refine OpsJ.yld rfl rfl rfl (Yld.assign rfl rfl) ?_
    refine OpsJ.nil ?_
    refine ExJ.thenN ?_
    refine CodeJ.region ?_
    refine OpsJ.yld rfl rfl rfl (Yld.move rfl rfl) ?_
    refine OpsJ.yld rfl rfl rfl (Yld.move rfl rfl) ?_
    refine OpsJ.yld rfl rfl rfl (Yld.lenString rfl rfl rfl Tryd.underlying9 rfl) ?_
    refine OpsJ.yld rfl rfl rfl (Yld.convInt rfl Tryd.underlying3 Tryd.underlying5 rfl) ?_
    rw [u8_wrap]
    refine OpsJ.op rfl ?_
    refine OpJ.buildSlice (xs := [.tmp 85]) elt_26 rfl rfl rfl rfl rfl rfl (by rfl) (by decide) fun one hone => ?_
    refine OpsJ.op rfl ?_
    refine OpJ.appendO (i := 1) (news := [UInt8.ofNat x.size]) elt_26 rfl rfl rfl rfl rfl rfl (fun w hI => Bytes.src (Inv.bytes (k := 0) rfl w hI) Tryd.underlying26) (by simp; omega) fun p87 c87 => ?_
    refine OpsJ.yld rfl rfl rfl (Yld.move rfl rfl) ?_
    refine OpsJ.op rfl ?_
    refine OpJ.appendO (i := 1) (news := x.data.toList) elt_26 rfl rfl rfl rfl rfl rfl (fun w hI => srcStr Tryd.underlying9 x) (by simp; omega) fun p89 c89 => ?_
    refine OpsJ.yld rfl rfl rfl (Yld.assign rfl rfl) ?_
    refine OpsJ.nil ?_
    refine ExJ.blockN ?_
    refine ExJ.thenN ?_
    refine CodeJ.region ?_
    refine OpsJ.yld rfl rfl rfl (Yld.intBin rfl rfl rfl rfl) ?_
    rw [i64_succ k (by omega)]
    refine OpsJ.yld rfl rfl rfl (Yld.move rfl rfl) ?_
    refine OpsJ.nil ?_
    exact ExJ.againP ⟨k + 1, p89, c89, by omega, rfl, rfl, rfl⟩ (by omega) ⟨by rw [hnx]; rfl, rfl, rfl, rfl, trivial⟩ fun w hI => by rw [hnx]; exact hI.pick (is := [1]) (by decide) rfl
  · obtain rfl : k = texts.length := by omega
    rw [List.take_length]
    refine CodeJ.exit ?_
    refine ExJ.thenX ?_
    refine ExJ.thenX ?_
    refine ExJ.blockHit ?_
    refine ExJ.thenN ?_
    refine CodeJ.seq ?_
    refine CodeJ.region ?_
    refine OpsJ.yld rfl rfl rfl (Yld.move rfl rfl) ?_
    refine OpsJ.yld rfl rfl rfl (Yld.assign rfl rfl) ?_
    refine OpsJ.nil ?_
    refine ExJ.thenN ?_
    refine CodeJ.ret ?_
    refine ExJ.blockR ?_
    refine ExJ.thenR ?_
    exact ExJ.retB Tryd.results26 rfl fun w hI => hI

theorem bodyOk_TXT (r : RecD) (hr : r.kind = 7) (hh : RecFit r) (hf : (textsW r.texts).length ≤ 4398046511104) : Spec Tryd.prog 25 [r.val] [] (fun w => RecOk w r) (fun x H' => x = .bool (txtK.ok r) ∧ H' = []) := by
  refine Spec.of Tryd.func25 rfl Tryd.ntmps25 rfl fun w0 hok => ?_
  have htl := hh.texts
  obtain ⟨pt, ct, htv⟩ := hok.texts.shape
  have htx := hok.texts
  have hall : Spec Tryd.prog 56 [r.val] [] (fun _ => True) (fun x H' => x = .bool true ∧ H' = []) := hostOk_TXT r hr
  have hbd : Spec Tryd.prog 26 [r.val] [] (fun w => RecOk w r) (RetB 5 (textsW r.texts)) := body_TXT r hr hf
  have hkd : txtK.ok r = (shortT r.texts && (!r.texts.isEmpty && decide ((textsW r.texts).length < 65536))) := rfl
  obtain ⟨nm, typ, cls, ttl, len, kd, dataV, data, host, box, n1, n2, n3, n4, n5, textsV, texts, pairsV, qs⟩ := r
  simp only at hr htl htv htx hkd
  subst hr htv
  refine CodeJ.seq ?_
  refine CodeJ.region ?_
  refine OpsJ.op rfl ?_
  refine OpJ.box rfl rfl rfl rfl fun rb hrb => ?_
  refine OpsJ.yld rfl rfl rfl (Yld.assign rfl rfl) ?_
  refine OpsJ.nil ?_
  refine ExJ.thenN ?_
  refine CodeJ.seq ?_
  refine CodeJ.seq ?_
  refine CodeJ.region ?_
  refine OpsJ.yld rfl rfl rfl (Yld.fieldAddr fa_81_14 rfl rfl) ?_
  refine OpsJ.yld rfl rfl rfl (Yld.load1 rfl Tryd.underlying27 rfl rfl (fun w hI => Inv.cell1 hI (i := 0) rfl rfl)) ?_
  refine OpsJ.yld rfl rfl rfl (Yld.lenSlice rfl rfl rfl Tryd.underlying27 rfl) ?_
  refine OpsJ.yld rfl rfl rfl (Yld.move rfl rfl) ?_
  refine OpsJ.nil ?_
  refine ExJ.thenN ?_
  refine CodeJ.block ?_
  refine CodeJ.loopP (fun L H m => ∃ j : Nat, j ≤ texts.length ∧ shortT (texts.take j) = true ∧ L = [(1, .pointer (some ⟨rb, 0, none⟩)), (6, .slice pt texts.length ct), (7, .int .i64 texts.length), (8, .int .i64 j)] ∧ H = [.blk rb (RecD.cells ⟨nm, typ, cls, ttl, len, 7, dataV, data, host, box, n1, n2, n3, n4, n5, .slice pt texts.length ct, texts, pairsV, qs⟩).toArray 81] ∧ m = texts.length - j) ⟨0, Nat.zero_le _, rfl, rfl, rfl, rfl⟩ ⟨rfl, rfl, rfl, rfl, trivial⟩ (fun w hI => hI) ?_
  rintro _ _ _ ⟨j, hj, hsh, rfl, rfl, rfl⟩
  refine CodeJ.seq ?_
  refine CodeJ.region ?_
  refine OpsJ.yld rfl rfl rfl (Yld.intBin rfl rfl rfl rfl) ?_
  refine OpsJ.nil ?_
  refine ExJ.thenN ?_
  refine CodeJ.seq ?_
  refine CodeJ.condP rfl (fun c9 => ?_) (fun c9 => ?_)
  · have hj' : j < texts.length := by omega
    obtain ⟨x, hx⟩ : ∃ x, texts[j]? = some x := ⟨texts[j], List.getElem?_eq_getElem hj'⟩
    obtain ⟨b, off, c, hpv, hcell⟩ := Row.at (xss := texts.map fun s => [Value.string s]) (by rw [List.map_flatten_single]; exact htx) (fun y hy => by obtain ⟨z, _, rfl⟩ := List.mem_map.1 hy; rfl) (by simp) hj'
    simp only [Value.slice.injEq] at hpv
    obtain ⟨rfl, _, rfl⟩ := hpv
    have hcx := hcell [.string x] (by simp [hx])
    refine CodeJ.skip ?_
    refine ExJ.thenN ?_
    refine CodeJ.seq ?_
    refine CodeJ.block ?_
    refine CodeJ.seq ?_
    refine CodeJ.region ?_
    refine OpsJ.yld rfl rfl rfl (Yld.indexAddr rfl Tryd.underlying27 sz_9 rfl rfl hj') ?_
    refine OpsJ.yld rfl rfl rfl (Yld.load1 rfl Tryd.underlying9 rfl rfl (fun w hI => hI.old hcx (by simp [fp]))) ?_
    refine OpsJ.yld rfl rfl rfl (Yld.assign rfl rfl) ?_
    refine OpsJ.nil ?_
    refine ExJ.thenN ?_
    refine CodeJ.seq ?_
    refine CodeJ.region ?_
    refine OpsJ.yld rfl rfl rfl (Yld.fieldAddr fa_81_5 rfl rfl) ?_
    refine OpsJ.yld rfl rfl rfl (Yld.load1 rfl Tryd.underlying3 rfl rfl (fun w hI => Inv.cell1 hI (i := 0) rfl rfl)) ?_
    refine OpsJ.yld rfl rfl rfl (Yld.intBin rfl rfl rfl rfl) ?_
    refine OpsJ.yld rfl rfl rfl (Yld.move rfl rfl) ?_
    refine OpsJ.opT rfl rfl rfl ?_
    refine OpJ.yld rfl rfl (Yld.move rfl rfl) ?_
    refine OpsJ.opT rfl rfl rfl ?_
    refine OpJ.yld rfl rfl (Yld.lenString rfl rfl rfl Tryd.underlying9 rfl) ?_
    refine OpsJ.opT rfl rfl rfl ?_
    refine OpJ.yld rfl rfl (Yld.intBin rfl rfl rfl rfl) ?_
    refine OpsJ.yld rfl rfl rfl (Yld.pickT rfl rfl rfl) ?_
    refine OpsJ.nil ?_
    refine ExJ.thenN ?_
    refine CodeJ.condP rfl (fun c19 => ?_) (fun c19 => ?_)
    · have hbad : shortT texts = false := List.all_eq_false.2 ⟨x, List.mem_of_getElem? hx, by simp; omega⟩
      refine CodeJ.seq ?_
      refine CodeJ.region ?_
      refine OpsJ.yld rfl rfl rfl (Yld.assign rfl rfl) ?_
      refine OpsJ.nil ?_
      refine ExJ.thenN ?_
      refine CodeJ.ret ?_
      refine ExJ.blockR ?_
      refine ExJ.thenR ?_
      refine ExJ.thenR ?_
      refine ExJ.blockR ?_
      refine ExJ.thenR ?_
      exact ExJ.ret1 Tryd.results25 rfl ⟨by rw [hkd, hbad]; rfl, rfl⟩ fun w hI => hI.pick (is := []) (by decide) rfl
    · refine CodeJ.skip ?_
      refine ExJ.blockN ?_
      refine ExJ.thenN ?_
      refine CodeJ.region ?_
      refine OpsJ.yld rfl rfl rfl (Yld.intBin rfl rfl rfl rfl) ?_
      rw [i64_succ j (by omega)]
      refine OpsJ.yld rfl rfl rfl (Yld.move rfl rfl) ?_
      refine OpsJ.nil ?_
      exact ExJ.againP ⟨j + 1, by omega, by rw [shortT, take_snoc _ _ _ hx, List.all_append]; rw [shortT] at hsh; rw [hsh]; simp; omega, rfl, rfl, rfl⟩ (by omega) ⟨rfl, rfl, rfl, rfl, trivial⟩ fun w hI => hI
  · obtain rfl : j = texts.length := by omega
    rw [List.take_length] at hsh
    refine CodeJ.exit ?_
    refine ExJ.thenX ?_
    refine ExJ.thenX ?_
    refine ExJ.blockHit ?_
    refine ExJ.thenN ?_
    refine CodeJ.seq ?_
    refine CodeJ.seq ?_
    refine CodeJ.region ?_
    refine OpsJ.yld rfl rfl rfl (Yld.fieldAddr fa_81_5 rfl rfl) ?_
    refine OpsJ.yld rfl rfl rfl (Yld.load1 rfl Tryd.underlying3 rfl rfl (fun w hI => Inv.cell1 hI (i := 0) rfl rfl)) ?_
    refine OpsJ.yld rfl rfl rfl (Yld.intBin rfl rfl rfl rfl) ?_
    refine OpsJ.yld rfl rfl rfl (Yld.move rfl rfl) ?_
    refine OpsJ.opT rfl rfl rfl ?_
    refine OpJ.yld rfl rfl (Yld.fieldAddr fa_81_14 rfl rfl) ?_
    refine OpsJ.opT rfl rfl rfl ?_
    refine OpJ.yld rfl rfl (Yld.load1 rfl Tryd.underlying27 rfl rfl (fun w hI => Inv.cell1 hI (i := 0) rfl rfl)) ?_
    refine OpsJ.opT rfl rfl rfl ?_
    refine OpJ.yld rfl rfl (Yld.lenSlice rfl rfl rfl Tryd.underlying27 rfl) ?_
    refine OpsJ.opT rfl rfl rfl ?_
    refine OpJ.yld rfl rfl (Yld.intBin rfl rfl rfl rfl) ?_
    refine OpsJ.yld rfl rfl rfl (Yld.pickT rfl rfl rfl) ?_
    refine OpsJ.yld rfl rfl rfl (Yld.move rfl rfl) ?_
    refine OpsJ.splitB (s := 30) rfl (fun g30 => ?_) (fun g30 => ?_)
    · have hemp : texts.isEmpty = true := by
        have h0 : ((texts.length : Nat) : Int) = 0 := by simpa using g30
        have : texts.length = 0 := by omega
        rw [List.length_eq_zero_iff.1 this]
        rfl
      refine OpsJ.opF rfl rfl rfl rfl rfl rfl ?_
      refine OpsJ.opF rfl rfl rfl rfl rfl rfl ?_
      refine OpsJ.opF rfl rfl rfl rfl rfl rfl ?_
      refine OpsJ.opF rfl rfl rfl rfl rfl rfl ?_
      refine OpsJ.opF rfl rfl rfl rfl rfl rfl ?_
      refine OpsJ.opF rfl rfl rfl rfl rfl rfl ?_
      refine OpsJ.opF rfl rfl rfl rfl rfl rfl ?_
      refine OpsJ.opF rfl rfl rfl rfl rfl rfl ?_
      refine OpsJ.opF rfl rfl rfl rfl rfl rfl ?_
      refine OpsJ.opF rfl rfl rfl rfl rfl rfl ?_
      refine OpsJ.opF rfl rfl rfl rfl rfl rfl ?_
      refine OpsJ.opF rfl rfl rfl rfl rfl rfl ?_
      refine OpsJ.opF rfl rfl rfl rfl rfl rfl ?_
      refine OpsJ.opF rfl rfl rfl rfl rfl rfl ?_
      refine OpsJ.yld rfl rfl rfl (Yld.pickT rfl rfl rfl) ?_
      refine OpsJ.nil ?_
      refine ExJ.thenN ?_
      refine CodeJ.condT rfl ?_
      refine CodeJ.seq ?_
      refine CodeJ.region ?_
      refine OpsJ.yld rfl rfl rfl (Yld.assign rfl rfl) ?_
      refine OpsJ.nil ?_
      refine ExJ.thenN ?_
      refine CodeJ.ret ?_
      refine ExJ.thenR ?_
      exact ExJ.ret1 Tryd.results25 rfl ⟨by rw [hkd, hsh, hemp]; rfl, rfl⟩ fun w hI => hI.pick (is := []) (by decide) rfl
    · have hemp : texts.isEmpty = false := by
        have h0 : ¬ ((texts.length : Nat) : Int) = 0 := by simpa using g30
        cases texts with
        | nil => simp at h0
        | cons _ _ => rfl
      refine OpsJ.opT rfl rfl rfl ?_
      refine OpJ.yld rfl rfl (Yld.fieldAddr fa_81_5 rfl rfl) ?_
      refine OpsJ.opT rfl rfl rfl ?_
      refine OpJ.yld rfl rfl (Yld.load1 rfl Tryd.underlying3 rfl rfl (fun w hI => Inv.cell1 hI (i := 0) rfl rfl)) ?_
      refine OpsJ.opT rfl rfl rfl ?_
      refine OpJ.yld rfl rfl (Yld.intBin rfl rfl rfl rfl) ?_
      refine OpsJ.opT rfl rfl rfl ?_
      refine OpJ.yld rfl rfl (Yld.move rfl rfl) ?_
      refine OpsJ.opT rfl rfl rfl ?_
      refine OpJ.yld rfl rfl (Yld.fieldAddr fa_81_5 rfl rfl) ?_
      refine OpsJ.opT rfl rfl rfl ?_
      refine OpJ.yld rfl rfl (Yld.load1 rfl Tryd.underlying3 rfl rfl (fun w hI => Inv.cell1 hI (i := 0) rfl rfl)) ?_
      refine OpsJ.opT rfl rfl rfl ?_
      refine OpJ.yld rfl rfl (Yld.intBin rfl rfl rfl rfl) ?_
      refine OpsJ.opT rfl rfl rfl ?_
      refine OpJ.yld rfl rfl (Yld.pickF rfl rfl rfl) ?_
      refine OpsJ.opT rfl rfl rfl ?_
      refine OpJ.yld rfl rfl (Yld.move rfl rfl) ?_
      refine OpsJ.opF rfl rfl rfl rfl rfl rfl ?_
      refine OpsJ.opF rfl rfl rfl rfl rfl rfl ?_
      refine OpsJ.opF rfl rfl rfl rfl rfl rfl ?_
      refine OpsJ.opF rfl rfl rfl rfl rfl rfl ?_
      refine OpsJ.opT rfl rfl rfl ?_
      refine OpJ.yld rfl rfl (Yld.pickF rfl rfl rfl) ?_
      refine OpsJ.yld rfl rfl rfl (Yld.pickF rfl rfl rfl) ?_
      refine OpsJ.nil ?_
      refine ExJ.thenN ?_
      refine CodeJ.condF rfl ?_
      refine CodeJ.skip ?_
      refine ExJ.thenN ?_
      refine CodeJ.seq ?_
      refine CodeJ.region ?_
      refine OpsJ.yld rfl rfl rfl (Yld.loadN (vs := RecD.cells ⟨nm, typ, cls, ttl, len, 7, dataV, data, host, box, n1, n2, n3, n4, n5, .slice pt texts.length ct, texts, pairsV, qs⟩) rfl Tryd.underlying81 rfl sz_81 rfl (fun w hI => Inv.whole hI (i := 0) rfl)) ?_
      refine OpsJ.op rfl ?_
      refine OpJ.call (hall) has_56 rfl rfl rfl rfl rfl [] [0] (by decide) rfl rfl (fun _ _ => trivial) ?_
      rintro _ _ ⟨rfl, rfl⟩
      refine OpsJ.yld rfl rfl rfl (Yld.move rfl rfl) ?_
      refine OpsJ.splitB (s := 48) rfl (fun g48 => ?_) (fun g48 => ?_)
      · refine OpsJ.opT rfl rfl rfl ?_
        refine OpJ.yld rfl rfl (Yld.loadN (vs := RecD.cells ⟨nm, typ, cls, ttl, len, 7, dataV, data, host, box, n1, n2, n3, n4, n5, .slice pt texts.length ct, texts, pairsV, qs⟩) rfl Tryd.underlying81 rfl sz_81 rfl (fun w hI => Inv.whole hI (i := 0) rfl)) ?_
        refine OpsJ.opT rfl rfl rfl ?_
        refine OpJ.call (hbd) has_26 rfl rfl rfl rfl rfl [] [0] (by decide) rfl rfl (fun w hI => hok.keep0 hI.keep) ?_
        rintro _ _ ⟨p50, c50, rfl, rfl⟩
        refine OpsJ.opT rfl rfl rfl ?_
        refine OpJ.yld rfl rfl (Yld.lenSlice rfl rfl rfl Tryd.underlying26 rfl) ?_
        refine OpsJ.opT rfl rfl rfl ?_
        refine OpJ.yld rfl rfl (Yld.intBin rfl rfl rfl rfl) ?_
        refine OpsJ.yld rfl rfl rfl (Yld.pickT rfl rfl rfl) ?_
        refine OpsJ.yld rfl rfl rfl (Yld.assign rfl rfl) ?_
        refine OpsJ.nil ?_
        refine ExJ.thenN ?_
        refine CodeJ.ret ?_
        refine ExJ.ret1 Tryd.results25 rfl ⟨?_, rfl⟩ fun w hI => hI.pick (is := []) (by decide) rfl
        rw [hkd, hsh, hemp, Bool.true_and, Bool.not_false, Bool.true_and]
        exact congrArg Value.bool (by show decide ((((textsW texts).length : Nat) : Int) < 65536) = decide ((textsW texts).length < 65536); rw [Bool.eq_iff_iff, decide_eq_true_iff, decide_eq_true_iff]; omega)
      · exact absurd g48 (by decide)
theorem one_TXT (r : RecD) (hr : r.kind = ((7 : Nat) : Int)) (hh : RecFit r) (hf : (textsW r.texts).length ≤ 4398046511104) : txtK.One 7 r := by
  refine ⟨bodyOk_TXT r hr hh hf, fun _ => body_TXT r hr hf, fun h => ?_, hr, rfl⟩
  have h' : (shortT r.texts && (!r.texts.isEmpty && decide ((textsW r.texts).length < 65536))) = true := h
  rw [Bool.and_eq_true, Bool.and_eq_true, decide_eq_true_iff] at h'
  exact h'.2.2
end Go.Proofs.YtbfopgnhdelioaaDoor
