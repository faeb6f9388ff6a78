/-
  Contracts of the laws' helpers: same, specHead, fine.
-/
import Derived.Test.YtdiememgbnplkaaDoorRun
namespace Go.Proofs.YtdiememgbnplkaaDoor
open Go
set_option maxRecDepth 100000

theorem same_spec (v u : Value) (bs cs : List UInt8) : Spec Tryd.prog 17 [v, u] [] (fun w => Bytes w v bs ∧ Bytes w u cs) (fun r H' => r = .bool (bs == cs) ∧ H' = []) := by
  refine Spec.of Tryd.func17 rfl Tryd.ntmps17 rfl fun w0 hR => ?_
  refine CodeJ.seq ?_
  refine CodeJ.region ?_
  refine OpsJ.yld rfl rfl rfl (Yld.assign rfl rfl) ?_
  refine OpsJ.nil ?_
  refine ExJ.thenN ?_
  refine CodeJ.seq ?_
  refine CodeJ.region ?_
  refine OpsJ.yld rfl rfl rfl (Yld.move rfl rfl) ?_
  refine OpsJ.yld rfl rfl rfl (Yld.bytesStrV (bs := bs) rfl Tryd.underlying29 Tryd.underlying5 Tryd.underlying9 rfl (fun w hI => hR.1.keep hI.keep (by simp [fp]))) ?_
  refine OpsJ.yld rfl rfl rfl (Yld.move rfl rfl) ?_
  refine OpsJ.yld rfl rfl rfl (Yld.bytesStrV (bs := cs) rfl Tryd.underlying29 Tryd.underlying5 Tryd.underlying9 rfl (fun w hI => hR.2.keep hI.keep (by simp [fp]))) ?_
  refine OpsJ.yld rfl rfl rfl (Yld.strEq rfl rfl rfl) ?_
  rw [toList_strV, toList_strV]
  refine OpsJ.yld rfl rfl rfl (Yld.assign rfl rfl) ?_
  refine OpsJ.nil ?_
  refine ExJ.thenN ?_
  refine CodeJ.ret ?_
  exact ExJ.ret1 Tryd.results17 rfl ⟨rfl, rfl⟩ fun w hI => hI

theorem specHead_spec (h : Hd) : Spec Tryd.prog 16 [.agg (hdCs h).toArray] [] (fun _ => True) (fun r H' => r = .agg (hdCs h).toArray ∧ H' = []) := by
  refine Spec.of Tryd.func16 rfl Tryd.ntmps16 rfl fun w0 _ => ?_
  refine CodeJ.seq ?_
  refine CodeJ.region ?_
  refine OpsJ.op rfl ?_
  refine OpJ.box rfl rfl rfl rfl fun hd hhd => ?_
  refine OpsJ.op rfl ?_
  refine OpJ.alloc rfl rfl rfl zero_33 fun res hres => ?_
  refine OpsJ.nil ?_
  refine ExJ.thenN ?_
  refine CodeJ.seq ?_
  refine CodeJ.region ?_
  refine OpsJ.yld rfl rfl rfl (Yld.loadN (vs := hdCs h) rfl Tryd.underlying24 rfl sz_24 rfl (fun w hI => Inv.whole hI (i := 1) rfl)) ?_
  refine OpsJ.op rfl ?_
  refine OpJ.storeW (i := 0) rfl rfl rfl rfl sz_33 rfl rfl rfl ?_
  refine OpsJ.nil ?_
  refine ExJ.thenN ?_
  refine CodeJ.ret ?_
  exact ExJ.retC (vs := hdCs h) Tryd.results16 rfl Tryd.underlying33 rfl sz_33 (fun w hI => Inv.whole hI (i := 0) rfl) ⟨rfl, rfl⟩ fun w hI => hI.pick (is := []) (by decide) rfl

theorem flat_ints (fs : List Nat) : (fs.map fun k => [Value.int .i64 (k : Nat)]).flatten = fs.map fun k => Value.int .i64 (k : Nat) := by
  induction fs with
  | nil => rfl
  | cons x r ih => simp [ih]

theorem fine_spec (fv dv : Value) (fs : List Nat) (p : Option Addr) (n c : Nat) (hn : fs.length ≤ 9223372036854775806) : Spec Tryd.prog 21 [.agg #[fv, dv, .int .i64 0], .slice p n c] [] (fun w => Ints w fv fs)
    (fun r H' => r = .bool (fs.all (· == 0) && decide (fs.length = n)) ∧ H' = []) := by
  refine Spec.of Tryd.func21 rfl Tryd.ntmps21 rfl fun w0 hR => ?_
  obtain ⟨pf, cf, rfl⟩ := hR.shape
  refine CodeJ.seq ?_
  refine CodeJ.region ?_
  refine OpsJ.op rfl ?_
  refine OpJ.box rfl rfl rfl rfl fun bb hbb => ?_
  refine OpsJ.yld rfl rfl rfl (Yld.assign rfl rfl) ?_
  refine OpsJ.nil ?_
  refine ExJ.thenN ?_
  refine CodeJ.seq ?_
  refine CodeJ.seq ?_
  refine CodeJ.region ?_
  refine OpsJ.yld rfl rfl rfl (Yld.fieldAddr fa_37_0 rfl rfl) ?_
  refine OpsJ.yld rfl rfl rfl (Yld.load1 rfl Tryd.underlying35 rfl rfl (fun w hI => Inv.cell1 hI (i := 0) rfl rfl)) ?_
  refine OpsJ.yld rfl rfl rfl (Yld.lenSlice rfl rfl rfl Tryd.underlying35 rfl) ?_
  refine OpsJ.yld rfl rfl rfl (Yld.move rfl rfl) ?_
  refine OpsJ.nil ?_
  refine ExJ.thenN ?_
  refine CodeJ.block ?_
  refine CodeJ.loopP (fun L H m => ∃ (k : Nat), k ≤ fs.length ∧ (∀ x ∈ fs.take k, x = 0) ∧ L = [(1, .slice p n c), (2, .pointer (some ⟨bb, 0, none⟩)), (8, .slice pf fs.length cf), (9, .int .i64 fs.length), (10, .int .i64 k)] ∧ H = [.blk bb #[.slice pf fs.length cf, dv, .int .i64 0] 37] ∧ m = fs.length - k) ⟨0, Nat.zero_le _, by simp, rfl, rfl, rfl⟩ ⟨rfl, rfl, rfl, rfl, rfl, trivial⟩ (fun w hI => hI) ?_
  rintro _ _ _ ⟨k, hk, hz, rfl, rfl, rfl⟩
  refine CodeJ.seq ?_
  refine CodeJ.region ?_
  refine OpsJ.yld rfl rfl rfl (Yld.intBin rfl rfl rfl rfl) ?_
  refine OpsJ.nil ?_
  refine ExJ.thenN ?_
  refine CodeJ.seq ?_
  refine CodeJ.condP rfl (fun c11 => ?_) (fun c11 => ?_)
  · have hk' : k < fs.length := by omega
    obtain ⟨x, hx⟩ : ∃ x, fs[k]? = some x := ⟨fs[k], List.getElem?_eq_getElem hk'⟩
    obtain ⟨fb, fo, fc, hfe, hcell⟩ := Row.at (xss := fs.map fun k => [Value.int .i64 (k : Nat)]) (by rw [flat_ints]; exact hR) (fun y hy => by obtain ⟨z, _, rfl⟩ := List.mem_map.1 hy; rfl) (by simp) hk'
    injection hfe with hfe1 hfe2 hfe3
    subst hfe1
    have hcs := hcell [.int .i64 x] (by simp [hx])
    refine CodeJ.skip ?_
    refine ExJ.thenN ?_
    refine CodeJ.seq ?_
    refine CodeJ.block ?_
    refine CodeJ.seq ?_
    refine CodeJ.region ?_
    refine OpsJ.yld rfl rfl rfl (Yld.indexAddr rfl Tryd.underlying35 sz_3 rfl rfl hk') ?_
    refine OpsJ.yld rfl rfl rfl (Yld.load1 rfl Tryd.underlying3 rfl rfl (fun w hI => hI.old hcs (by simp [fp]))) ?_
    refine OpsJ.yld rfl rfl rfl (Yld.assign rfl rfl) ?_
    refine OpsJ.nil ?_
    refine ExJ.thenN ?_
    refine CodeJ.seq ?_
    refine CodeJ.region ?_
    refine OpsJ.yld rfl rfl rfl (Yld.move rfl rfl) ?_
    refine OpsJ.yld rfl rfl rfl (Yld.intBin rfl rfl rfl rfl) ?_
    refine OpsJ.nil ?_
    refine ExJ.thenN ?_
    refine CodeJ.cond rfl (fun c15 => ?_) (fun c15 => ?_)
    · have hxn : x ≠ 0 := fun h => by simp [h] at c15
      have hall : fs.all (· == 0) = false := by
        rw [List.all_eq_false]
        exact ⟨x, List.mem_of_getElem? hx, by simpa using hxn⟩
      refine CodeJ.seq ?_
      refine CodeJ.region ?_
      refine OpsJ.yld rfl rfl rfl (Yld.assign rfl rfl) ?_
      refine OpsJ.nil ?_
      refine ExJ.thenN ?_
      refine CodeJ.ret ?_
      refine ExJ.blockR ?_
      refine ExJ.thenR ?_
      refine ExJ.thenR ?_
      refine ExJ.blockR ?_
      refine ExJ.thenR ?_
      exact ExJ.ret1 Tryd.results21 rfl ⟨by rw [hall]; rfl, rfl⟩ fun w hI => hI.pick (is := []) (by decide) rfl
    · have hx0 : x = 0 := by
        have : (x : Int) = 0 := by simpa using c15
        omega
      refine CodeJ.skip ?_
      refine ExJ.blockN ?_
      refine ExJ.thenN ?_
      refine CodeJ.region ?_
      refine OpsJ.yld rfl rfl rfl (Yld.intBin rfl rfl rfl rfl) ?_
      rw [i64_succ k (by omega)]
      refine OpsJ.yld rfl rfl rfl (Yld.move rfl rfl) ?_
      refine OpsJ.nil ?_
      exact ExJ.againP ⟨k + 1, by omega, by rw [take_snoc _ _ _ hx]; intro y hy; rcases List.mem_append.1 hy with h | h; exact hz y h; simp at h; omega, rfl, rfl, rfl⟩ (by omega) ⟨rfl, rfl, rfl, rfl, rfl, trivial⟩ fun w hI => hI
  · obtain rfl : k = fs.length := by omega
    have hall : fs.all (· == 0) = true := by
      rw [List.all_eq_true]
      intro y hy
      have := hz y (by rw [List.take_length]; exact hy)
      simp [this]
    refine CodeJ.exit ?_
    refine ExJ.thenX ?_
    refine ExJ.thenX ?_
    refine ExJ.blockHit ?_
    refine ExJ.thenN ?_
    refine CodeJ.seq ?_
    refine CodeJ.region ?_
    refine OpsJ.yld rfl rfl rfl (Yld.fieldAddr fa_37_2 rfl rfl) ?_
    refine OpsJ.yld rfl rfl rfl (Yld.load1 rfl Tryd.underlying3 rfl rfl (fun w hI => Inv.cell1 hI (i := 0) rfl rfl)) ?_
    refine OpsJ.yld rfl rfl rfl (Yld.intBin rfl rfl rfl rfl) ?_
    refine OpsJ.yld rfl rfl rfl (Yld.move rfl rfl) ?_
    refine OpsJ.splitB (s := 20) rfl (fun g20 => ?_) (fun g20 => ?_)
    · refine OpsJ.opT rfl rfl rfl ?_
      refine OpJ.yld rfl rfl (Yld.fieldAddr fa_37_0 rfl rfl) ?_
      refine OpsJ.opT rfl rfl rfl ?_
      refine OpJ.yld rfl rfl (Yld.load1 rfl Tryd.underlying35 rfl rfl (fun w hI => Inv.cell1 hI (i := 0) rfl rfl)) ?_
      refine OpsJ.opT rfl rfl rfl ?_
      refine OpJ.yld rfl rfl (Yld.lenSlice rfl rfl rfl Tryd.underlying35 rfl) ?_
      refine OpsJ.opT rfl rfl rfl ?_
      refine OpJ.yld rfl rfl (Yld.move rfl rfl) ?_
      refine OpsJ.opT rfl rfl rfl ?_
      refine OpJ.yld rfl rfl (Yld.lenSlice rfl rfl rfl Tryd.underlying50 rfl) ?_
      refine OpsJ.opT rfl rfl rfl ?_
      refine OpJ.yld rfl rfl (Yld.intBin rfl rfl rfl rfl) ?_
      refine OpsJ.yld rfl rfl rfl (Yld.pickT rfl rfl rfl) ?_
      refine OpsJ.yld rfl rfl rfl (Yld.assign rfl rfl) ?_
      refine OpsJ.nil ?_
      refine ExJ.thenN ?_
      refine CodeJ.ret ?_
      refine ExJ.ret1 Tryd.results21 rfl ⟨?_, rfl⟩ fun w hI => hI.pick (is := []) (by decide) rfl
      rw [hall]
      congr 1
      rw [Bool.true_and, Bool.eq_iff_iff]
      simp
      omega
    · exact absurd g20 (by decide)
end Go.Proofs.YtdiememgbnplkaaDoor
