/-
  Contracts: Question, questionOf, faultOf.
-/
import Derived.Test.YtdiememgbnplkaaDoorDnsE
namespace Go.Proofs.YtdiememgbnplkaaDoor
open Go
set_option maxRecDepth 100000

theorem questionOf_spec (s : ByteArray) (typ cls : Nat) : Spec Tryd.prog 46 [.agg #[.string s, .int .u16 typ, .int .u16 cls]] [] (fun _ => True) (fun r H' => r = .agg (questCs (cut255 s) typ cls).toArray ∧ H' = []) := by
  refine Spec.of Tryd.func46 rfl Tryd.ntmps46 rfl fun w0 _ => ?_
  have hl := cut255_len s
  have hsz := nameCs_len (cut255 s) hl
  have hfl : flat [Value.agg (nameCs (cut255 s)).toArray, .int .u16 typ, .int .u16 cls] = questCs (cut255 s) typ cls := by simp [flat, questCs, Value.cells]
  have hq : (questCs (cut255 s) typ cls).length = 258 := by simp [questCs, hsz]
  have hone : oneCells (questCs (cut255 s) typ cls) = true := by
    have := nameCs_one (cut255 s)
    simp only [oneCells, questCs, List.all_append] at this ⊢
    rw [this]
    rfl
  refine CodeJ.seq ?_
  refine CodeJ.region ?_
  refine OpsJ.op rfl ?_
  refine OpJ.box rfl rfl rfl rfl fun ab hab => ?_
  refine OpsJ.op rfl ?_
  refine OpJ.alloc rfl rfl rfl zero_107 fun res hres => ?_
  refine OpsJ.nil ?_
  refine ExJ.thenN ?_
  refine CodeJ.seq ?_
  refine CodeJ.any (fuel := 9) (listed := #[false, false, false, false, false, false, false, false, false]) [1] rfl follows_mixed rfl rfl ?_
  refine AnyJ.take (fuel := 8) (listed' := #[true, false, false, false, false, false, false, false, false]) 0 rfl (by kernel_rfl) (by kernel_rfl) (by kernel_rfl) rfl rfl rfl rfl (Yld.fieldAddr fa_41_0 rfl rfl) (fun w hI => hI.pick (is := [1]) (by decide) rfl) ?_
  refine AnyJ.take (fuel := 7) (listed' := #[true, true, false, false, false, false, false, false, false]) 1 rfl (by kernel_rfl) (by kernel_rfl) (by kernel_rfl) rfl rfl rfl rfl (Yld.load1 rfl Tryd.underlying9 rfl rfl (fun w hI => Inv.cell1 hI (i := 0) rfl rfl)) (fun w hI => hI.pick (is := [1]) (by decide) rfl) ?_
  refine AnyJ.take (fuel := 6) (listed' := #[true, true, false, true, false, false, false, false, false]) 3 rfl (by kernel_rfl) (by kernel_rfl) (by kernel_rfl) rfl rfl rfl rfl (Yld.fieldAddr fa_41_1 rfl rfl) (fun w hI => hI.pick (is := [1]) (by decide) rfl) ?_
  refine AnyJ.take (fuel := 5) (listed' := #[true, true, false, true, true, false, false, false, false]) 4 rfl (by kernel_rfl) (by kernel_rfl) (by kernel_rfl) rfl rfl rfl rfl (Yld.load1 rfl Tryd.underlying22 rfl rfl (fun w hI => Inv.cell1 hI (i := 0) rfl rfl)) (fun w hI => hI.pick (is := [1]) (by decide) rfl) ?_
  refine AnyJ.take (fuel := 4) (listed' := #[true, true, false, true, true, true, false, false, false]) 5 rfl (by kernel_rfl) (by kernel_rfl) (by kernel_rfl) rfl rfl rfl rfl (Yld.fieldAddr fa_41_2 rfl rfl) (fun w hI => hI.pick (is := [1]) (by decide) rfl) ?_
  refine AnyJ.take (fuel := 3) (listed' := #[true, true, false, true, true, true, true, false, false]) 6 rfl (by kernel_rfl) (by kernel_rfl) (by kernel_rfl) rfl rfl rfl rfl (Yld.load1 rfl Tryd.underlying22 rfl rfl (fun w hI => Inv.cell1 hI (i := 0) rfl rfl)) (fun w hI => hI.pick (is := [1]) (by decide) rfl) ?_
  refine AnyJ.one (fuel := 2) 2 (by kernel_rfl) ?_
  refine StepJ.op (listed' := #[true, true, true, true, true, true, true, false, false]) rfl rfl rfl ?_
  refine OpJ.call (nameOf_spec s) has_61 rfl rfl rfl rfl rfl [] [0, 1] (by decide) rfl rfl (fun _ _ => trivial) ?_
  rintro _ _ ⟨rfl, rfl⟩
  refine ⟨fun w hI => hI.pick (is := [1]) (by decide) rfl, ?_⟩
  refine AnyJ.take (fuel := 1) (listed' := #[true, true, true, true, true, true, true, true, false]) 7 rfl (by kernel_rfl) (by kernel_rfl) (by kernel_rfl) rfl rfl rfl rfl (Yld.buildAll places_107 zero_107 rfl rfl ⟨by show _ = some (0, (nameCs (cut255 s)).toArray.size); rw [List.size_toArray, hsz]; rfl, by show _ = some (0 + (nameCs (cut255 s)).toArray.size, 1); rw [List.size_toArray, hsz]; rfl, by show _ = some (0 + (nameCs (cut255 s)).toArray.size + 1, 1); rw [List.size_toArray, hsz]; rfl, trivial⟩ (by show (flat [Value.agg (nameCs (cut255 s)).toArray, .int .u16 typ, .int .u16 cls]).length = _; rw [hfl, hq]; rfl)) (fun w hI => hI.pick (is := [1]) (by decide) rfl) ?_
  refine AnyJ.one (fuel := 0) 8 (by kernel_rfl) ?_
  refine StepJ.op (listed' := #[true, true, true, true, true, true, true, true, true]) rfl rfl rfl ?_
  refine OpJ.storeW (i := 0) rfl rfl rfl rfl (by show _ = some (flat [Value.agg (nameCs (cut255 s)).toArray, .int .u16 typ, .int .u16 cls]).toArray.size; rw [hfl, List.size_toArray, hq]; exact sz_107) rfl (by show oneCells (flat [Value.agg (nameCs (cut255 s)).toArray, .int .u16 typ, .int .u16 cls]) = true; rw [hfl]; exact hone) (by show (flat [Value.agg (nameCs (cut255 s)).toArray, .int .u16 typ, .int .u16 cls]).toArray.size = _; rw [hfl, List.size_toArray, hq]; rfl) ?_
  refine ⟨fun w hI => hI.pick (is := [1]) (by decide) rfl, ?_⟩
  refine AnyJ.done (by kernel_rfl) ?_
  refine ExJ.thenN ?_
  refine CodeJ.ret ?_
  refine ExJ.retC (vs := flat [Value.agg (nameCs (cut255 s)).toArray, .int .u16 typ, .int .u16 cls]) Tryd.results46 rfl Tryd.underlying107 rfl (by rw [hfl, hq]; exact sz_107) (fun w hI => Inv.whole hI (i := 0) rfl) ⟨by rw [hfl], rfl⟩ fun w hI => hI.pick (is := []) (by decide) rfl

theorem faultOf_nil (G : Nat → Addr) : Spec Tryd.prog 40 [.nilIface] [] (fun w => GE G w []) (fun r H' => r = .int .i64 0 ∧ H' = []) := by
  refine Spec.of Tryd.func40 rfl Tryd.ntmps40 rfl fun w0 hge => ?_
  refine CodeJ.seq ?_
  refine CodeJ.region ?_
  refine OpsJ.yld rfl rfl rfl (Yld.assign rfl rfl) ?_
  refine OpsJ.nil ?_
  refine ExJ.thenN ?_
  refine CodeJ.seq ?_
  refine CodeJ.seq ?_
  refine CodeJ.region ?_
  refine OpsJ.yld rfl rfl rfl (Yld.move rfl rfl) ?_
  refine OpsJ.nil ?_
  refine ExJ.thenN ?_
  refine CodeJ.block ?_
  refine CodeJ.seq ?_
  refine CodeJ.region ?_
  refine OpsJ.yld rfl rfl rfl (Yld.ifaceEqNil rfl Tryd.underlying98 rfl rfl) ?_
  refine OpsJ.yld rfl rfl rfl (Yld.assign rfl rfl) ?_
  refine OpsJ.nil ?_
  refine ExJ.thenN ?_
  refine CodeJ.condT rfl ?_
  refine CodeJ.seq ?_
  refine CodeJ.region ?_
  refine OpsJ.yld rfl rfl rfl (Yld.assign rfl rfl) ?_
  refine OpsJ.nil ?_
  refine ExJ.thenN ?_
  refine CodeJ.ret ?_
  refine ExJ.blockR ?_
  refine ExJ.thenR ?_
  exact ExJ.ret1 Tryd.results40 rfl ⟨rfl, rfl⟩ fun w hI => hI
theorem faultOf_early (G : Nat → Addr) : Spec Tryd.prog 40 [.iface 147 (.pointer (some (G 0)))] [] (fun w => GE G w []) (fun r H' => r = .int .i64 1 ∧ H' = []) := by
  refine Spec.of Tryd.func40 rfl Tryd.ntmps40 rfl fun w0 hge => ?_
  have he0 := hge.at_ 0 (by decide)
  have hn0 : 0 ∉ fp [] := by simp [fp]
  refine CodeJ.seq ?_
  refine CodeJ.region ?_
  refine OpsJ.yld rfl rfl rfl (Yld.assign rfl rfl) ?_
  refine OpsJ.nil ?_
  refine ExJ.thenN ?_
  refine CodeJ.seq ?_
  refine CodeJ.seq ?_
  refine CodeJ.region ?_
  refine OpsJ.yld rfl rfl rfl (Yld.move rfl rfl) ?_
  refine OpsJ.nil ?_
  refine ExJ.thenN ?_
  refine CodeJ.block ?_
  refine CodeJ.seq ?_
  refine CodeJ.region ?_
  refine OpsJ.yld rfl rfl rfl (Yld.ifaceEqNil rfl Tryd.underlying98 rfl rfl) ?_
  refine OpsJ.yld rfl rfl rfl (Yld.assign rfl rfl) ?_
  refine OpsJ.nil ?_
  refine ExJ.thenN ?_
  refine CodeJ.condF rfl ?_
  refine CodeJ.seq ?_
  refine CodeJ.region ?_
  refine OpsJ.yld rfl rfl rfl (Yld.load1 rfl Tryd.underlying98 rfl rfl (fun w hI => hI.old (he0) (hn0))) ?_
  refine OpsJ.yld rfl rfl rfl (Yld.ifaceEqSame rfl Tryd.underlying98 rfl rfl Tryd.underlying147 (by kernel_rfl) (by kernel_rfl)) ?_
  refine OpsJ.yld rfl rfl rfl (Yld.assign rfl rfl) ?_
  refine OpsJ.nil ?_
  refine ExJ.thenN ?_
  refine CodeJ.condT rfl ?_
  refine CodeJ.seq ?_
  refine CodeJ.region ?_
  refine OpsJ.yld rfl rfl rfl (Yld.assign rfl rfl) ?_
  refine OpsJ.nil ?_
  refine ExJ.thenN ?_
  refine CodeJ.ret ?_
  refine ExJ.blockR ?_
  refine ExJ.thenR ?_
  exact ExJ.ret1 Tryd.results40 rfl ⟨rfl, rfl⟩ fun w hI => hI
theorem faultOf_nested (G : Nat → Addr) (a : Addr) : Spec Tryd.prog 40 [.iface 137 (.pointer (some a))] [] (fun w => GE G w []) (fun r H' => r = .int .i64 3 ∧ H' = []) := by
  refine Spec.of Tryd.func40 rfl Tryd.ntmps40 rfl fun w0 hge => ?_
  have he0 := hge.at_ 0 (by decide)
  have hn0 : 0 ∉ fp [] := by simp [fp]
  have he1 := hge.at_ 1 (by decide)
  have hn1 : 1 ∉ fp [] := by simp [fp]
  refine CodeJ.seq ?_
  refine CodeJ.region ?_
  refine OpsJ.yld rfl rfl rfl (Yld.assign rfl rfl) ?_
  refine OpsJ.nil ?_
  refine ExJ.thenN ?_
  refine CodeJ.seq ?_
  refine CodeJ.seq ?_
  refine CodeJ.region ?_
  refine OpsJ.yld rfl rfl rfl (Yld.move rfl rfl) ?_
  refine OpsJ.nil ?_
  refine ExJ.thenN ?_
  refine CodeJ.block ?_
  refine CodeJ.seq ?_
  refine CodeJ.region ?_
  refine OpsJ.yld rfl rfl rfl (Yld.ifaceEqNil rfl Tryd.underlying98 rfl rfl) ?_
  refine OpsJ.yld rfl rfl rfl (Yld.assign rfl rfl) ?_
  refine OpsJ.nil ?_
  refine ExJ.thenN ?_
  refine CodeJ.condF rfl ?_
  refine CodeJ.seq ?_
  refine CodeJ.region ?_
  refine OpsJ.yld rfl rfl rfl (Yld.load1 rfl Tryd.underlying98 rfl rfl (fun w hI => hI.old (he0) (hn0))) ?_
  refine OpsJ.yld rfl rfl rfl (Yld.ifaceEqDiff rfl Tryd.underlying98 rfl rfl (by decide)) ?_
  refine OpsJ.yld rfl rfl rfl (Yld.assign rfl rfl) ?_
  refine OpsJ.nil ?_
  refine ExJ.thenN ?_
  refine CodeJ.condF rfl ?_
  refine CodeJ.seq ?_
  refine CodeJ.region ?_
  refine OpsJ.yld rfl rfl rfl (Yld.load1 rfl Tryd.underlying98 rfl rfl (fun w hI => hI.old (he1) (hn1))) ?_
  refine OpsJ.yld rfl rfl rfl (Yld.ifaceEqDiff rfl Tryd.underlying98 rfl rfl (by decide)) ?_
  refine OpsJ.yld rfl rfl rfl (Yld.assign rfl rfl) ?_
  refine OpsJ.nil ?_
  refine ExJ.thenN ?_
  refine CodeJ.condF rfl ?_
  refine CodeJ.skip ?_
  refine ExJ.blockN ?_
  refine ExJ.thenN ?_
  refine CodeJ.seq ?_
  refine CodeJ.region ?_
  refine OpsJ.yld rfl rfl rfl (Yld.assign rfl rfl) ?_
  refine OpsJ.nil ?_
  refine ExJ.thenN ?_
  refine CodeJ.ret ?_
  exact ExJ.ret1 Tryd.results40 rfl ⟨rfl, rfl⟩ fun w hI => hI

theorem question_early (G : Nat → Addr) (b : Bd) (l : List UInt8) (typ cls : Nat) (bb : Nat) (p : Option Addr) (c : Nat) (r : Option Nat) (hs : b.sec < 2) :
    Spec Tryd.prog 45 [.pointer (some ⟨bb, 0, none⟩), .agg (questCs l typ cls).toArray] (bdR b bb p c r) (fun w => GE G w (fp (bdR b bb p c r)))
      (fun x H' => x = .iface 147 (.pointer (some (G 0))) ∧ H' = bdR b bb p c r) := by
  refine Spec.of Tryd.func45 rfl Tryd.ntmps45 rfl fun w0 hge => ?_
  have he0 := hge.at_ 0 (by decide)
  have hn0 := hge.out 0 (by decide)
  refine CodeJ.seq ?_
  refine CodeJ.region ?_
  refine OpsJ.op rfl ?_
  refine OpJ.box rfl rfl rfl rfl fun qb hqb => ?_
  refine OpsJ.yld rfl rfl rfl (Yld.assign rfl rfl) ?_
  refine OpsJ.nil ?_
  refine ExJ.thenN ?_
  refine CodeJ.seq ?_
  refine CodeJ.seq ?_
  refine CodeJ.region ?_
  refine OpsJ.yld rfl rfl rfl (Yld.move rfl rfl) ?_
  refine OpsJ.yld rfl rfl rfl (Yld.nilCheck rfl rfl) ?_
  refine OpsJ.yld rfl rfl rfl (Yld.fieldAddr fa_89_1 rfl rfl) ?_
  refine OpsJ.yld rfl rfl rfl (Yld.load1 rfl Tryd.underlying84 rfl rfl (fun w hI => Inv.cell1 hI (i := 1) rfl rfl)) ?_
  refine OpsJ.yld rfl rfl rfl (Yld.intBin rfl rfl rfl rfl) ?_
  refine OpsJ.nil ?_
  refine ExJ.thenN ?_
  refine CodeJ.condP rfl (fun c12 => ?_) (fun c12 => ?_)
  · refine CodeJ.seq ?_
    refine CodeJ.region ?_
    refine OpsJ.yld rfl rfl rfl (Yld.load1 rfl Tryd.underlying98 rfl rfl (fun w hI => hI.old (he0) (hn0))) ?_
    refine OpsJ.yld rfl rfl rfl (Yld.assign rfl rfl) ?_
    refine OpsJ.nil ?_
    refine ExJ.thenN ?_
    refine CodeJ.ret ?_
    refine ExJ.thenR ?_
    exact ExJ.ret1 Tryd.results45 rfl ⟨rfl, rfl⟩ fun w hI => hI.pick (is := [1, 2, 3]) (by decide) rfl
  · exact absurd hs (by omega)

theorem question_ok (G : Nat → Addr) (buf : List UInt8) (start id bits q an au ad : Nat) (m : List (List UInt8 × Nat)) (l : List UInt8) (hl : PName l) (typ cls : Nat) (bb : Nat) (p : Option Addr) (c : Nat) (r : Option Nat)
    (hq : q < 65535) (hoff : start ≤ buf.length) (hbig : buf.length ≤ 158329674399744 - 1024) (hm : ∀ x ∈ m, x.2 < 65536) (ys : List UInt8) (m' : List (List UInt8 × Nat)) (hp : packQ (buf.length - start) r.isSome l typ cls m = .ok ys m') :
    Spec Tryd.prog 45 [.pointer (some ⟨bb, 0, none⟩), .agg (questCs l typ cls).toArray] (bdR ⟨buf, start, 2, id, bits, q, an, au, ad, m⟩ bb p c r) (fun w => GE G w (fp (bdR ⟨buf, start, 2, id, bits, q, an, au, ad, m⟩ bb p c r)))
      (fun x H' => x = .nilIface ∧ ∃ p' c', H' = bdR ⟨buf ++ ys, start, 2, id, bits, q + 1, an, au, ad, m'⟩ bb p' c' r) := by
  refine Spec.of Tryd.func45 rfl Tryd.ntmps45 rfl fun w0 hge => ?_
  refine CodeJ.seq ?_
  refine CodeJ.region ?_
  refine OpsJ.op rfl ?_
  refine OpJ.box rfl rfl rfl rfl fun qb hqb => ?_
  refine OpsJ.yld rfl rfl rfl (Yld.assign rfl rfl) ?_
  refine OpsJ.nil ?_
  refine ExJ.thenN ?_
  refine CodeJ.seq ?_
  refine CodeJ.seq ?_
  refine CodeJ.region ?_
  refine OpsJ.yld rfl rfl rfl (Yld.move rfl rfl) ?_
  refine OpsJ.yld rfl rfl rfl (Yld.nilCheck rfl rfl) ?_
  refine OpsJ.yld rfl rfl rfl (Yld.fieldAddr fa_89_1 rfl rfl) ?_
  refine OpsJ.yld rfl rfl rfl (Yld.load1 rfl Tryd.underlying84 rfl rfl (fun w hI => Inv.cell1 hI (i := 1) rfl rfl)) ?_
  refine OpsJ.yld rfl rfl rfl (Yld.intBin rfl rfl rfl rfl) ?_
  refine OpsJ.nil ?_
  refine ExJ.thenN ?_
  refine CodeJ.condP rfl (fun c12 => ?_) (fun c12 => ?_)
  · exact absurd c12 (show ¬ ((2 : Int) < 2) from by decide)
  · refine CodeJ.skip ?_
    refine ExJ.thenN ?_
    refine CodeJ.seq ?_
    refine CodeJ.seq ?_
    refine CodeJ.region ?_
    refine OpsJ.yld rfl rfl rfl (Yld.move rfl rfl) ?_
    refine OpsJ.yld rfl rfl rfl (Yld.nilCheck rfl rfl) ?_
    refine OpsJ.yld rfl rfl rfl (Yld.fieldAddr fa_89_1 rfl rfl) ?_
    refine OpsJ.yld rfl rfl rfl (Yld.load1 rfl Tryd.underlying84 rfl rfl (fun w hI => Inv.cell1 hI (i := 1) rfl rfl)) ?_
    refine OpsJ.yld rfl rfl rfl (Yld.intBin rfl rfl rfl rfl) ?_
    refine OpsJ.nil ?_
    refine ExJ.thenN ?_
    refine CodeJ.condP rfl (fun c18 => ?_) (fun c18 => ?_)
    · exact absurd c18 (show ¬ ((2 : Int) > 2) from by decide)
    · refine CodeJ.skip ?_
      refine ExJ.thenN ?_
      refine CodeJ.seq ?_
      refine CodeJ.any (fuel := 18) (listed := #[false, false, false, false, false, false, false, false, false, false, false, false, false, false, false, false, false, false]) [0, 1] rfl follows_mixed rfl rfl ?_
      refine AnyJ.take (fuel := 17) (listed' := #[true, false, false, false, false, false, false, false, false, false, false, false, false, false, false, false, false, false]) 0 rfl (by kernel_rfl) (by kernel_rfl) (by kernel_rfl) rfl rfl rfl rfl (Yld.move rfl rfl) (fun w hI => hI.pick (is := [0, 1]) (by decide) rfl) ?_
      refine AnyJ.take (fuel := 16) (listed' := #[true, true, false, false, false, false, false, false, false, false, false, false, false, false, false, false, false, false]) 1 rfl (by kernel_rfl) (by kernel_rfl) (by kernel_rfl) rfl rfl rfl rfl (Yld.nilCheck rfl rfl) (fun w hI => hI.pick (is := [0, 1]) (by decide) rfl) ?_
      refine AnyJ.take (fuel := 15) (listed' := #[true, true, true, false, false, false, false, false, false, false, false, false, false, false, false, false, false, false]) 2 rfl (by kernel_rfl) (by kernel_rfl) (by kernel_rfl) rfl rfl rfl rfl (Yld.fieldAddr fa_89_0 rfl rfl) (fun w hI => hI.pick (is := [0, 1]) (by decide) rfl) ?_
      refine AnyJ.take (fuel := 14) (listed' := #[true, true, true, true, false, false, false, false, false, false, false, false, false, false, false, false, false, false]) 3 rfl (by kernel_rfl) (by kernel_rfl) (by kernel_rfl) rfl rfl rfl rfl (Yld.load1 rfl Tryd.underlying29 rfl rfl (fun w hI => Inv.cell1 hI (i := 1) rfl rfl)) (fun w hI => hI.pick (is := [0, 1]) (by decide) rfl) ?_
      refine AnyJ.take (fuel := 13) (listed' := #[true, true, true, true, true, false, false, false, false, false, false, false, false, false, false, false, false, false]) 4 rfl (by kernel_rfl) (by kernel_rfl) (by kernel_rfl) rfl rfl rfl rfl (Yld.move rfl rfl) (fun w hI => hI.pick (is := [0, 1]) (by decide) rfl) ?_
      refine AnyJ.take (fuel := 12) (listed' := #[true, true, true, true, true, true, false, false, false, false, false, false, false, false, false, false, false, false]) 5 rfl (by kernel_rfl) (by kernel_rfl) (by kernel_rfl) rfl rfl rfl rfl (Yld.nilCheck rfl rfl) (fun w hI => hI.pick (is := [0, 1]) (by decide) rfl) ?_
      refine AnyJ.take (fuel := 11) (listed' := #[true, true, true, true, true, true, true, false, false, false, false, false, false, false, false, false, false, false]) 6 rfl (by kernel_rfl) (by kernel_rfl) (by kernel_rfl) rfl rfl rfl rfl (Yld.fieldAddr fa_89_4 rfl rfl) (fun w hI => hI.pick (is := [0, 1]) (by decide) rfl) ?_
      refine AnyJ.take (fuel := 10) (listed' := #[true, true, true, true, true, true, true, true, false, false, false, false, false, false, false, false, false, false]) 7 rfl (by kernel_rfl) (by kernel_rfl) (by kernel_rfl) rfl rfl rfl rfl (Yld.load1 rfl Tryd.underlying87 rfl rfl (fun w hI => Inv.cell1 hI (i := 1) rfl rfl)) (fun w hI => hI.pick (is := [0, 1]) (by decide) rfl) ?_
      refine AnyJ.take (fuel := 9) (listed' := #[true, true, true, true, true, true, true, true, true, false, false, false, false, false, false, false, false, false]) 8 rfl (by kernel_rfl) (by kernel_rfl) (by kernel_rfl) rfl rfl rfl rfl (Yld.move rfl rfl) (fun w hI => hI.pick (is := [0, 1]) (by decide) rfl) ?_
      refine AnyJ.take (fuel := 8) (listed' := #[true, true, true, true, true, true, true, true, true, true, false, false, false, false, false, false, false, false]) 9 rfl (by kernel_rfl) (by kernel_rfl) (by kernel_rfl) rfl rfl rfl rfl (Yld.nilCheck rfl rfl) (fun w hI => hI.pick (is := [0, 1]) (by decide) rfl) ?_
      refine AnyJ.take (fuel := 7) (listed' := #[true, true, true, true, true, true, true, true, true, true, true, false, false, false, false, false, false, false]) 10 rfl (by kernel_rfl) (by kernel_rfl) (by kernel_rfl) rfl rfl rfl rfl (Yld.fieldAddr fa_89_3 rfl rfl) (fun w hI => hI.pick (is := [0, 1]) (by decide) rfl) ?_
      refine AnyJ.take (fuel := 6) (listed' := #[true, true, true, true, true, true, true, true, true, true, true, true, false, false, false, false, false, false]) 11 rfl (by kernel_rfl) (by kernel_rfl) (by kernel_rfl) rfl rfl rfl rfl (Yld.load1 rfl Tryd.underlying3 rfl rfl (fun w hI => Inv.cell1 hI (i := 1) rfl rfl)) (fun w hI => hI.pick (is := [0, 1]) (by decide) rfl) ?_
      refine AnyJ.one (fuel := 5) 12 (by kernel_rfl) ?_
      refine StepJ.op (listed' := #[true, true, true, true, true, true, true, true, true, true, true, true, true, false, false, false, false, false]) rfl rfl rfl ?_
      refine OpJ.call (questionPack_spec G l hl typ cls qb 0 start (.slice p buf.length c) buf buf p c r m hoff hbig hm) has_59 rfl rfl rfl rfl rfl [2, 3] [0, 1] (by decide) rfl rfl (fun w hI => ⟨Inv.whole hI (i := 0) rfl, hI.apart (i := 0) rfl (is := [2, 3]) (by decide) rfl qb (by simp [Res.ats]), hge.call hI (is := [2, 3]) rfl⟩) ?_
      rintro _ _ hpost
      rw [hp] at hpost
      obtain ⟨p33, c33, rfl, rfl⟩ := hpost
      refine ⟨fun w hI => hI.pick (is := [2, 3]) (by decide) rfl, ?_⟩
      refine AnyJ.take (fuel := 4) (listed' := #[true, true, true, true, true, true, true, true, true, true, true, true, true, true, false, false, false, false]) 13 rfl (by kernel_rfl) (by kernel_rfl) (by kernel_rfl) rfl rfl rfl rfl (Yld.move rfl rfl) (fun w hI => hI.pick (is := [2, 3]) (by decide) rfl) ?_
      refine AnyJ.take (fuel := 3) (listed' := #[true, true, true, true, true, true, true, true, true, true, true, true, true, true, true, false, false, false]) 14 rfl (by kernel_rfl) (by kernel_rfl) (by kernel_rfl) rfl rfl rfl rfl (Yld.extract rfl rfl rfl) (fun w hI => hI.pick (is := [2, 3]) (by decide) rfl) ?_
      refine AnyJ.take (fuel := 2) (listed' := #[true, true, true, true, true, true, true, true, true, true, true, true, true, true, true, true, false, false]) 15 rfl (by kernel_rfl) (by kernel_rfl) (by kernel_rfl) rfl rfl rfl rfl (Yld.extract rfl rfl rfl) (fun w hI => hI.pick (is := [2, 3]) (by decide) rfl) ?_
      refine AnyJ.take (fuel := 1) (listed' := #[true, true, true, true, true, true, true, true, true, true, true, true, true, true, true, true, true, false]) 16 rfl (by kernel_rfl) (by kernel_rfl) (by kernel_rfl) rfl rfl rfl rfl (Yld.assign rfl rfl) (fun w hI => hI.pick (is := [2, 3]) (by decide) rfl) ?_
      refine AnyJ.take (fuel := 0) (listed' := #[true, true, true, true, true, true, true, true, true, true, true, true, true, true, true, true, true, true]) 17 rfl (by kernel_rfl) (by kernel_rfl) (by kernel_rfl) rfl rfl rfl rfl (Yld.assign rfl rfl) (fun w hI => hI.pick (is := [2, 3]) (by decide) rfl) ?_
      refine AnyJ.done (by kernel_rfl) ?_
      refine ExJ.thenN ?_
      refine CodeJ.seq ?_
      refine CodeJ.seq ?_
      refine CodeJ.region ?_
      refine OpsJ.yld rfl rfl rfl (Yld.move rfl rfl) ?_
      refine OpsJ.yld rfl rfl rfl (Yld.ifaceNeNil rfl Tryd.underlying98 rfl rfl) ?_
      refine OpsJ.nil ?_
      refine ExJ.thenN ?_
      refine CodeJ.condF rfl ?_
      refine CodeJ.skip ?_
      refine ExJ.thenN ?_
      refine CodeJ.seq ?_
      refine CodeJ.seq ?_
      refine CodeJ.region ?_
      refine OpsJ.yld rfl rfl rfl (Yld.move rfl rfl) ?_
      refine OpsJ.op rfl ?_
      refine OpJ.call (inc2_spec G buf start id bits q an au ad m bb p c r hq) has_60 rfl rfl rfl rfl rfl [3] [0, 1, 2] (by decide) rfl rfl (fun w hI => hge.call hI (is := [3]) rfl) ?_
      rintro _ _ ⟨rfl, rfl⟩
      refine OpsJ.yld rfl rfl rfl (Yld.assign rfl rfl) ?_
      refine OpsJ.nil ?_
      refine ExJ.thenN ?_
      refine CodeJ.seq ?_
      refine CodeJ.region ?_
      refine OpsJ.yld rfl rfl rfl (Yld.move rfl rfl) ?_
      refine OpsJ.yld rfl rfl rfl (Yld.ifaceNeNil rfl Tryd.underlying98 rfl rfl) ?_
      refine OpsJ.nil ?_
      refine ExJ.thenN ?_
      refine CodeJ.condF rfl ?_
      refine CodeJ.skip ?_
      refine ExJ.thenN ?_
      refine CodeJ.seq ?_
      refine CodeJ.region ?_
      refine OpsJ.yld rfl rfl rfl (Yld.move rfl rfl) ?_
      refine OpsJ.yld rfl rfl rfl (Yld.move rfl rfl) ?_
      refine OpsJ.yld rfl rfl rfl (Yld.nilCheck rfl rfl) ?_
      refine OpsJ.yld rfl rfl rfl (Yld.fieldAddr fa_89_0 rfl rfl) ?_
      refine OpsJ.op rfl ?_
      refine OpJ.store1 (i := 0) rfl rfl rfl rfl rfl sz_29 rfl rfl ?_
      refine OpsJ.nil ?_
      refine ExJ.thenN ?_
      refine CodeJ.seq ?_
      refine CodeJ.region ?_
      refine OpsJ.yld rfl rfl rfl (Yld.assign rfl rfl) ?_
      refine OpsJ.nil ?_
      refine ExJ.thenN ?_
      refine CodeJ.ret ?_
      refine ExJ.ret1 Tryd.results45 rfl ⟨rfl, p33, c33, rfl⟩ fun w hI => ?_
      exact (hI.sl2 (i := 1) rfl).pick (is := [0, 1, 2]) (by decide) rfl
theorem question_err (G : Nat → Addr) (buf : List UInt8) (start id bits q an au ad : Nat) (m : List (List UInt8 × Nat)) (l : List UInt8) (hl : PName l) (typ cls : Nat) (bb : Nat) (p : Option Addr) (c : Nat) (r : Option Nat)
    (hoff : start ≤ buf.length) (hbig : buf.length ≤ 158329674399744 - 1024) (hm : ∀ x ∈ m, x.2 < 65536) (m' : List (List UInt8 × Nat)) (hp : packQ (buf.length - start) r.isSome l typ cls m = .err m') :
    Spec Tryd.prog 45 [.pointer (some ⟨bb, 0, none⟩), .agg (questCs l typ cls).toArray] (bdR ⟨buf, start, 2, id, bits, q, an, au, ad, m⟩ bb p c r) (fun w => GE G w (fp (bdR ⟨buf, start, 2, id, bits, q, an, au, ad, m⟩ bb p c r)))
      (fun x H' => (∃ a, x = .iface 137 (.pointer (some a))) ∧ H' = bdR ⟨buf, start, 2, id, bits, q, an, au, ad, m'⟩ bb p c r) := by
  refine Spec.of Tryd.func45 rfl Tryd.ntmps45 rfl fun w0 hge => ?_
  refine CodeJ.seq ?_
  refine CodeJ.region ?_
  refine OpsJ.op rfl ?_
  refine OpJ.box rfl rfl rfl rfl fun qb hqb => ?_
  refine OpsJ.yld rfl rfl rfl (Yld.assign rfl rfl) ?_
  refine OpsJ.nil ?_
  refine ExJ.thenN ?_
  refine CodeJ.seq ?_
  refine CodeJ.seq ?_
  refine CodeJ.region ?_
  refine OpsJ.yld rfl rfl rfl (Yld.move rfl rfl) ?_
  refine OpsJ.yld rfl rfl rfl (Yld.nilCheck rfl rfl) ?_
  refine OpsJ.yld rfl rfl rfl (Yld.fieldAddr fa_89_1 rfl rfl) ?_
  refine OpsJ.yld rfl rfl rfl (Yld.load1 rfl Tryd.underlying84 rfl rfl (fun w hI => Inv.cell1 hI (i := 1) rfl rfl)) ?_
  refine OpsJ.yld rfl rfl rfl (Yld.intBin rfl rfl rfl rfl) ?_
  refine OpsJ.nil ?_
  refine ExJ.thenN ?_
  refine CodeJ.condP rfl (fun c12 => ?_) (fun c12 => ?_)
  · exact absurd c12 (show ¬ ((2 : Int) < 2) from by decide)
  · refine CodeJ.skip ?_
    refine ExJ.thenN ?_
    refine CodeJ.seq ?_
    refine CodeJ.seq ?_
    refine CodeJ.region ?_
    refine OpsJ.yld rfl rfl rfl (Yld.move rfl rfl) ?_
    refine OpsJ.yld rfl rfl rfl (Yld.nilCheck rfl rfl) ?_
    refine OpsJ.yld rfl rfl rfl (Yld.fieldAddr fa_89_1 rfl rfl) ?_
    refine OpsJ.yld rfl rfl rfl (Yld.load1 rfl Tryd.underlying84 rfl rfl (fun w hI => Inv.cell1 hI (i := 1) rfl rfl)) ?_
    refine OpsJ.yld rfl rfl rfl (Yld.intBin rfl rfl rfl rfl) ?_
    refine OpsJ.nil ?_
    refine ExJ.thenN ?_
    refine CodeJ.condP rfl (fun c18 => ?_) (fun c18 => ?_)
    · exact absurd c18 (show ¬ ((2 : Int) > 2) from by decide)
    · refine CodeJ.skip ?_
      refine ExJ.thenN ?_
      refine CodeJ.seq ?_
      refine CodeJ.any (fuel := 18) (listed := #[false, false, false, false, false, false, false, false, false, false, false, false, false, false, false, false, false, false]) [0, 1] rfl follows_mixed rfl rfl ?_
      refine AnyJ.take (fuel := 17) (listed' := #[true, false, false, false, false, false, false, false, false, false, false, false, false, false, false, false, false, false]) 0 rfl (by kernel_rfl) (by kernel_rfl) (by kernel_rfl) rfl rfl rfl rfl (Yld.move rfl rfl) (fun w hI => hI.pick (is := [0, 1]) (by decide) rfl) ?_
      refine AnyJ.take (fuel := 16) (listed' := #[true, true, false, false, false, false, false, false, false, false, false, false, false, false, false, false, false, false]) 1 rfl (by kernel_rfl) (by kernel_rfl) (by kernel_rfl) rfl rfl rfl rfl (Yld.nilCheck rfl rfl) (fun w hI => hI.pick (is := [0, 1]) (by decide) rfl) ?_
      refine AnyJ.take (fuel := 15) (listed' := #[true, true, true, false, false, false, false, false, false, false, false, false, false, false, false, false, false, false]) 2 rfl (by kernel_rfl) (by kernel_rfl) (by kernel_rfl) rfl rfl rfl rfl (Yld.fieldAddr fa_89_0 rfl rfl) (fun w hI => hI.pick (is := [0, 1]) (by decide) rfl) ?_
      refine AnyJ.take (fuel := 14) (listed' := #[true, true, true, true, false, false, false, false, false, false, false, false, false, false, false, false, false, false]) 3 rfl (by kernel_rfl) (by kernel_rfl) (by kernel_rfl) rfl rfl rfl rfl (Yld.load1 rfl Tryd.underlying29 rfl rfl (fun w hI => Inv.cell1 hI (i := 1) rfl rfl)) (fun w hI => hI.pick (is := [0, 1]) (by decide) rfl) ?_
      refine AnyJ.take (fuel := 13) (listed' := #[true, true, true, true, true, false, false, false, false, false, false, false, false, false, false, false, false, false]) 4 rfl (by kernel_rfl) (by kernel_rfl) (by kernel_rfl) rfl rfl rfl rfl (Yld.move rfl rfl) (fun w hI => hI.pick (is := [0, 1]) (by decide) rfl) ?_
      refine AnyJ.take (fuel := 12) (listed' := #[true, true, true, true, true, true, false, false, false, false, false, false, false, false, false, false, false, false]) 5 rfl (by kernel_rfl) (by kernel_rfl) (by kernel_rfl) rfl rfl rfl rfl (Yld.nilCheck rfl rfl) (fun w hI => hI.pick (is := [0, 1]) (by decide) rfl) ?_
      refine AnyJ.take (fuel := 11) (listed' := #[true, true, true, true, true, true, true, false, false, false, false, false, false, false, false, false, false, false]) 6 rfl (by kernel_rfl) (by kernel_rfl) (by kernel_rfl) rfl rfl rfl rfl (Yld.fieldAddr fa_89_4 rfl rfl) (fun w hI => hI.pick (is := [0, 1]) (by decide) rfl) ?_
      refine AnyJ.take (fuel := 10) (listed' := #[true, true, true, true, true, true, true, true, false, false, false, false, false, false, false, false, false, false]) 7 rfl (by kernel_rfl) (by kernel_rfl) (by kernel_rfl) rfl rfl rfl rfl (Yld.load1 rfl Tryd.underlying87 rfl rfl (fun w hI => Inv.cell1 hI (i := 1) rfl rfl)) (fun w hI => hI.pick (is := [0, 1]) (by decide) rfl) ?_
      refine AnyJ.take (fuel := 9) (listed' := #[true, true, true, true, true, true, true, true, true, false, false, false, false, false, false, false, false, false]) 8 rfl (by kernel_rfl) (by kernel_rfl) (by kernel_rfl) rfl rfl rfl rfl (Yld.move rfl rfl) (fun w hI => hI.pick (is := [0, 1]) (by decide) rfl) ?_
      refine AnyJ.take (fuel := 8) (listed' := #[true, true, true, true, true, true, true, true, true, true, false, false, false, false, false, false, false, false]) 9 rfl (by kernel_rfl) (by kernel_rfl) (by kernel_rfl) rfl rfl rfl rfl (Yld.nilCheck rfl rfl) (fun w hI => hI.pick (is := [0, 1]) (by decide) rfl) ?_
      refine AnyJ.take (fuel := 7) (listed' := #[true, true, true, true, true, true, true, true, true, true, true, false, false, false, false, false, false, false]) 10 rfl (by kernel_rfl) (by kernel_rfl) (by kernel_rfl) rfl rfl rfl rfl (Yld.fieldAddr fa_89_3 rfl rfl) (fun w hI => hI.pick (is := [0, 1]) (by decide) rfl) ?_
      refine AnyJ.take (fuel := 6) (listed' := #[true, true, true, true, true, true, true, true, true, true, true, true, false, false, false, false, false, false]) 11 rfl (by kernel_rfl) (by kernel_rfl) (by kernel_rfl) rfl rfl rfl rfl (Yld.load1 rfl Tryd.underlying3 rfl rfl (fun w hI => Inv.cell1 hI (i := 1) rfl rfl)) (fun w hI => hI.pick (is := [0, 1]) (by decide) rfl) ?_
      refine AnyJ.one (fuel := 5) 12 (by kernel_rfl) ?_
      refine StepJ.op (listed' := #[true, true, true, true, true, true, true, true, true, true, true, true, true, false, false, false, false, false]) rfl rfl rfl ?_
      refine OpJ.call (questionPack_spec G l hl typ cls qb 0 start (.slice p buf.length c) buf buf p c r m hoff hbig hm) has_59 rfl rfl rfl rfl rfl [2, 3] [0, 1] (by decide) rfl rfl (fun w hI => ⟨Inv.whole hI (i := 0) rfl, hI.apart (i := 0) rfl (is := [2, 3]) (by decide) rfl qb (by simp [Res.ats]), hge.call hI (is := [2, 3]) rfl⟩) ?_
      rintro _ _ hpost
      rw [hp] at hpost
      obtain ⟨u33, a33, rfl, rfl⟩ := hpost
      refine ⟨fun w hI => hI.pick (is := [2, 3]) (by decide) rfl, ?_⟩
      refine AnyJ.take (fuel := 4) (listed' := #[true, true, true, true, true, true, true, true, true, true, true, true, true, true, false, false, false, false]) 13 rfl (by kernel_rfl) (by kernel_rfl) (by kernel_rfl) rfl rfl rfl rfl (Yld.move rfl rfl) (fun w hI => hI.pick (is := [2, 3]) (by decide) rfl) ?_
      refine AnyJ.take (fuel := 3) (listed' := #[true, true, true, true, true, true, true, true, true, true, true, true, true, true, true, false, false, false]) 14 rfl (by kernel_rfl) (by kernel_rfl) (by kernel_rfl) rfl rfl rfl rfl (Yld.extract rfl rfl rfl) (fun w hI => hI.pick (is := [2, 3]) (by decide) rfl) ?_
      refine AnyJ.take (fuel := 2) (listed' := #[true, true, true, true, true, true, true, true, true, true, true, true, true, true, true, true, false, false]) 15 rfl (by kernel_rfl) (by kernel_rfl) (by kernel_rfl) rfl rfl rfl rfl (Yld.extract rfl rfl rfl) (fun w hI => hI.pick (is := [2, 3]) (by decide) rfl) ?_
      refine AnyJ.take (fuel := 1) (listed' := #[true, true, true, true, true, true, true, true, true, true, true, true, true, true, true, true, true, false]) 16 rfl (by kernel_rfl) (by kernel_rfl) (by kernel_rfl) rfl rfl rfl rfl (Yld.assign rfl rfl) (fun w hI => hI.pick (is := [2, 3]) (by decide) rfl) ?_
      refine AnyJ.take (fuel := 0) (listed' := #[true, true, true, true, true, true, true, true, true, true, true, true, true, true, true, true, true, true]) 17 rfl (by kernel_rfl) (by kernel_rfl) (by kernel_rfl) rfl rfl rfl rfl (Yld.assign rfl rfl) (fun w hI => hI.pick (is := [2, 3]) (by decide) rfl) ?_
      refine AnyJ.done (by kernel_rfl) ?_
      refine ExJ.thenN ?_
      refine CodeJ.seq ?_
      refine CodeJ.seq ?_
      refine CodeJ.region ?_
      refine OpsJ.yld rfl rfl rfl (Yld.move rfl rfl) ?_
      refine OpsJ.yld rfl rfl rfl (Yld.ifaceNeNil rfl Tryd.underlying98 rfl rfl) ?_
      refine OpsJ.nil ?_
      refine ExJ.thenN ?_
      refine CodeJ.condT rfl ?_
      refine CodeJ.seq ?_
      refine CodeJ.region ?_
      refine OpsJ.yld rfl rfl rfl (Yld.move rfl rfl) ?_
      refine OpsJ.yld rfl rfl rfl (Yld.assign rfl rfl) ?_
      refine OpsJ.nil ?_
      refine ExJ.thenN ?_
      refine CodeJ.ret ?_
      refine ExJ.thenR ?_
      exact ExJ.ret1 Tryd.results45 rfl ⟨⟨_, rfl⟩, rfl⟩ fun w hI => hI.pick (is := [3, 0, 1]) (by decide) rfl
end Go.Proofs.YtdiememgbnplkaaDoor
