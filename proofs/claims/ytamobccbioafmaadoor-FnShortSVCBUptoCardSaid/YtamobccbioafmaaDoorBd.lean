/-
  Contracts: Question, questionOf, faultOf.
-/
import Derived.Test.YtamobccbioafmaaDoorBc
import Derived.Test.YtamobccbioafmaaDoorBb
import Derived.Test.YtamobccbioafmaaDoorBa
namespace Go.Proofs.YtamobccbioafmaaDoor
open Go
set_option maxRecDepth 100000

theorem questionOf_spec (s : ByteArray) (typ cls : Nat) : Spec Tryd.prog 56 [.agg #[.string s, .int .u16 typ, .int .u16 cls]] [] (fun _ => True) (fun r H' => r = .agg (questCs (cut255 s) typ cls).toArray ∧ H' = []) := by
  refine Spec.of Tryd.func56 rfl Tryd.ntmps56 rfl fun w0 _ => ?_
  have hl := cut255_len s
  have hsz := nameCs_len (cut255 s) hl
  have hfl : flat [Value.agg (nameCs (cut255 s)).toArray, .int .u16 typ, .int .u16 cls] = questCs (cut255 s) typ cls := by simp [flat, questCs, Value.cells]
  have hq : (questCs (cut255 s) typ cls).length = 258 := by simp [questCs, hsz]
  have hone : oneCells (questCs (cut255 s) typ cls) = true := by
    have := nameCs_one (cut255 s)
    simp only [oneCells, questCs, List.all_append] at this ⊢
    rw [this]
    rfl
  refine CodeJ.seq ?_
  refine CodeJ.region ?_
  refine OpsJ.op rfl ?_
  refine OpJ.box rfl rfl rfl rfl fun ab hab => ?_
  refine OpsJ.op rfl ?_
  refine OpJ.alloc rfl rfl rfl zero_124 fun res hres => ?_
  refine OpsJ.nil ?_
  refine ExJ.thenN ?_
  refine CodeJ.seq ?_
  refine CodeJ.any (fuel := 9) (listed := #[false, false, false, false, false, false, false, false, false]) [1] rfl follows_mixed rfl rfl ?_
  refine AnyJ.take (fuel := 8) (listed' := #[true, false, false, false, false, false, false, false, false]) 0 rfl (by kernel_rfl) (by kernel_rfl) (by kernel_rfl) rfl rfl rfl rfl (Yld.fieldAddr fa_91_0 rfl rfl) (fun w hI => hI.pick (is := [1]) (by decide) rfl) ?_
  refine AnyJ.take (fuel := 7) (listed' := #[true, true, false, false, false, false, false, false, false]) 1 rfl (by kernel_rfl) (by kernel_rfl) (by kernel_rfl) rfl rfl rfl rfl (Yld.load1 rfl Tryd.underlying9 rfl rfl (fun w hI => Inv.cell1 hI (i := 0) rfl rfl)) (fun w hI => hI.pick (is := [1]) (by decide) rfl) ?_
  refine AnyJ.take (fuel := 6) (listed' := #[true, true, false, true, false, false, false, false, false]) 3 rfl (by kernel_rfl) (by kernel_rfl) (by kernel_rfl) rfl rfl rfl rfl (Yld.fieldAddr fa_91_1 rfl rfl) (fun w hI => hI.pick (is := [1]) (by decide) rfl) ?_
  refine AnyJ.take (fuel := 5) (listed' := #[true, true, false, true, true, false, false, false, false]) 4 rfl (by kernel_rfl) (by kernel_rfl) (by kernel_rfl) rfl rfl rfl rfl (Yld.load1 rfl Tryd.underlying22 rfl rfl (fun w hI => Inv.cell1 hI (i := 0) rfl rfl)) (fun w hI => hI.pick (is := [1]) (by decide) rfl) ?_
  refine AnyJ.take (fuel := 4) (listed' := #[true, true, false, true, true, true, false, false, false]) 5 rfl (by kernel_rfl) (by kernel_rfl) (by kernel_rfl) rfl rfl rfl rfl (Yld.fieldAddr fa_91_2 rfl rfl) (fun w hI => hI.pick (is := [1]) (by decide) rfl) ?_
  refine AnyJ.take (fuel := 3) (listed' := #[true, true, false, true, true, true, true, false, false]) 6 rfl (by kernel_rfl) (by kernel_rfl) (by kernel_rfl) rfl rfl rfl rfl (Yld.load1 rfl Tryd.underlying22 rfl rfl (fun w hI => Inv.cell1 hI (i := 0) rfl rfl)) (fun w hI => hI.pick (is := [1]) (by decide) rfl) ?_
  refine AnyJ.one (fuel := 2) 2 (by kernel_rfl) ?_
  refine StepJ.op (listed' := #[true, true, true, true, true, true, true, false, false]) rfl rfl rfl ?_
  refine OpJ.call (nameOf_spec s) has_73 rfl rfl rfl rfl rfl [] [0, 1] (by decide) rfl rfl (fun _ _ => trivial) ?_
  rintro _ _ ⟨rfl, rfl⟩
  refine ⟨fun w hI => hI.pick (is := [1]) (by decide) rfl, ?_⟩
  refine AnyJ.take (fuel := 1) (listed' := #[true, true, true, true, true, true, true, true, false]) 7 rfl (by kernel_rfl) (by kernel_rfl) (by kernel_rfl) rfl rfl rfl rfl (Yld.buildAll places_124 zero_124 rfl rfl ⟨by show _ = some (0, (nameCs (cut255 s)).toArray.size); rw [List.size_toArray, hsz]; rfl, by show _ = some (0 + (nameCs (cut255 s)).toArray.size, 1); rw [List.size_toArray, hsz]; rfl, by show _ = some (0 + (nameCs (cut255 s)).toArray.size + 1, 1); rw [List.size_toArray, hsz]; rfl, trivial⟩ (by show (flat [Value.agg (nameCs (cut255 s)).toArray, .int .u16 typ, .int .u16 cls]).length = _; rw [hfl, hq]; rfl)) (fun w hI => hI.pick (is := [1]) (by decide) rfl) ?_
  refine AnyJ.one (fuel := 0) 8 (by kernel_rfl) ?_
  refine StepJ.op (listed' := #[true, true, true, true, true, true, true, true, true]) rfl rfl rfl ?_
  refine OpJ.storeW (i := 0) rfl rfl rfl rfl (by show _ = some (flat [Value.agg (nameCs (cut255 s)).toArray, .int .u16 typ, .int .u16 cls]).toArray.size; rw [hfl, List.size_toArray, hq]; exact sz_124) rfl (by show oneCells (flat [Value.agg (nameCs (cut255 s)).toArray, .int .u16 typ, .int .u16 cls]) = true; rw [hfl]; exact hone) (by show (flat [Value.agg (nameCs (cut255 s)).toArray, .int .u16 typ, .int .u16 cls]).toArray.size = _; rw [hfl, List.size_toArray, hq]; rfl) ?_
  refine ⟨fun w hI => hI.pick (is := [1]) (by decide) rfl, ?_⟩
  refine AnyJ.done (by kernel_rfl) ?_
  refine ExJ.thenN ?_
  refine CodeJ.ret ?_
  refine ExJ.retC (vs := flat [Value.agg (nameCs (cut255 s)).toArray, .int .u16 typ, .int .u16 cls]) Tryd.results56 rfl Tryd.underlying124 rfl (by rw [hfl, hq]; exact sz_124) (fun w hI => Inv.whole hI (i := 0) rfl) ⟨by rw [hfl], rfl⟩ fun w hI => hI.pick (is := []) (by decide) rfl

theorem faultOf_nil (G : GEnv) : Spec Tryd.prog 50 [.nilIface] [] (fun w => GE G w []) (fun r H' => r = .int .i64 0 ∧ H' = []) := by
  refine Spec.of Tryd.func50 rfl Tryd.ntmps50 rfl fun w0 hge => ?_
  refine CodeJ.seq ?_
  refine CodeJ.region ?_
  refine OpsJ.yld rfl rfl rfl (Yld.assign rfl rfl) ?_
  refine OpsJ.nil ?_
  refine ExJ.thenN ?_
  refine CodeJ.seq ?_
  refine CodeJ.seq ?_
  refine CodeJ.region ?_
  refine OpsJ.yld rfl rfl rfl (Yld.move rfl rfl) ?_
  refine OpsJ.nil ?_
  refine ExJ.thenN ?_
  refine CodeJ.block ?_
  refine CodeJ.seq ?_
  refine CodeJ.region ?_
  refine OpsJ.yld rfl rfl rfl (Yld.ifaceEqNil rfl Tryd.underlying69 rfl rfl) ?_
  refine OpsJ.yld rfl rfl rfl (Yld.assign rfl rfl) ?_
  refine OpsJ.nil ?_
  refine ExJ.thenN ?_
  refine CodeJ.condT rfl ?_
  refine CodeJ.seq ?_
  refine CodeJ.region ?_
  refine OpsJ.yld rfl rfl rfl (Yld.assign rfl rfl) ?_
  refine OpsJ.nil ?_
  refine ExJ.thenN ?_
  refine CodeJ.ret ?_
  refine ExJ.blockR ?_
  refine ExJ.thenR ?_
  exact ExJ.ret1 Tryd.results50 rfl ⟨rfl, rfl⟩ fun w hI => hI
theorem faultOf_early (G : GEnv) : Spec Tryd.prog 50 [.iface 183 (.pointer (some (G 0)))] [] (fun w => GE G w []) (fun r H' => r = .int .i64 1 ∧ H' = []) := by
  refine Spec.of Tryd.func50 rfl Tryd.ntmps50 rfl fun w0 hge => ?_
  have he0 := hge.at_ 0 (by decide)
  have hn0 : 0 ∉ fp [] := by simp [fp]
  refine CodeJ.seq ?_
  refine CodeJ.region ?_
  refine OpsJ.yld rfl rfl rfl (Yld.assign rfl rfl) ?_
  refine OpsJ.nil ?_
  refine ExJ.thenN ?_
  refine CodeJ.seq ?_
  refine CodeJ.seq ?_
  refine CodeJ.region ?_
  refine OpsJ.yld rfl rfl rfl (Yld.move rfl rfl) ?_
  refine OpsJ.nil ?_
  refine ExJ.thenN ?_
  refine CodeJ.block ?_
  refine CodeJ.seq ?_
  refine CodeJ.region ?_
  refine OpsJ.yld rfl rfl rfl (Yld.ifaceEqNil rfl Tryd.underlying69 rfl rfl) ?_
  refine OpsJ.yld rfl rfl rfl (Yld.assign rfl rfl) ?_
  refine OpsJ.nil ?_
  refine ExJ.thenN ?_
  refine CodeJ.condF rfl ?_
  refine CodeJ.seq ?_
  refine CodeJ.region ?_
  refine OpsJ.yld rfl rfl rfl (Yld.load1 rfl Tryd.underlying69 rfl rfl (fun w hI => hI.old (he0) (hn0))) ?_
  refine OpsJ.yld rfl rfl rfl (Yld.ifaceEqSame rfl Tryd.underlying69 rfl rfl Tryd.underlying183 (by kernel_rfl) (by kernel_rfl)) ?_
  refine OpsJ.yld rfl rfl rfl (Yld.assign rfl rfl) ?_
  refine OpsJ.nil ?_
  refine ExJ.thenN ?_
  refine CodeJ.condT rfl ?_
  refine CodeJ.seq ?_
  refine CodeJ.region ?_
  refine OpsJ.yld rfl rfl rfl (Yld.assign rfl rfl) ?_
  refine OpsJ.nil ?_
  refine ExJ.thenN ?_
  refine CodeJ.ret ?_
  refine ExJ.blockR ?_
  refine ExJ.thenR ?_
  exact ExJ.ret1 Tryd.results50 rfl ⟨rfl, rfl⟩ fun w hI => hI
theorem faultOf_nested (G : GEnv) (a : Addr) : Spec Tryd.prog 50 [.iface 155 (.pointer (some a))] [] (fun w => GE G w []) (fun r H' => r = .int .i64 3 ∧ H' = []) := by
  refine Spec.of Tryd.func50 rfl Tryd.ntmps50 rfl fun w0 hge => ?_
  have he0 := hge.at_ 0 (by decide)
  have hn0 : 0 ∉ fp [] := by simp [fp]
  have he1 := hge.at_ 1 (by decide)
  have hn1 : 1 ∉ fp [] := by simp [fp]
  refine CodeJ.seq ?_
  refine CodeJ.region ?_
  refine OpsJ.yld rfl rfl rfl (Yld.assign rfl rfl) ?_
  refine OpsJ.nil ?_
  refine ExJ.thenN ?_
  refine CodeJ.seq ?_
  refine CodeJ.seq ?_
  refine CodeJ.region ?_
  refine OpsJ.yld rfl rfl rfl (Yld.move rfl rfl) ?_
  refine OpsJ.nil ?_
  refine ExJ.thenN ?_
  refine CodeJ.block ?_
  refine CodeJ.seq ?_
  refine CodeJ.region ?_
  refine OpsJ.yld rfl rfl rfl (Yld.ifaceEqNil rfl Tryd.underlying69 rfl rfl) ?_
  refine OpsJ.yld rfl rfl rfl (Yld.assign rfl rfl) ?_
  refine OpsJ.nil ?_
  refine ExJ.thenN ?_
  refine CodeJ.condF rfl ?_
  refine CodeJ.seq ?_
  refine CodeJ.region ?_
  refine OpsJ.yld rfl rfl rfl (Yld.load1 rfl Tryd.underlying69 rfl rfl (fun w hI => hI.old (he0) (hn0))) ?_
  refine OpsJ.yld rfl rfl rfl (Yld.ifaceEqDiff rfl Tryd.underlying69 rfl rfl (by decide)) ?_
  refine OpsJ.yld rfl rfl rfl (Yld.assign rfl rfl) ?_
  refine OpsJ.nil ?_
  refine ExJ.thenN ?_
  refine CodeJ.condF rfl ?_
  refine CodeJ.seq ?_
  refine CodeJ.region ?_
  refine OpsJ.yld rfl rfl rfl (Yld.load1 rfl Tryd.underlying69 rfl rfl (fun w hI => hI.old (he1) (hn1))) ?_
  refine OpsJ.yld rfl rfl rfl (Yld.ifaceEqDiff rfl Tryd.underlying69 rfl rfl (by decide)) ?_
  refine OpsJ.yld rfl rfl rfl (Yld.assign rfl rfl) ?_
  refine OpsJ.nil ?_
  refine ExJ.thenN ?_
  refine CodeJ.condF rfl ?_
  refine CodeJ.skip ?_
  refine ExJ.blockN ?_
  refine ExJ.thenN ?_
  refine CodeJ.seq ?_
  refine CodeJ.region ?_
  refine OpsJ.yld rfl rfl rfl (Yld.assign rfl rfl) ?_
  refine OpsJ.nil ?_
  refine ExJ.thenN ?_
  refine CodeJ.ret ?_
  exact ExJ.ret1 Tryd.results50 rfl ⟨rfl, rfl⟩ fun w hI => hI

theorem question_early (G : GEnv) (b : Bd) (l : List UInt8) (typ cls : Nat) (bb : Nat) (p : Option Addr) (c : Nat) (r : Option Nat) (hs : b.sec < 2) :
    Spec Tryd.prog 55 [.pointer (some ⟨bb, 0, none⟩), .agg (questCs l typ cls).toArray] (bdR b bb p c r) (fun w => GE G w (fp (bdR b bb p c r)))
      (fun x H' => x = .iface 183 (.pointer (some (G 0))) ∧ H' = bdR b bb p c r) := by
  refine Spec.of Tryd.func55 rfl Tryd.ntmps55 rfl fun w0 hge => ?_
  have he0 := hge.at_ 0 (by decide)
  have hn0 := hge.out 0 (by decide)
  refine CodeJ.seq ?_
  refine CodeJ.region ?_
  refine OpsJ.op rfl ?_
  refine OpJ.box rfl rfl rfl rfl fun qb hqb => ?_
  refine OpsJ.yld rfl rfl rfl (Yld.assign rfl rfl) ?_
  refine OpsJ.nil ?_
  refine ExJ.thenN ?_
  refine CodeJ.seq ?_
  refine CodeJ.seq ?_
  refine CodeJ.region ?_
  refine OpsJ.yld rfl rfl rfl (Yld.move rfl rfl) ?_
  refine OpsJ.yld rfl rfl rfl (Yld.nilCheck rfl rfl) ?_
  refine OpsJ.yld rfl rfl rfl (Yld.fieldAddr fa_113_1 rfl rfl) ?_
  refine OpsJ.yld rfl rfl rfl (Yld.load1 rfl Tryd.underlying108 rfl rfl (fun w hI => Inv.cell1 hI (i := 1) rfl rfl)) ?_
  refine OpsJ.yld rfl rfl rfl (Yld.intBin rfl rfl rfl rfl) ?_
  refine OpsJ.nil ?_
  refine ExJ.thenN ?_
  refine CodeJ.condP rfl (fun c12 => ?_) (fun c12 => ?_)
  · refine CodeJ.seq ?_
    refine CodeJ.region ?_
    refine OpsJ.yld rfl rfl rfl (Yld.load1 rfl Tryd.underlying69 rfl rfl (fun w hI => hI.old (he0) (hn0))) ?_
    refine OpsJ.yld rfl rfl rfl (Yld.assign rfl rfl) ?_
    refine OpsJ.nil ?_
    refine ExJ.thenN ?_
    refine CodeJ.ret ?_
    refine ExJ.thenR ?_
    exact ExJ.ret1 Tryd.results55 rfl ⟨rfl, rfl⟩ fun w hI => hI.pick (is := [1, 2, 3]) (by decide) rfl
  · exact absurd hs (by omega)

theorem question_ok (G : GEnv) (buf : List UInt8) (start id bits q an au ad : Nat) (m : List (List UInt8 × Nat)) (l : List UInt8) (hl : PName l) (typ cls : Nat) (bb : Nat) (p : Option Addr) (c : Nat) (r : Option Nat)
    (hq : q < 65535) (hoff : start ≤ buf.length) (hbig : buf.length ≤ 158329674399744 - 1024) (hm : ∀ x ∈ m, x.2 < 65536) (ys : List UInt8) (m' : List (List UInt8 × Nat)) (hp : packQ (buf.length - start) r.isSome l typ cls m = .ok ys m') :
    Spec Tryd.prog 55 [.pointer (some ⟨bb, 0, none⟩), .agg (questCs l typ cls).toArray] (bdR ⟨buf, start, 2, id, bits, q, an, au, ad, m⟩ bb p c r) (fun w => GE G w (fp (bdR ⟨buf, start, 2, id, bits, q, an, au, ad, m⟩ bb p c r)))
      (fun x H' => x = .nilIface ∧ ∃ p' c', H' = bdR ⟨buf ++ ys, start, 2, id, bits, q + 1, an, au, ad, m'⟩ bb p' c' r) := by
  refine Spec.of Tryd.func55 rfl Tryd.ntmps55 rfl fun w0 hge => ?_
  refine CodeJ.seq ?_
  refine CodeJ.region ?_
  refine OpsJ.op rfl ?_
  refine OpJ.box rfl rfl rfl rfl fun qb hqb => ?_
  refine OpsJ.yld rfl rfl rfl (Yld.assign rfl rfl) ?_
  refine OpsJ.nil ?_
  refine ExJ.thenN ?_
  refine CodeJ.seq ?_
  refine CodeJ.seq ?_
  refine CodeJ.region ?_
  refine OpsJ.yld rfl rfl rfl (Yld.move rfl rfl) ?_
  refine OpsJ.yld rfl rfl rfl (Yld.nilCheck rfl rfl) ?_
  refine OpsJ.yld rfl rfl rfl (Yld.fieldAddr fa_113_1 rfl rfl) ?_
  refine OpsJ.yld rfl rfl rfl (Yld.load1 rfl Tryd.underlying108 rfl rfl (fun w hI => Inv.cell1 hI (i := 1) rfl rfl)) ?_
  refine OpsJ.yld rfl rfl rfl (Yld.intBin rfl rfl rfl rfl) ?_
  refine OpsJ.nil ?_
  refine ExJ.thenN ?_
  refine CodeJ.condP rfl (fun c12 => ?_) (fun c12 => ?_)
  · exact absurd c12 (show ¬ ((2 : Int) < 2) from by decide)
  · refine CodeJ.skip ?_
    refine ExJ.thenN ?_
    refine CodeJ.seq ?_
    refine CodeJ.seq ?_
    refine CodeJ.region ?_
    refine OpsJ.yld rfl rfl rfl (Yld.move rfl rfl) ?_
    refine OpsJ.yld rfl rfl rfl (Yld.nilCheck rfl rfl) ?_
    refine OpsJ.yld rfl rfl rfl (Yld.fieldAddr fa_113_1 rfl rfl) ?_
    refine OpsJ.yld rfl rfl rfl (Yld.load1 rfl Tryd.underlying108 rfl rfl (fun w hI => Inv.cell1 hI (i := 1) rfl rfl)) ?_
    refine OpsJ.yld rfl rfl rfl (Yld.intBin rfl rfl rfl rfl) ?_
    refine OpsJ.nil ?_
    refine ExJ.thenN ?_
    refine CodeJ.condP rfl (fun c18 => ?_) (fun c18 => ?_)
    · exact absurd c18 (show ¬ ((2 : Int) > 2) from by decide)
    · refine CodeJ.skip ?_
      refine ExJ.thenN ?_
      refine CodeJ.seq ?_
      refine CodeJ.any (fuel := 18) (listed := #[false, false, false, false, false, false, false, false, false, false, false, false, false, false, false, false, false, false]) [0, 1] rfl follows_mixed rfl rfl ?_
      refine AnyJ.take (fuel := 17) (listed' := #[true, false, false, false, false, false, false, false, false, false, false, false, false, false, false, false, false, false]) 0 rfl (by kernel_rfl) (by kernel_rfl) (by kernel_rfl) rfl rfl rfl rfl (Yld.move rfl rfl) (fun w hI => hI.pick (is := [0, 1]) (by decide) rfl) ?_
      refine AnyJ.take (fuel := 16) (listed' := #[true, true, false, false, false, false, false, false, false, false, false, false, false, false, false, false, false, false]) 1 rfl (by kernel_rfl) (by kernel_rfl) (by kernel_rfl) rfl rfl rfl rfl (Yld.nilCheck rfl rfl) (fun w hI => hI.pick (is := [0, 1]) (by decide) rfl) ?_
      refine AnyJ.take (fuel := 15) (listed' := #[true, true, true, false, false, false, false, false, false, false, false, false, false, false, false, false, false, false]) 2 rfl (by kernel_rfl) (by kernel_rfl) (by kernel_rfl) rfl rfl rfl rfl (Yld.fieldAddr fa_113_0 rfl rfl) (fun w hI => hI.pick (is := [0, 1]) (by decide) rfl) ?_
      refine AnyJ.take (fuel := 14) (listed' := #[true, true, true, true, false, false, false, false, false, false, false, false, false, false, false, false, false, false]) 3 rfl (by kernel_rfl) (by kernel_rfl) (by kernel_rfl) rfl rfl rfl rfl (Yld.load1 rfl Tryd.underlying31 rfl rfl (fun w hI => Inv.cell1 hI (i := 1) rfl rfl)) (fun w hI => hI.pick (is := [0, 1]) (by decide) rfl) ?_
      refine AnyJ.take (fuel := 13) (listed' := #[true, true, true, true, true, false, false, false, false, false, false, false, false, false, false, false, false, false]) 4 rfl (by kernel_rfl) (by kernel_rfl) (by kernel_rfl) rfl rfl rfl rfl (Yld.move rfl rfl) (fun w hI => hI.pick (is := [0, 1]) (by decide) rfl) ?_
      refine AnyJ.take (fuel := 12) (listed' := #[true, true, true, true, true, true, false, false, false, false, false, false, false, false, false, false, false, false]) 5 rfl (by kernel_rfl) (by kernel_rfl) (by kernel_rfl) rfl rfl rfl rfl (Yld.nilCheck rfl rfl) (fun w hI => hI.pick (is := [0, 1]) (by decide) rfl) ?_
      refine AnyJ.take (fuel := 11) (listed' := #[true, true, true, true, true, true, true, false, false, false, false, false, false, false, false, false, false, false]) 6 rfl (by kernel_rfl) (by kernel_rfl) (by kernel_rfl) rfl rfl rfl rfl (Yld.fieldAddr fa_113_4 rfl rfl) (fun w hI => hI.pick (is := [0, 1]) (by decide) rfl) ?_
      refine AnyJ.take (fuel := 10) (listed' := #[true, true, true, true, true, true, true, true, false, false, false, false, false, false, false, false, false, false]) 7 rfl (by kernel_rfl) (by kernel_rfl) (by kernel_rfl) rfl rfl rfl rfl (Yld.load1 rfl Tryd.underlying111 rfl rfl (fun w hI => Inv.cell1 hI (i := 1) rfl rfl)) (fun w hI => hI.pick (is := [0, 1]) (by decide) rfl) ?_
      refine AnyJ.take (fuel := 9) (listed' := #[true, true, true, true, true, true, true, true, true, false, false, false, false, false, false, false, false, false]) 8 rfl (by kernel_rfl) (by kernel_rfl) (by kernel_rfl) rfl rfl rfl rfl (Yld.move rfl rfl) (fun w hI => hI.pick (is := [0, 1]) (by decide) rfl) ?_
      refine AnyJ.take (fuel := 8) (listed' := #[true, true, true, true, true, true, true, true, true, true, false, false, false, false, false, false, false, false]) 9 rfl (by kernel_rfl) (by kernel_rfl) (by kernel_rfl) rfl rfl rfl rfl (Yld.nilCheck rfl rfl) (fun w hI => hI.pick (is := [0, 1]) (by decide) rfl) ?_
      refine AnyJ.take (fuel := 7) (listed' := #[true, true, true, true, true, true, true, true, true, true, true, false, false, false, false, false, false, false]) 10 rfl (by kernel_rfl) (by kernel_rfl) (by kernel_rfl) rfl rfl rfl rfl (Yld.fieldAddr fa_113_3 rfl rfl) (fun w hI => hI.pick (is := [0, 1]) (by decide) rfl) ?_
      refine AnyJ.take (fuel := 6) (listed' := #[true, true, true, true, true, true, true, true, true, true, true, true, false, false, false, false, false, false]) 11 rfl (by kernel_rfl) (by kernel_rfl) (by kernel_rfl) rfl rfl rfl rfl (Yld.load1 rfl Tryd.underlying3 rfl rfl (fun w hI => Inv.cell1 hI (i := 1) rfl rfl)) (fun w hI => hI.pick (is := [0, 1]) (by decide) rfl) ?_
      refine AnyJ.one (fuel := 5) 12 (by kernel_rfl) ?_
      refine StepJ.op (listed' := #[true, true, true, true, true, true, true, true, true, true, true, true, true, false, false, false, false, false]) rfl rfl rfl ?_
      refine OpJ.call (questionPack_spec G l hl typ cls qb 0 start (.slice p buf.length c) buf buf p c r m hoff hbig hm) has_80 rfl rfl rfl rfl rfl [2, 3] [0, 1] (by decide) rfl rfl (fun w hI => ⟨Inv.whole hI (i := 0) rfl, hI.apart (i := 0) rfl (is := [2, 3]) (by decide) rfl qb (by simp [Res.ats]), hge.call hI (is := [2, 3]) rfl⟩) ?_
      rintro _ _ hpost
      rw [hp] at hpost
      obtain ⟨p33, c33, rfl, rfl⟩ := hpost
      refine ⟨fun w hI => hI.pick (is := [2, 3]) (by decide) rfl, ?_⟩
      refine AnyJ.take (fuel := 4) (listed' := #[true, true, true, true, true, true, true, true, true, true, true, true, true, true, false, false, false, false]) 13 rfl (by kernel_rfl) (by kernel_rfl) (by kernel_rfl) rfl rfl rfl rfl (Yld.move rfl rfl) (fun w hI => hI.pick (is := [2, 3]) (by decide) rfl) ?_
      refine AnyJ.take (fuel := 3) (listed' := #[true, true, true, true, true, true, true, true, true, true, true, true, true, true, true, false, false, false]) 14 rfl (by kernel_rfl) (by kernel_rfl) (by kernel_rfl) rfl rfl rfl rfl (Yld.extract rfl rfl rfl) (fun w hI => hI.pick (is := [2, 3]) (by decide) rfl) ?_
      refine AnyJ.take (fuel := 2) (listed' := #[true, true, true, true, true, true, true, true, true, true, true, true, true, true, true, true, false, false]) 15 rfl (by kernel_rfl) (by kernel_rfl) (by kernel_rfl) rfl rfl rfl rfl (Yld.extract rfl rfl rfl) (fun w hI => hI.pick (is := [2, 3]) (by decide) rfl) ?_
      refine AnyJ.take (fuel := 1) (listed' := #[true, true, true, true, true, true, true, true, true, true, true, true, true, true, true, true, true, false]) 16 rfl (by kernel_rfl) (by kernel_rfl) (by kernel_rfl) rfl rfl rfl rfl (Yld.assign rfl rfl) (fun w hI => hI.pick (is := [2, 3]) (by decide) rfl) ?_
      refine AnyJ.take (fuel := 0) (listed' := #[true, true, true, true, true, true, true, true, true, true, true, true, true, true, true, true, true, true]) 17 rfl (by kernel_rfl) (by kernel_rfl) (by kernel_rfl) rfl rfl rfl rfl (Yld.assign rfl rfl) (fun w hI => hI.pick (is := [2, 3]) (by decide) rfl) ?_
      refine AnyJ.done (by kernel_rfl) ?_
      refine ExJ.thenN ?_
      refine CodeJ.seq ?_
      refine CodeJ.seq ?_
      refine CodeJ.region ?_
      refine OpsJ.yld rfl rfl rfl (Yld.move rfl rfl) ?_
      refine OpsJ.yld rfl rfl rfl (Yld.ifaceNeNil rfl Tryd.underlying69 rfl rfl) ?_
      refine OpsJ.nil ?_
      refine ExJ.thenN ?_
      refine CodeJ.condF rfl ?_
      refine CodeJ.skip ?_
      refine ExJ.thenN ?_
      refine CodeJ.seq ?_
      refine CodeJ.seq ?_
      refine CodeJ.region ?_
      refine OpsJ.yld rfl rfl rfl (Yld.move rfl rfl) ?_
      refine OpsJ.op rfl ?_
      refine OpJ.call (inc2_spec G buf start id bits q an au ad m bb p c r hq) has_81 rfl rfl rfl rfl rfl [3] [0, 1, 2] (by decide) rfl rfl (fun w hI => hge.call hI (is := [3]) rfl) ?_
      rintro _ _ ⟨rfl, rfl⟩
      refine OpsJ.yld rfl rfl rfl (Yld.assign rfl rfl) ?_
      refine OpsJ.nil ?_
      refine ExJ.thenN ?_
      refine CodeJ.seq ?_
      refine CodeJ.region ?_
      refine OpsJ.yld rfl rfl rfl (Yld.move rfl rfl) ?_
      refine OpsJ.yld rfl rfl rfl (Yld.ifaceNeNil rfl Tryd.underlying69 rfl rfl) ?_
      refine OpsJ.nil ?_
      refine ExJ.thenN ?_
      refine CodeJ.condF rfl ?_
      refine CodeJ.skip ?_
      refine ExJ.thenN ?_
      refine CodeJ.seq ?_
      refine CodeJ.region ?_
      refine OpsJ.yld rfl rfl rfl (Yld.move rfl rfl) ?_
      refine OpsJ.yld rfl rfl rfl (Yld.move rfl rfl) ?_
      refine OpsJ.yld rfl rfl rfl (Yld.nilCheck rfl rfl) ?_
      refine OpsJ.yld rfl rfl rfl (Yld.fieldAddr fa_113_0 rfl rfl) ?_
      refine OpsJ.op rfl ?_
      refine OpJ.store1 (i := 0) rfl rfl rfl rfl rfl sz_31 rfl rfl ?_
      refine OpsJ.nil ?_
      refine ExJ.thenN ?_
      refine CodeJ.seq ?_
      refine CodeJ.region ?_
      refine OpsJ.yld rfl rfl rfl (Yld.assign rfl rfl) ?_
      refine OpsJ.nil ?_
      refine ExJ.thenN ?_
      refine CodeJ.ret ?_
      refine ExJ.ret1 Tryd.results55 rfl ⟨rfl, p33, c33, rfl⟩ fun w hI => ?_
      exact (hI.sl2 (i := 1) rfl).pick (is := [0, 1, 2]) (by decide) rfl
theorem question_err (G : GEnv) (buf : List UInt8) (start id bits q an au ad : Nat) (m : List (List UInt8 × Nat)) (l : List UInt8) (hl : PName l) (typ cls : Nat) (bb : Nat) (p : Option Addr) (c : Nat) (r : Option Nat)
    (hoff : start ≤ buf.length) (hbig : buf.length ≤ 158329674399744 - 1024) (hm : ∀ x ∈ m, x.2 < 65536) (m' : List (List UInt8 × Nat)) (hp : packQ (buf.length - start) r.isSome l typ cls m = .err m') :
    Spec Tryd.prog 55 [.pointer (some ⟨bb, 0, none⟩), .agg (questCs l typ cls).toArray] (bdR ⟨buf, start, 2, id, bits, q, an, au, ad, m⟩ bb p c r) (fun w => GE G w (fp (bdR ⟨buf, start, 2, id, bits, q, an, au, ad, m⟩ bb p c r)))
      (fun x H' => (∃ a, x = .iface 155 (.pointer (some a))) ∧ H' = bdR ⟨buf, start, 2, id, bits, q, an, au, ad, m'⟩ bb p c r) := by
  refine Spec.of Tryd.func55 rfl Tryd.ntmps55 rfl fun w0 hge => ?_
  refine CodeJ.seq ?_
  refine CodeJ.region ?_
  refine OpsJ.op rfl ?_
  refine OpJ.box rfl rfl rfl rfl fun qb hqb => ?_
  refine OpsJ.yld rfl rfl rfl (Yld.assign rfl rfl) ?_
  refine OpsJ.nil ?_
  refine ExJ.thenN ?_
  refine CodeJ.seq ?_
  refine CodeJ.seq ?_
  refine CodeJ.region ?_
  refine OpsJ.yld rfl rfl rfl (Yld.move rfl rfl) ?_
  refine OpsJ.yld rfl rfl rfl (Yld.nilCheck rfl rfl) ?_
  refine OpsJ.yld rfl rfl rfl (Yld.fieldAddr fa_113_1 rfl rfl) ?_
  refine OpsJ.yld rfl rfl rfl (Yld.load1 rfl Tryd.underlying108 rfl rfl (fun w hI => Inv.cell1 hI (i := 1) rfl rfl)) ?_
  refine OpsJ.yld rfl rfl rfl (Yld.intBin rfl rfl rfl rfl) ?_
  refine OpsJ.nil ?_
  refine ExJ.thenN ?_
  refine CodeJ.condP rfl (fun c12 => ?_) (fun c12 => ?_)
  · exact absurd c12 (show ¬ ((2 : Int) < 2) from by decide)
  · refine CodeJ.skip ?_
    refine ExJ.thenN ?_
    refine CodeJ.seq ?_
    refine CodeJ.seq ?_
    refine CodeJ.region ?_
    refine OpsJ.yld rfl rfl rfl (Yld.move rfl rfl) ?_
    refine OpsJ.yld rfl rfl rfl (Yld.nilCheck rfl rfl) ?_
    refine OpsJ.yld rfl rfl rfl (Yld.fieldAddr fa_113_1 rfl rfl) ?_
    refine OpsJ.yld rfl rfl rfl (Yld.load1 rfl Tryd.underlying108 rfl rfl (fun w hI => Inv.cell1 hI (i := 1) rfl rfl)) ?_
    refine OpsJ.yld rfl rfl rfl (Yld.intBin rfl rfl rfl rfl) ?_
    refine OpsJ.nil ?_
    refine ExJ.thenN ?_
    refine CodeJ.condP rfl (fun c18 => ?_) (fun c18 => ?_)
    · exact absurd c18 (show ¬ ((2 : Int) > 2) from by decide)
    · refine CodeJ.skip ?_
      refine ExJ.thenN ?_
      refine CodeJ.seq ?_
      refine CodeJ.any (fuel := 18) (listed := #[false, false, false, false, false, false, false, false, false, false, false, false, false, false, false, false, false, false]) [0, 1] rfl follows_mixed rfl rfl ?_
      refine AnyJ.take (fuel := 17) (listed' := #[true, false, false, false, false, false, false, false, false, false, false, false, false, false, false, false, false, false]) 0 rfl (by kernel_rfl) (by kernel_rfl) (by kernel_rfl) rfl rfl rfl rfl (Yld.move rfl rfl) (fun w hI => hI.pick (is := [0, 1]) (by decide) rfl) ?_
      refine AnyJ.take (fuel := 16) (listed' := #[true, true, false, false, false, false, false, false, false, false, false, false, false, false, false, false, false, false]) 1 rfl (by kernel_rfl) (by kernel_rfl) (by kernel_rfl) rfl rfl rfl rfl (Yld.nilCheck rfl rfl) (fun w hI => hI.pick (is := [0, 1]) (by decide) rfl) ?_
      refine AnyJ.take (fuel := 15) (listed' := #[true, true, true, false, false, false, false, false, false, false, false, false, false, false, false, false, false, false]) 2 rfl (by kernel_rfl) (by kernel_rfl) (by kernel_rfl) rfl rfl rfl rfl (Yld.fieldAddr fa_113_0 rfl rfl) (fun w hI => hI.pick (is := [0, 1]) (by decide) rfl) ?_
      refine AnyJ.take (fuel := 14) (listed' := #[true, true, true, true, false, false, false, false, false, false, false, false, false, false, false, false, false, false]) 3 rfl (by kernel_rfl) (by kernel_rfl) (by kernel_rfl) rfl rfl rfl rfl (Yld.load1 rfl Tryd.underlying31 rfl rfl (fun w hI => Inv.cell1 hI (i := 1) rfl rfl)) (fun w hI => hI.pick (is := [0, 1]) (by decide) rfl) ?_
      refine AnyJ.take (fuel := 13) (listed' := #[true, true, true, true, true, false, false, false, false, false, false, false, false, false, false, false, false, false]) 4 rfl (by kernel_rfl) (by kernel_rfl) (by kernel_rfl) rfl rfl rfl rfl (Yld.move rfl rfl) (fun w hI => hI.pick (is := [0, 1]) (by decide) rfl) ?_
      refine AnyJ.take (fuel := 12) (listed' := #[true, true, true, true, true, true, false, false, false, false, false, false, false, false, false, false, false, false]) 5 rfl (by kernel_rfl) (by kernel_rfl) (by kernel_rfl) rfl rfl rfl rfl (Yld.nilCheck rfl rfl) (fun w hI => hI.pick (is := [0, 1]) (by decide) rfl) ?_
      refine AnyJ.take (fuel := 11) (listed' := #[true, true, true, true, true, true, true, false, false, false, false, false, false, false, false, false, false, false]) 6 rfl (by kernel_rfl) (by kernel_rfl) (by kernel_rfl) rfl rfl rfl rfl (Yld.fieldAddr fa_113_4 rfl rfl) (fun w hI => hI.pick (is := [0, 1]) (by decide) rfl) ?_
      refine AnyJ.take (fuel := 10) (listed' := #[true, true, true, true, true, true, true, true, false, false, false, false, false, false, false, false, false, false]) 7 rfl (by kernel_rfl) (by kernel_rfl) (by kernel_rfl) rfl rfl rfl rfl (Yld.load1 rfl Tryd.underlying111 rfl rfl (fun w hI => Inv.cell1 hI (i := 1) rfl rfl)) (fun w hI => hI.pick (is := [0, 1]) (by decide) rfl) ?_
      refine AnyJ.take (fuel := 9) (listed' := #[true, true, true, true, true, true, true, true, true, false, false, false, false, false, false, false, false, false]) 8 rfl (by kernel_rfl) (by kernel_rfl) (by kernel_rfl) rfl rfl rfl rfl (Yld.move rfl rfl) (fun w hI => hI.pick (is := [0, 1]) (by decide) rfl) ?_
      refine AnyJ.take (fuel := 8) (listed' := #[true, true, true, true, true, true, true, true, true, true, false, false, false, false, false, false, false, false]) 9 rfl (by kernel_rfl) (by kernel_rfl) (by kernel_rfl) rfl rfl rfl rfl (Yld.nilCheck rfl rfl) (fun w hI => hI.pick (is := [0, 1]) (by decide) rfl) ?_
      refine AnyJ.take (fuel := 7) (listed' := #[true, true, true, true, true, true, true, true, true, true, true, false, false, false, false, false, false, false]) 10 rfl (by kernel_rfl) (by kernel_rfl) (by kernel_rfl) rfl rfl rfl rfl (Yld.fieldAddr fa_113_3 rfl rfl) (fun w hI => hI.pick (is := [0, 1]) (by decide) rfl) ?_
      refine AnyJ.take (fuel := 6) (listed' := #[true, true, true, true, true, true, true, true, true, true, true, true, false, false, false, false, false, false]) 11 rfl (by kernel_rfl) (by kernel_rfl) (by kernel_rfl) rfl rfl rfl rfl (Yld.load1 rfl Tryd.underlying3 rfl rfl (fun w hI => Inv.cell1 hI (i := 1) rfl rfl)) (fun w hI => hI.pick (is := [0, 1]) (by decide) rfl) ?_
      refine AnyJ.one (fuel := 5) 12 (by kernel_rfl) ?_
      refine StepJ.op (listed' := #[true, true, true, true, true, true, true, true, true, true, true, true, true, false, false, false, false, false]) rfl rfl rfl ?_
      refine OpJ.call (questionPack_spec G l hl typ cls qb 0 start (.slice p buf.length c) buf buf p c r m hoff hbig hm) has_80 rfl rfl rfl rfl rfl [2, 3] [0, 1] (by decide) rfl rfl (fun w hI => ⟨Inv.whole hI (i := 0) rfl, hI.apart (i := 0) rfl (is := [2, 3]) (by decide) rfl qb (by simp [Res.ats]), hge.call hI (is := [2, 3]) rfl⟩) ?_
      rintro _ _ hpost
      rw [hp] at hpost
      obtain ⟨u33, a33, rfl, rfl⟩ := hpost
      refine ⟨fun w hI => hI.pick (is := [2, 3]) (by decide) rfl, ?_⟩
      refine AnyJ.take (fuel := 4) (listed' := #[true, true, true, true, true, true, true, true, true, true, true, true, true, true, false, false, false, false]) 13 rfl (by kernel_rfl) (by kernel_rfl) (by kernel_rfl) rfl rfl rfl rfl (Yld.move rfl rfl) (fun w hI => hI.pick (is := [2, 3]) (by decide) rfl) ?_
      refine AnyJ.take (fuel := 3) (listed' := #[true, true, true, true, true, true, true, true, true, true, true, true, true, true, true, false, false, false]) 14 rfl (by kernel_rfl) (by kernel_rfl) (by kernel_rfl) rfl rfl rfl rfl (Yld.extract rfl rfl rfl) (fun w hI => hI.pick (is := [2, 3]) (by decide) rfl) ?_
      refine AnyJ.take (fuel := 2) (listed' := #[true, true, true, true, true, true, true, true, true, true, true, true, true, true, true, true, false, false]) 15 rfl (by kernel_rfl) (by kernel_rfl) (by kernel_rfl) rfl rfl rfl rfl (Yld.extract rfl rfl rfl) (fun w hI => hI.pick (is := [2, 3]) (by decide) rfl) ?_
      refine AnyJ.take (fuel := 1) (listed' := #[true, true, true, true, true, true, true, true, true, true, true, true, true, true, true, true, true, false]) 16 rfl (by kernel_rfl) (by kernel_rfl) (by kernel_rfl) rfl rfl rfl rfl (Yld.assign rfl rfl) (fun w hI => hI.pick (is := [2, 3]) (by decide) rfl) ?_
      refine AnyJ.take (fuel := 0) (listed' := #[true, true, true, true, true, true, true, true, true, true, true, true, true, true, true, true, true, true]) 17 rfl (by kernel_rfl) (by kernel_rfl) (by kernel_rfl) rfl rfl rfl rfl (Yld.assign rfl rfl) (fun w hI => hI.pick (is := [2, 3]) (by decide) rfl) ?_
      refine AnyJ.done (by kernel_rfl) ?_
      refine ExJ.thenN ?_
      refine CodeJ.seq ?_
      refine CodeJ.seq ?_
      refine CodeJ.region ?_
      refine OpsJ.yld rfl rfl rfl (Yld.move rfl rfl) ?_
      refine OpsJ.yld rfl rfl rfl (Yld.ifaceNeNil rfl Tryd.underlying69 rfl rfl) ?_
      refine OpsJ.nil ?_
      refine ExJ.thenN ?_
      refine CodeJ.condT rfl ?_
      refine CodeJ.seq ?_
      refine CodeJ.region ?_
      refine OpsJ.yld rfl rfl rfl (Yld.move rfl rfl) ?_
      refine OpsJ.yld rfl rfl rfl (Yld.assign rfl rfl) ?_
      refine OpsJ.nil ?_
      refine ExJ.thenN ?_
      refine CodeJ.ret ?_
      refine ExJ.thenR ?_
      exact ExJ.ret1 Tryd.results55 rfl ⟨⟨_, rfl⟩, rfl⟩ fun w hI => hI.pick (is := [3, 0, 1]) (by decide) rfl
end Go.Proofs.YtamobccbioafmaaDoor

/-
  Contracts: Finish.
-/
namespace Go.Proofs.YtamobccbioafmaaDoor
open Go
set_option maxRecDepth 100000

theorem packUint16_in (x : Nat) (b off l cap : Nat) (cs : Array Value) (h1 : l + 2 ≤ cap) (h2 : off + l + 2 ≤ cs.size) :
    Spec Tryd.prog 92 [.slice (some ⟨b, off, none⟩) l cap, .int .u16 x] [.blk b cs 5] (fun _ => True) (fun r H' => r = .slice (some ⟨b, off, none⟩) (l + 2) cap ∧ H' = [.blk b (setCs cs (off + l) (bytesV (be16 x))) 5]) := by
  refine Spec.of Tryd.func92 rfl Tryd.ntmps92 rfl fun w0 _ => ?_
  refine CodeJ.seq ?_
  refine CodeJ.region ?_
  refine OpsJ.yld rfl rfl rfl (Yld.assign rfl rfl) ?_
  refine OpsJ.nil ?_
  refine ExJ.thenN ?_
  refine CodeJ.seq ?_
  refine CodeJ.region ?_
  refine OpsJ.yld rfl rfl rfl (Yld.move rfl rfl) ?_
  refine OpsJ.yld rfl rfl rfl (Yld.move rfl rfl) ?_
  refine OpsJ.yld rfl rfl rfl (Yld.shr rfl rfl rfl (by decide)) ?_
  refine OpsJ.yld rfl rfl rfl (Yld.convInt rfl Tryd.underlying22 Tryd.underlying5 rfl) ?_
  refine OpsJ.yld rfl rfl rfl (Yld.move rfl rfl) ?_
  refine OpsJ.yld rfl rfl rfl (Yld.convInt rfl Tryd.underlying22 Tryd.underlying5 rfl) ?_
  rw [shr8, u8_wrap, u8_wrap]
  refine OpsJ.op rfl ?_
  refine OpJ.buildSlice (xs := [.tmp 8, .tmp 10]) elt_31 rfl rfl rfl rfl rfl rfl (by rfl) (by decide) fun s11 hs11 => ?_
  refine OpsJ.op rfl ?_
  refine OpJ.appendIn (i := 1) (news := be16 x) elt_31 rfl rfl rfl rfl rfl rfl (fun w hI => Bytes.src (Inv.bytes (k := 0) rfl w hI) Tryd.underlying31) h1 h2 ?_
  refine OpsJ.yld rfl rfl rfl (Yld.assign rfl rfl) ?_
  refine OpsJ.nil ?_
  refine ExJ.thenN ?_
  refine CodeJ.ret ?_
  exact ExJ.ret1 Tryd.results92 rfl ⟨rfl, rfl⟩ fun w hI => hI.pick (is := [1]) (by decide) rfl

/-- the header of a message, as bytes -/
def hd12 (id bits q an au ad : Nat) : List UInt8 := be16 id ++ be16 bits ++ be16 q ++ be16 an ++ be16 au ++ be16 ad
theorem setCs_two (c : Array Value) (off k : Nat) (xs ys : List UInt8) (hk : k = xs.length) (h : off + k + ys.length ≤ c.size) : setCs (setCs c off (bytesV xs)) (off + k) (bytesV ys) = setCs c off (bytesV (xs ++ ys)) := by
  subst hk
  have e := setCs_adj (c := c) (k := off) (xs := bytesV xs) (ys := bytesV ys) (by simpa [bytesV_len] using h)
  rw [bytesV_len] at e
  rw [e]
  congr 1
  simp [bytesV]
theorem setCs_sz (c : Array Value) (off : Nat) (xs : List UInt8) (h : off + xs.length ≤ c.size) : (setCs c off (bytesV xs)).size = c.size := setCs_size (by rw [bytesV_len]; exact h)

theorem headPack_spec (id bits q an au ad : Nat) (bb b off cap : Nat) (cs : Array Value) (h1 : 12 ≤ cap) (h2 : off + 12 ≤ cs.size) :
    Spec Tryd.prog 82 [.pointer (some ⟨bb, 2, none⟩), .slice (some ⟨b, off, none⟩) 0 cap] [.blk b cs 5] (fun w => Cells w bb 2 [.int .u16 id, .int .u16 bits, .int .u16 q, .int .u16 an, .int .u16 au, .int .u16 ad] ∧ bb ∉ fp [.blk b cs 5])
      (fun r H' => r = .slice (some ⟨b, off, none⟩) 12 cap ∧ H' = [.blk b (setCs cs off (bytesV (hd12 id bits q an au ad))) 5]) := by
  refine Spec.of Tryd.func82 rfl Tryd.ntmps82 rfl fun w0 hR => ?_
  obtain ⟨hcs, hbb⟩ := hR
  have f0 : off + (be16 id).length ≤ cs.size := by simp [be16_len]; omega
  have f1 : off + (be16 id ++ be16 bits).length ≤ cs.size := by simp [be16_len]; omega
  have f2 : off + (be16 id ++ be16 bits ++ be16 q).length ≤ cs.size := by simp [be16_len]; omega
  have f3 : off + (be16 id ++ be16 bits ++ be16 q ++ be16 an).length ≤ cs.size := by simp [be16_len]; omega
  have f4 : off + (be16 id ++ be16 bits ++ be16 q ++ be16 an ++ be16 au).length ≤ cs.size := by simp [be16_len]; omega
  refine CodeJ.seq ?_
  refine CodeJ.region ?_
  refine OpsJ.yld rfl rfl rfl (Yld.assign rfl rfl) ?_
  refine OpsJ.nil ?_
  refine ExJ.thenN ?_
  refine CodeJ.seq ?_
  refine CodeJ.region ?_
  refine OpsJ.yld rfl rfl rfl (Yld.move rfl rfl) ?_
  refine OpsJ.yld rfl rfl rfl (Yld.move rfl rfl) ?_
  refine OpsJ.yld rfl rfl rfl (Yld.nilCheck rfl rfl) ?_
  refine OpsJ.yld rfl rfl rfl (Yld.fieldAddr fa_110_0 rfl rfl) ?_
  refine OpsJ.yld rfl rfl rfl (Yld.load1 rfl Tryd.underlying22 rfl rfl (fun w hI => hI.old (hcs.one (k := 0) rfl) hbb)) ?_
  refine OpsJ.op rfl ?_
  refine OpJ.call (packUint16_in id b off 0 cap cs (by omega) (by omega)) has_92 rfl rfl rfl rfl rfl [0] [] (by decide) rfl rfl (fun _ _ => trivial) ?_
  rintro _ _ ⟨rfl, rfl⟩
  refine OpsJ.yld rfl rfl rfl (Yld.assign rfl rfl) ?_
  refine OpsJ.nil ?_
  refine ExJ.thenN ?_
  refine CodeJ.seq ?_
  refine CodeJ.region ?_
  refine OpsJ.yld rfl rfl rfl (Yld.move rfl rfl) ?_
  refine OpsJ.yld rfl rfl rfl (Yld.move rfl rfl) ?_
  refine OpsJ.yld rfl rfl rfl (Yld.nilCheck rfl rfl) ?_
  refine OpsJ.yld rfl rfl rfl (Yld.fieldAddr fa_110_1 rfl rfl) ?_
  refine OpsJ.yld rfl rfl rfl (Yld.load1 rfl Tryd.underlying22 rfl rfl (fun w hI => hI.old (hcs.one (k := 1) rfl) hbb)) ?_
  refine OpsJ.op rfl ?_
  refine OpJ.call (packUint16_in bits b off 2 cap (setCs cs off (bytesV (be16 id))) (by omega) (by rw [setCs_sz _ _ _ f0]; omega)) has_92 rfl rfl rfl rfl rfl [0] [] (by decide) rfl rfl (fun _ _ => trivial) ?_
  rintro _ _ ⟨rfl, rfl⟩
  refine OpsJ.congrH (H' := [.blk b (setCs cs off (bytesV (be16 id ++ be16 bits))) 5]) (congrArg (fun c => [Res.blk b c 5]) (setCs_two cs off 2 (be16 id) (be16 bits) rfl (by simp [be16_len]; omega))) ?_
  refine OpsJ.yld rfl rfl rfl (Yld.assign rfl rfl) ?_
  refine OpsJ.nil ?_
  refine ExJ.thenN ?_
  refine CodeJ.seq ?_
  refine CodeJ.region ?_
  refine OpsJ.yld rfl rfl rfl (Yld.move rfl rfl) ?_
  refine OpsJ.yld rfl rfl rfl (Yld.move rfl rfl) ?_
  refine OpsJ.yld rfl rfl rfl (Yld.nilCheck rfl rfl) ?_
  refine OpsJ.yld rfl rfl rfl (Yld.fieldAddr fa_110_2 rfl rfl) ?_
  refine OpsJ.yld rfl rfl rfl (Yld.load1 rfl Tryd.underlying22 rfl rfl (fun w hI => hI.old (hcs.one (k := 2) rfl) hbb)) ?_
  refine OpsJ.op rfl ?_
  refine OpJ.call (packUint16_in q b off 4 cap (setCs cs off (bytesV (be16 id ++ be16 bits))) (by omega) (by rw [setCs_sz _ _ _ f1]; omega)) has_92 rfl rfl rfl rfl rfl [0] [] (by decide) rfl rfl (fun _ _ => trivial) ?_
  rintro _ _ ⟨rfl, rfl⟩
  refine OpsJ.congrH (H' := [.blk b (setCs cs off (bytesV (be16 id ++ be16 bits ++ be16 q))) 5]) (congrArg (fun c => [Res.blk b c 5]) (setCs_two cs off 4 (be16 id ++ be16 bits) (be16 q) rfl (by simp [be16_len]; omega))) ?_
  refine OpsJ.yld rfl rfl rfl (Yld.assign rfl rfl) ?_
  refine OpsJ.nil ?_
  refine ExJ.thenN ?_
  refine CodeJ.seq ?_
  refine CodeJ.region ?_
  refine OpsJ.yld rfl rfl rfl (Yld.move rfl rfl) ?_
  refine OpsJ.yld rfl rfl rfl (Yld.move rfl rfl) ?_
  refine OpsJ.yld rfl rfl rfl (Yld.nilCheck rfl rfl) ?_
  refine OpsJ.yld rfl rfl rfl (Yld.fieldAddr fa_110_3 rfl rfl) ?_
  refine OpsJ.yld rfl rfl rfl (Yld.load1 rfl Tryd.underlying22 rfl rfl (fun w hI => hI.old (hcs.one (k := 3) rfl) hbb)) ?_
  refine OpsJ.op rfl ?_
  refine OpJ.call (packUint16_in an b off 6 cap (setCs cs off (bytesV (be16 id ++ be16 bits ++ be16 q))) (by omega) (by rw [setCs_sz _ _ _ f2]; omega)) has_92 rfl rfl rfl rfl rfl [0] [] (by decide) rfl rfl (fun _ _ => trivial) ?_
  rintro _ _ ⟨rfl, rfl⟩
  refine OpsJ.congrH (H' := [.blk b (setCs cs off (bytesV (be16 id ++ be16 bits ++ be16 q ++ be16 an))) 5]) (congrArg (fun c => [Res.blk b c 5]) (setCs_two cs off 6 (be16 id ++ be16 bits ++ be16 q) (be16 an) rfl (by simp [be16_len]; omega))) ?_
  refine OpsJ.yld rfl rfl rfl (Yld.assign rfl rfl) ?_
  refine OpsJ.nil ?_
  refine ExJ.thenN ?_
  refine CodeJ.seq ?_
  refine CodeJ.region ?_
  refine OpsJ.yld rfl rfl rfl (Yld.move rfl rfl) ?_
  refine OpsJ.yld rfl rfl rfl (Yld.move rfl rfl) ?_
  refine OpsJ.yld rfl rfl rfl (Yld.nilCheck rfl rfl) ?_
  refine OpsJ.yld rfl rfl rfl (Yld.fieldAddr fa_110_4 rfl rfl) ?_
  refine OpsJ.yld rfl rfl rfl (Yld.load1 rfl Tryd.underlying22 rfl rfl (fun w hI => hI.old (hcs.one (k := 4) rfl) hbb)) ?_
  refine OpsJ.op rfl ?_
  refine OpJ.call (packUint16_in au b off 8 cap (setCs cs off (bytesV (be16 id ++ be16 bits ++ be16 q ++ be16 an))) (by omega) (by rw [setCs_sz _ _ _ f3]; omega)) has_92 rfl rfl rfl rfl rfl [0] [] (by decide) rfl rfl (fun _ _ => trivial) ?_
  rintro _ _ ⟨rfl, rfl⟩
  refine OpsJ.congrH (H' := [.blk b (setCs cs off (bytesV (be16 id ++ be16 bits ++ be16 q ++ be16 an ++ be16 au))) 5]) (congrArg (fun c => [Res.blk b c 5]) (setCs_two cs off 8 (be16 id ++ be16 bits ++ be16 q ++ be16 an) (be16 au) rfl (by simp [be16_len]; omega))) ?_
  refine OpsJ.yld rfl rfl rfl (Yld.assign rfl rfl) ?_
  refine OpsJ.nil ?_
  refine ExJ.thenN ?_
  refine CodeJ.seq ?_
  refine CodeJ.region ?_
  refine OpsJ.yld rfl rfl rfl (Yld.move rfl rfl) ?_
  refine OpsJ.yld rfl rfl rfl (Yld.move rfl rfl) ?_
  refine OpsJ.yld rfl rfl rfl (Yld.nilCheck rfl rfl) ?_
  refine OpsJ.yld rfl rfl rfl (Yld.fieldAddr fa_110_5 rfl rfl) ?_
  refine OpsJ.yld rfl rfl rfl (Yld.load1 rfl Tryd.underlying22 rfl rfl (fun w hI => hI.old (hcs.one (k := 5) rfl) hbb)) ?_
  refine OpsJ.op rfl ?_
  refine OpJ.call (packUint16_in ad b off 10 cap (setCs cs off (bytesV (be16 id ++ be16 bits ++ be16 q ++ be16 an ++ be16 au))) (by omega) (by rw [setCs_sz _ _ _ f4]; omega)) has_92 rfl rfl rfl rfl rfl [0] [] (by decide) rfl rfl (fun _ _ => trivial) ?_
  rintro _ _ ⟨rfl, rfl⟩
  refine OpsJ.congrH (H' := [.blk b (setCs cs off (bytesV (be16 id ++ be16 bits ++ be16 q ++ be16 an ++ be16 au ++ be16 ad))) 5]) (congrArg (fun c => [Res.blk b c 5]) (setCs_two cs off 10 (be16 id ++ be16 bits ++ be16 q ++ be16 an ++ be16 au) (be16 ad) rfl (by simp [be16_len]; omega))) ?_
  refine OpsJ.yld rfl rfl rfl (Yld.assign rfl rfl) ?_
  refine OpsJ.nil ?_
  refine ExJ.thenN ?_
  refine CodeJ.ret ?_
  exact ExJ.ret1 Tryd.results82 rfl ⟨rfl, rfl⟩ fun w hI => hI
end Go.Proofs.YtamobccbioafmaaDoor

/-
  Contracts: Finish, NewBuilder.
-/
namespace Go.Proofs.YtamobccbioafmaaDoor
open Go
set_option maxRecDepth 100000

/-- the message at the end: its header is written over the bytes that were kept for it -/
def Bd.fin (b : Bd) : List UInt8 := b.buf.take b.start ++ hd12 b.id b.bits b.q b.an b.au b.ad ++ b.buf.drop (b.start + 12)
theorem hd12_len (id bits q an au ad : Nat) : (hd12 id bits q an au ad).length = 12 := rfl
theorem Bd.fin_len (b : Bd) (h : b.start + 12 ≤ b.buf.length) : b.fin.length = b.buf.length := by
  simp [Bd.fin, hd12_len]
  omega
theorem take_setCs (cs : Array Value) (bs ws : List UInt8) (k : Nat) (h : cs.toList.take bs.length = bytesV bs) (hk : k + ws.length ≤ bs.length) (_hc : bs.length ≤ cs.size) :
    (setCs cs k (bytesV ws)).toList.take bs.length = bytesV (bs.take k ++ ws ++ bs.drop (k + ws.length)) := by
  have e1 : cs.toList.take k = bytesV (bs.take k) := by
    have : (cs.toList.take bs.length).take k = (bytesV bs).take k := by rw [h]
    rw [List.take_take, Nat.min_eq_left (by omega)] at this
    rw [this]
    simp [bytesV]
  have e2 : (cs.toList.drop (k + ws.length)).take (bs.length - (k + ws.length)) = bytesV (bs.drop (k + ws.length)) := by
    have : (cs.toList.take bs.length).drop (k + ws.length) = (bytesV bs).drop (k + ws.length) := by rw [h]
    rw [List.drop_take] at this
    rw [this]
    simp [bytesV]
  simp only [setCs, bytesV_len]
  rw [e1]
  have hl : (bytesV (bs.take k) ++ bytesV ws).length = k + ws.length := by simp [bytesV_len]; omega
  rw [List.take_append, hl, e2, List.take_of_length_le (by omega)]
  simp [bytesV]

theorem finish_spec (b : Bd) (bb : Nat) (p : Option Addr) (c : Nat) (r : Option Nat) (h1 : 1 ≤ b.sec) (hst : b.start + 12 ≤ b.buf.length) :
    Spec Tryd.prog 58 [.pointer (some ⟨bb, 0, none⟩)] (bdR b bb p c r) (fun _ => True) (fun x H' => ∃ p' c', x = .tuple #[.slice p' b.fin.length c', .nilIface] ∧ H' = [ownB 5 (.slice p' b.fin.length c') b.fin]) := by
  refine Spec.of Tryd.func58 rfl Tryd.ntmps58 rfl fun w0 _ => ?_
  have hfl := b.fin_len hst
  refine CodeJ.openB (i := 1) rfl (fun h => by rw [h] at hst; simp at hst) fun b' cs hp hcs hcn htk => ?_
  subst hp
  refine CodeJ.seq ?_
  refine CodeJ.region ?_
  refine OpsJ.yld rfl rfl rfl (Yld.assign rfl rfl) ?_
  refine OpsJ.yld rfl rfl rfl (Yld.assign rfl rfl) ?_
  refine OpsJ.nil ?_
  refine ExJ.thenN ?_
  refine CodeJ.seq ?_
  refine CodeJ.seq ?_
  refine CodeJ.region ?_
  refine OpsJ.yld rfl rfl rfl (Yld.move rfl rfl) ?_
  refine OpsJ.yld rfl rfl rfl (Yld.nilCheck rfl rfl) ?_
  refine OpsJ.yld rfl rfl rfl (Yld.fieldAddr fa_113_1 rfl rfl) ?_
  refine OpsJ.yld rfl rfl rfl (Yld.load1 rfl Tryd.underlying108 rfl rfl (fun w hI => Inv.cell1 hI (i := 0) rfl rfl)) ?_
  refine OpsJ.yld rfl rfl rfl (Yld.intBin rfl rfl rfl rfl) ?_
  refine OpsJ.nil ?_
  refine ExJ.thenN ?_
  refine CodeJ.condP rfl (fun c8 => ?_) (fun c8 => ?_)
  · exact absurd c8 (by show ¬ ((b.sec : Int) < 1); omega)
  · refine CodeJ.skip ?_
    refine ExJ.thenN ?_
    refine CodeJ.seq ?_
    refine CodeJ.region ?_
    refine OpsJ.yld rfl rfl rfl (Yld.move rfl rfl) ?_
    refine OpsJ.yld rfl rfl rfl (Yld.nilCheck rfl rfl) ?_
    refine OpsJ.yld rfl rfl rfl (Yld.fieldAddr fa_113_1 rfl rfl) ?_
    refine OpsJ.op rfl ?_
    refine OpJ.store1 (i := 0) rfl rfl rfl rfl rfl sz_108 rfl rfl ?_
    refine OpsJ.nil ?_
    refine ExJ.thenN ?_
    refine CodeJ.seq ?_
    refine CodeJ.any (fuel := 17) (listed := #[false, false, false, false, false, false, false, false, false, false, false, false, false, false, false, false, false]) [0] rfl follows_mixed rfl rfl ?_
    refine AnyJ.take (fuel := 16) (listed' := #[true, false, false, false, false, false, false, false, false, false, false, false, false, false, false, false, false]) 0 rfl (by kernel_rfl) (by kernel_rfl) (by kernel_rfl) rfl rfl rfl rfl (Yld.move rfl rfl) (fun w hI => hI.pick (is := [0]) (by decide) rfl) ?_
    refine AnyJ.take (fuel := 15) (listed' := #[true, true, false, false, false, false, false, false, false, false, false, false, false, false, false, false, false]) 1 rfl (by kernel_rfl) (by kernel_rfl) (by kernel_rfl) rfl rfl rfl rfl (Yld.nilCheck rfl rfl) (fun w hI => hI.pick (is := [0]) (by decide) rfl) ?_
    refine AnyJ.take (fuel := 14) (listed' := #[true, true, true, false, false, false, false, false, false, false, false, false, false, false, false, false, false]) 2 rfl (by kernel_rfl) (by kernel_rfl) (by kernel_rfl) rfl rfl rfl rfl (Yld.fieldAddr fa_113_2 rfl rfl) (fun w hI => hI.pick (is := [0]) (by decide) rfl) ?_
    refine AnyJ.take (fuel := 13) (listed' := #[true, true, true, true, false, false, false, false, false, false, false, false, false, false, false, false, false]) 3 rfl (by kernel_rfl) (by kernel_rfl) (by kernel_rfl) rfl rfl rfl rfl (Yld.move rfl rfl) (fun w hI => hI.pick (is := [0]) (by decide) rfl) ?_
    refine AnyJ.take (fuel := 12) (listed' := #[true, true, true, true, true, false, false, false, false, false, false, false, false, false, false, false, false]) 4 rfl (by kernel_rfl) (by kernel_rfl) (by kernel_rfl) rfl rfl rfl rfl (Yld.nilCheck rfl rfl) (fun w hI => hI.pick (is := [0]) (by decide) rfl) ?_
    refine AnyJ.take (fuel := 11) (listed' := #[true, true, true, true, true, true, false, false, false, false, false, false, false, false, false, false, false]) 5 rfl (by kernel_rfl) (by kernel_rfl) (by kernel_rfl) rfl rfl rfl rfl (Yld.fieldAddr fa_113_0 rfl rfl) (fun w hI => hI.pick (is := [0]) (by decide) rfl) ?_
    refine AnyJ.take (fuel := 10) (listed' := #[true, true, true, true, true, true, true, false, false, false, false, false, false, false, false, false, false]) 6 rfl (by kernel_rfl) (by kernel_rfl) (by kernel_rfl) rfl rfl rfl rfl (Yld.load1 rfl Tryd.underlying31 rfl rfl (fun w hI => Inv.cell1 hI (i := 0) rfl rfl)) (fun w hI => hI.pick (is := [0]) (by decide) rfl) ?_
    refine AnyJ.take (fuel := 9) (listed' := #[true, true, true, true, true, true, true, true, false, false, false, false, false, false, false, false, false]) 7 rfl (by kernel_rfl) (by kernel_rfl) (by kernel_rfl) rfl rfl rfl rfl (Yld.move rfl rfl) (fun w hI => hI.pick (is := [0]) (by decide) rfl) ?_
    refine AnyJ.take (fuel := 8) (listed' := #[true, true, true, true, true, true, true, true, true, false, false, false, false, false, false, false, false]) 8 rfl (by kernel_rfl) (by kernel_rfl) (by kernel_rfl) rfl rfl rfl rfl (Yld.nilCheck rfl rfl) (fun w hI => hI.pick (is := [0]) (by decide) rfl) ?_
    refine AnyJ.take (fuel := 7) (listed' := #[true, true, true, true, true, true, true, true, true, true, false, false, false, false, false, false, false]) 9 rfl (by kernel_rfl) (by kernel_rfl) (by kernel_rfl) rfl rfl rfl rfl (Yld.fieldAddr fa_113_3 rfl rfl) (fun w hI => hI.pick (is := [0]) (by decide) rfl) ?_
    refine AnyJ.take (fuel := 6) (listed' := #[true, true, true, true, true, true, true, true, true, true, true, false, false, false, false, false, false]) 10 rfl (by kernel_rfl) (by kernel_rfl) (by kernel_rfl) rfl rfl rfl rfl (Yld.load1 rfl Tryd.underlying3 rfl rfl (fun w hI => Inv.cell1 hI (i := 0) rfl rfl)) (fun w hI => hI.pick (is := [0]) (by decide) rfl) ?_
    refine AnyJ.take (fuel := 5) (listed' := #[true, true, true, true, true, true, true, true, true, true, true, true, false, false, false, false, false]) 11 rfl (by kernel_rfl) (by kernel_rfl) (by kernel_rfl) rfl rfl rfl rfl (Yld.move rfl rfl) (fun w hI => hI.pick (is := [0]) (by decide) rfl) ?_
    refine AnyJ.take (fuel := 4) (listed' := #[true, true, true, true, true, true, true, true, true, true, true, true, true, false, false, false, false]) 12 rfl (by kernel_rfl) (by kernel_rfl) (by kernel_rfl) rfl rfl rfl rfl (Yld.nilCheck rfl rfl) (fun w hI => hI.pick (is := [0]) (by decide) rfl) ?_
    refine AnyJ.take (fuel := 3) (listed' := #[true, true, true, true, true, true, true, true, true, true, true, true, true, true, false, false, false]) 13 rfl (by kernel_rfl) (by kernel_rfl) (by kernel_rfl) rfl rfl rfl rfl (Yld.fieldAddr fa_113_3 rfl rfl) (fun w hI => hI.pick (is := [0]) (by decide) rfl) ?_
    refine AnyJ.take (fuel := 2) (listed' := #[true, true, true, true, true, true, true, true, true, true, true, true, true, true, true, false, false]) 14 rfl (by kernel_rfl) (by kernel_rfl) (by kernel_rfl) rfl rfl rfl rfl (Yld.load1 rfl Tryd.underlying3 rfl rfl (fun w hI => Inv.cell1 hI (i := 0) rfl rfl)) (fun w hI => hI.pick (is := [0]) (by decide) rfl) ?_
    refine AnyJ.take (fuel := 1) (listed' := #[true, true, true, true, true, true, true, true, true, true, true, true, true, true, true, true, false]) 15 rfl (by kernel_rfl) (by kernel_rfl) (by kernel_rfl) rfl rfl rfl rfl (Yld.sliceSl (lo := b.start) (hi := b.start) rfl Tryd.underlying31 sz_5 rfl rfl rfl (Nat.le_refl _) (by omega) (by omega)) (fun w hI => hI.pick (is := [0]) (by decide) rfl) ?_
    rw [Nat.sub_self]
    refine AnyJ.one (fuel := 0) 16 (by kernel_rfl) ?_
    refine StepJ.op (listed' := #[true, true, true, true, true, true, true, true, true, true, true, true, true, true, true, true, true]) rfl rfl rfl ?_
    refine OpJ.call (headPack_spec b.id b.bits b.q b.an b.au b.ad bb b' (0 + b.start) (c - b.start) cs (by omega) (by omega)) has_82 rfl rfl rfl rfl rfl [1] [0, 2] (by decide) rfl rfl (fun w hI => ⟨Inv.cells hI (i := 0) rfl (off := 2) rfl (Nat.le_of_ble_eq_true rfl), hI.apart (i := 0) rfl (is := [1]) (by decide) rfl bb (by simp [Res.ats])⟩) ?_
    rintro _ _ ⟨rfl, rfl⟩
    refine ⟨fun w hI => hI.pick (is := [1]) (by decide) rfl, ?_⟩
    refine AnyJ.done (by kernel_rfl) ?_
    refine ExJ.thenN ?_
    refine CodeJ.seq ?_
    refine CodeJ.region ?_
    refine OpsJ.yld rfl rfl rfl (Yld.move rfl rfl) ?_
    refine OpsJ.yld rfl rfl rfl (Yld.nilCheck rfl rfl) ?_
    refine OpsJ.yld rfl rfl rfl (Yld.fieldAddr fa_113_0 rfl rfl) ?_
    refine OpsJ.yld rfl rfl rfl (Yld.load1 rfl Tryd.underlying31 rfl rfl (fun w hI => Inv.cell1 hI (i := 1) rfl rfl)) ?_
    refine OpsJ.yld rfl rfl rfl (Yld.assign rfl rfl) ?_
    refine OpsJ.yld rfl rfl rfl (Yld.assign rfl rfl) ?_
    refine OpsJ.nil ?_
    refine ExJ.thenN ?_
    refine CodeJ.ret ?_
    refine ExJ.ret2 Tryd.results58 rfl rfl ⟨some ⟨b', 0, none⟩, c, by rw [hfl]; rfl, rfl⟩ fun w hI => ?_
    have hsz : (setCs cs (0 + b.start) (bytesV (hd12 b.id b.bits b.q b.an b.au b.ad))).size = c := by rw [setCs_sz _ _ _ (by rw [hd12_len]; omega), hcs]
    have htk2 := take_setCs cs b.buf (hd12 b.id b.bits b.q b.an b.au b.ad) (0 + b.start) htk (by rw [hd12_len]; omega) (by omega)
    have hJ := hI.shutB (i := 0) (bs := b.fin) rfl hsz (by omega) (by rw [hfl, htk2]; simp [Bd.fin, hd12_len])
    exact hJ.pick (is := [0]) (by decide) rfl
end Go.Proofs.YtamobccbioafmaaDoor

/-
  Contracts: NewBuilder.
-/
namespace Go.Proofs.YtamobccbioafmaaDoor
open Go
set_option maxRecDepth 100000

theorem CodeJ.nilB {P : Program} {Q : Exit → Act → World → Prop} {n : Nat} {w0 : World} {S : List Nat} {L : List (Nat × Value)} {H : List Res} {code : Code} {T : TypeId} {i c : Nat} {bs : List UInt8} (hi : H[i]? = some (ownB T (.slice none bs.length c) bs))
    (h : bs = [] → c = 0 → CodeJ P Q n w0 S code L H) : CodeJ P Q n w0 S code L H := fun a w hE hI => by
  have hr := (hI.hs _ (List.mem_of_getElem? hi)).1
  rcases hr with ⟨h0, h1, _⟩ | ⟨b, cap, cs, hv, _⟩
  · injection h0 with _ _ hc
    exact h (List.length_eq_zero_iff.1 h1) hc a w hE hI
  · injection hv with h1 _ _
    cases h1

def zero12 : List UInt8 := [0, 0, 0, 0, 0, 0, 0, 0, 0, 0, 0, 0]
def newB (pre : List UInt8) (h : Hd) : Bd := ⟨pre ++ zero12, pre.length, 1, h.id, h.bits, 0, 0, 0, 0, []⟩

theorem newBuilder_spec (pre : List UInt8) (p : Option Addr) (c : Nat) (h : Hd) (hw : h.wf) (hl : pre.length ≤ 158329674399744) :
    Spec Tryd.prog 47 [.slice p pre.length c, .agg (hdCs h).toArray] [ownB 5 (.slice p pre.length c) pre] (fun _ => True)
      (fun x H' => ∃ p' c', x = .agg (bdCs (newB pre h) p' c' none) ∧ H' = [ownB 5 (.slice p' (newB pre h).buf.length c') (newB pre h).buf]) := by
  refine Spec.of Tryd.func47 rfl Tryd.ntmps47 rfl fun w0 _ => ?_
  cases p with
  | none =>
    refine CodeJ.nilB (i := 0) rfl fun hp hc => ?_
    subst hp hc
    refine CodeJ.seq ?_
    refine CodeJ.region ?_
    refine OpsJ.op rfl ?_
    refine OpJ.box rfl rfl rfl rfl fun hd hhd => ?_
    refine OpsJ.op rfl ?_
    refine OpJ.alloc rfl rfl rfl zero_113 fun res hres => ?_
    refine OpsJ.nil ?_
    refine ExJ.thenN ?_
    refine CodeJ.seq ?_
    refine CodeJ.seq ?_
    refine CodeJ.region ?_
    refine OpsJ.yld rfl rfl rfl (Yld.move rfl rfl) ?_
    refine OpsJ.yld rfl rfl rfl (Yld.sliceEqNil rfl Tryd.underlying31 rfl) ?_
    refine OpsJ.nil ?_
    refine ExJ.thenN ?_
    refine CodeJ.condT rfl ?_
    refine CodeJ.region ?_
    refine OpsJ.op rfl ?_
    refine OpJ.makeB (c := 512) elt_31 rfl rfl rfl rfl rfl (by decide) fun msg hmsg => ?_
    refine OpsJ.yld rfl rfl rfl (Yld.assign rfl rfl) ?_
    refine OpsJ.nil ?_
    refine ExJ.thenN ?_
    refine CodeJ.seq ?_
    refine CodeJ.region ?_
    refine OpsJ.yld rfl rfl rfl (Yld.move rfl rfl) ?_
    refine OpsJ.yld rfl rfl rfl (Yld.move rfl rfl) ?_
    refine OpsJ.yld rfl rfl rfl (Yld.lenSlice rfl rfl rfl Tryd.underlying31 rfl) ?_
    refine OpsJ.yld rfl rfl rfl (Yld.build places_113 zero_113 rfl rfl rfl) ?_
    refine OpsJ.op rfl ?_
    refine OpJ.alloc rfl rfl rfl zero_113 fun bd hbd => ?_
    refine OpsJ.op rfl ?_
    refine OpJ.storeW (i := 0) rfl rfl rfl rfl sz_113 rfl rfl rfl ?_
    refine OpsJ.congrH (H' := [.blk bd (bdCs ⟨([] : List UInt8), ([] : List UInt8).length, 0, 0, 0, 0, 0, 0, 0, []⟩ (some ⟨msg, 0, none⟩) 512 none) 113, _, _, _, _]) rfl ?_
    refine OpsJ.nil ?_
    refine ExJ.thenN ?_
    refine CodeJ.seq ?_
    refine CodeJ.region ?_
    refine OpsJ.op rfl ?_
    refine OpJ.call (headerPack_spec h hw hd) has_78 rfl rfl rfl rfl rfl [] [0, 1, 2, 3, 4] (by decide) rfl rfl (fun w hI => Inv.whole hI (i := 3) rfl) ?_
    rintro _ _ ⟨rfl, rfl⟩
    refine OpsJ.yld rfl rfl rfl (Yld.move rfl rfl) ?_
    refine OpsJ.yld rfl rfl rfl (Yld.extract rfl rfl rfl) ?_
    refine OpsJ.yld rfl rfl rfl (Yld.extract rfl rfl rfl) ?_
    refine OpsJ.yld rfl rfl rfl (Yld.fieldAddr fa_113_2 rfl rfl) ?_
    refine OpsJ.yld rfl rfl rfl (Yld.fieldAddr fa_110_0 rfl rfl) ?_
    refine OpsJ.op rfl ?_
    refine OpJ.store1 (i := 0) rfl rfl rfl rfl rfl sz_22 rfl rfl ?_
    refine OpsJ.yld rfl rfl rfl (Yld.fieldAddr fa_113_2 rfl rfl) ?_
    refine OpsJ.yld rfl rfl rfl (Yld.fieldAddr fa_110_1 rfl rfl) ?_
    refine OpsJ.op rfl ?_
    refine OpJ.store1 (i := 0) rfl rfl rfl rfl rfl sz_22 rfl rfl ?_
    refine OpsJ.congrH (H' := [.blk bd (bdCs ⟨([] : List UInt8), ([] : List UInt8).length, 0, h.id, h.bits, 0, 0, 0, 0, []⟩ (some ⟨msg, 0, none⟩) 512 none) 113, _, _, _, _]) rfl ?_
    refine OpsJ.nil ?_
    refine ExJ.thenN ?_
    refine CodeJ.seq ?_
    refine CodeJ.region ?_
    refine OpsJ.op rfl ?_
    refine OpJ.alloc rfl rfl rfl zero_148 fun arr harr => ?_
    refine OpsJ.nil ?_
    refine ExJ.thenN ?_
    refine CodeJ.seq ?_
    refine CodeJ.any (fuel := 6) (listed := #[false, false, false, false, false, false]) [0] rfl follows_mixed rfl rfl ?_
    refine AnyJ.take (fuel := 5) (listed' := #[true, false, false, false, false, false]) 0 rfl (by kernel_rfl) (by kernel_rfl) (by kernel_rfl) rfl rfl rfl rfl (Yld.fieldAddr fa_113_0 rfl rfl) (fun w hI => hI.pick (is := [0]) (by decide) rfl) ?_
    refine AnyJ.take (fuel := 4) (listed' := #[true, false, true, false, false, false]) 2 rfl (by kernel_rfl) (by kernel_rfl) (by kernel_rfl) rfl rfl rfl rfl (Yld.sliceArrAll rfl Tryd.underlying148 sz_5 rfl) (fun w hI => hI.pick (is := [0]) (by decide) rfl) ?_
    refine AnyJ.one (fuel := 3) 1 (by kernel_rfl) ?_
    refine StepJ.op (listed' := #[true, true, true, false, false, false]) rfl rfl rfl ?_
    refine OpJ.yld rfl rfl (Yld.load1 rfl Tryd.underlying31 rfl rfl (fun w hI => Inv.cell1 hI (i := 1) rfl rfl)) ?_
    refine ⟨fun w hI => hI.pick (is := [0]) (by decide) rfl, ?_⟩
    refine AnyJ.one (fuel := 2) 3 (by kernel_rfl) ?_
    refine StepJ.op (listed' := #[true, true, true, true, false, false]) rfl rfl rfl ?_
    refine OpJ.appendO (i := 2) (bs := []) (news := zero12) elt_31 rfl rfl rfl rfl rfl rfl (fun w hI => Bytes.src (.inr ⟨arr, 0 + 0, 12, rfl, Inv.cells hI (i := 0) rfl rfl (Nat.le_of_ble_eq_true rfl)⟩) Tryd.underlying31) (by simp [zero12]) fun p25 c25 => ?_
    refine ⟨fun w hI => hI.pick (is := [0]) (by decide) rfl, ?_⟩
    refine AnyJ.take (fuel := 1) (listed' := #[true, true, true, true, true, false]) 4 rfl (by kernel_rfl) (by kernel_rfl) (by kernel_rfl) rfl rfl rfl rfl (Yld.fieldAddr fa_113_0 rfl rfl) (fun w hI => hI.pick (is := [0]) (by decide) rfl) ?_
    refine AnyJ.one (fuel := 0) 5 (by kernel_rfl) ?_
    refine StepJ.op (listed' := #[true, true, true, true, true, true]) rfl rfl rfl ?_
    refine OpJ.store1 (i := 1) rfl rfl rfl rfl rfl sz_31 rfl rfl ?_
    refine ⟨fun w hI => hI.pick (is := [0]) (by decide) rfl, ?_⟩
    refine AnyJ.done (by kernel_rfl) ?_
    refine ExJ.thenN ?_
    refine CodeJ.seq ?_
    refine CodeJ.region ?_
    refine OpsJ.yld rfl rfl rfl (Yld.fieldAddr fa_113_1 rfl rfl) ?_
    refine OpsJ.op rfl ?_
    refine OpJ.store1 (i := 1) rfl rfl rfl rfl rfl sz_108 rfl rfl ?_
    refine OpsJ.congrH (H' := [_, .blk bd (bdCs (newB [] h) p25 c25 none) 113, _, _, _, _]) rfl ?_
    refine OpsJ.nil ?_
    refine ExJ.thenN ?_
    refine CodeJ.seq ?_
    refine CodeJ.region ?_
    refine OpsJ.yld rfl rfl rfl (Yld.loadN (vs := (bdCs (newB [] h) p25 c25 none).toList) rfl Tryd.underlying113 rfl sz_113 rfl (fun w hI => Inv.cells hI (i := 1) rfl (off := 0) rfl (Nat.le_of_ble_eq_true rfl))) ?_
    refine OpsJ.op rfl ?_
    refine OpJ.storeW (i := 3) rfl rfl rfl rfl sz_113 rfl rfl rfl ?_
    refine OpsJ.nil ?_
    refine ExJ.thenN ?_
    refine CodeJ.ret ?_
    refine ExJ.retC (vs := (bdCs (newB [] h) p25 c25 none).toList) Tryd.results47 rfl Tryd.underlying113 rfl sz_113 (fun w hI => Inv.cells hI (i := 3) rfl rfl (Nat.le_of_ble_eq_true rfl)) ⟨p25, c25, rfl, rfl⟩ fun w hI => hI.pick (is := [2]) (by decide) rfl
  | some a =>
    refine CodeJ.seq ?_
    refine CodeJ.region ?_
    refine OpsJ.op rfl ?_
    refine OpJ.box rfl rfl rfl rfl fun hd hhd => ?_
    refine OpsJ.op rfl ?_
    refine OpJ.alloc rfl rfl rfl zero_113 fun res hres => ?_
    refine OpsJ.nil ?_
    refine ExJ.thenN ?_
    refine CodeJ.seq ?_
    refine CodeJ.seq ?_
    refine CodeJ.region ?_
    refine OpsJ.yld rfl rfl rfl (Yld.move rfl rfl) ?_
    refine OpsJ.yld rfl rfl rfl (Yld.sliceEqNil rfl Tryd.underlying31 rfl) ?_
    refine OpsJ.nil ?_
    refine ExJ.thenN ?_
    refine CodeJ.condF rfl ?_
    refine CodeJ.skip ?_
    refine ExJ.thenN ?_
    refine CodeJ.seq ?_
    refine CodeJ.region ?_
    refine OpsJ.yld rfl rfl rfl (Yld.move rfl rfl) ?_
    refine OpsJ.yld rfl rfl rfl (Yld.move rfl rfl) ?_
    refine OpsJ.yld rfl rfl rfl (Yld.lenSlice rfl rfl rfl Tryd.underlying31 rfl) ?_
    refine OpsJ.yld rfl rfl rfl (Yld.build places_113 zero_113 rfl rfl rfl) ?_
    refine OpsJ.op rfl ?_
    refine OpJ.alloc rfl rfl rfl zero_113 fun bd hbd => ?_
    refine OpsJ.op rfl ?_
    refine OpJ.storeW (i := 0) rfl rfl rfl rfl sz_113 rfl rfl rfl ?_
    refine OpsJ.congrH (H' := [.blk bd (bdCs ⟨pre, pre.length, 0, 0, 0, 0, 0, 0, 0, []⟩ (some a) c none) 113, _, _, _]) rfl ?_
    refine OpsJ.nil ?_
    refine ExJ.thenN ?_
    refine CodeJ.seq ?_
    refine CodeJ.region ?_
    refine OpsJ.op rfl ?_
    refine OpJ.call (headerPack_spec h hw hd) has_78 rfl rfl rfl rfl rfl [] [0, 1, 2, 3] (by decide) rfl rfl (fun w hI => Inv.whole hI (i := 2) rfl) ?_
    rintro _ _ ⟨rfl, rfl⟩
    refine OpsJ.yld rfl rfl rfl (Yld.move rfl rfl) ?_
    refine OpsJ.yld rfl rfl rfl (Yld.extract rfl rfl rfl) ?_
    refine OpsJ.yld rfl rfl rfl (Yld.extract rfl rfl rfl) ?_
    refine OpsJ.yld rfl rfl rfl (Yld.fieldAddr fa_113_2 rfl rfl) ?_
    refine OpsJ.yld rfl rfl rfl (Yld.fieldAddr fa_110_0 rfl rfl) ?_
    refine OpsJ.op rfl ?_
    refine OpJ.store1 (i := 0) rfl rfl rfl rfl rfl sz_22 rfl rfl ?_
    refine OpsJ.yld rfl rfl rfl (Yld.fieldAddr fa_113_2 rfl rfl) ?_
    refine OpsJ.yld rfl rfl rfl (Yld.fieldAddr fa_110_1 rfl rfl) ?_
    refine OpsJ.op rfl ?_
    refine OpJ.store1 (i := 0) rfl rfl rfl rfl rfl sz_22 rfl rfl ?_
    refine OpsJ.congrH (H' := [.blk bd (bdCs ⟨pre, pre.length, 0, h.id, h.bits, 0, 0, 0, 0, []⟩ (some a) c none) 113, _, _, _]) rfl ?_
    refine OpsJ.nil ?_
    refine ExJ.thenN ?_
    refine CodeJ.seq ?_
    refine CodeJ.region ?_
    refine OpsJ.op rfl ?_
    refine OpJ.alloc rfl rfl rfl zero_148 fun arr harr => ?_
    refine OpsJ.nil ?_
    refine ExJ.thenN ?_
    refine CodeJ.seq ?_
    refine CodeJ.any (fuel := 6) (listed := #[false, false, false, false, false, false]) [0] rfl follows_mixed rfl rfl ?_
    refine AnyJ.take (fuel := 5) (listed' := #[true, false, false, false, false, false]) 0 rfl (by kernel_rfl) (by kernel_rfl) (by kernel_rfl) rfl rfl rfl rfl (Yld.fieldAddr fa_113_0 rfl rfl) (fun w hI => hI.pick (is := [0]) (by decide) rfl) ?_
    refine AnyJ.take (fuel := 4) (listed' := #[true, false, true, false, false, false]) 2 rfl (by kernel_rfl) (by kernel_rfl) (by kernel_rfl) rfl rfl rfl rfl (Yld.sliceArrAll rfl Tryd.underlying148 sz_5 rfl) (fun w hI => hI.pick (is := [0]) (by decide) rfl) ?_
    refine AnyJ.one (fuel := 3) 1 (by kernel_rfl) ?_
    refine StepJ.op (listed' := #[true, true, true, false, false, false]) rfl rfl rfl ?_
    refine OpJ.yld rfl rfl (Yld.load1 rfl Tryd.underlying31 rfl rfl (fun w hI => Inv.cell1 hI (i := 1) rfl rfl)) ?_
    refine ⟨fun w hI => hI.pick (is := [0]) (by decide) rfl, ?_⟩
    refine AnyJ.one (fuel := 2) 3 (by kernel_rfl) ?_
    refine StepJ.op (listed' := #[true, true, true, true, false, false]) rfl rfl rfl ?_
    refine OpJ.appendO (i := 4) (bs := pre) (news := zero12) elt_31 rfl rfl rfl rfl rfl rfl (fun w hI => Bytes.src (.inr ⟨arr, 0 + 0, 12, rfl, Inv.cells hI (i := 0) rfl rfl (Nat.le_of_ble_eq_true rfl)⟩) Tryd.underlying31) (by simp [zero12]; omega) fun p25 c25 => ?_
    refine ⟨fun w hI => hI.pick (is := [0]) (by decide) rfl, ?_⟩
    refine AnyJ.take (fuel := 1) (listed' := #[true, true, true, true, true, false]) 4 rfl (by kernel_rfl) (by kernel_rfl) (by kernel_rfl) rfl rfl rfl rfl (Yld.fieldAddr fa_113_0 rfl rfl) (fun w hI => hI.pick (is := [0]) (by decide) rfl) ?_
    refine AnyJ.one (fuel := 0) 5 (by kernel_rfl) ?_
    refine StepJ.op (listed' := #[true, true, true, true, true, true]) rfl rfl rfl ?_
    refine OpJ.store1 (i := 1) rfl rfl rfl rfl rfl sz_31 rfl rfl ?_
    refine ⟨fun w hI => hI.pick (is := [0]) (by decide) rfl, ?_⟩
    refine AnyJ.done (by kernel_rfl) ?_
    refine ExJ.thenN ?_
    refine CodeJ.seq ?_
    refine CodeJ.region ?_
    refine OpsJ.yld rfl rfl rfl (Yld.fieldAddr fa_113_1 rfl rfl) ?_
    refine OpsJ.op rfl ?_
    refine OpJ.store1 (i := 1) rfl rfl rfl rfl rfl sz_108 rfl rfl ?_
    refine OpsJ.congrH (H' := [_, .blk bd (bdCs (newB pre h) p25 c25 none) 113, _, _, _]) rfl ?_
    refine OpsJ.nil ?_
    refine ExJ.thenN ?_
    refine CodeJ.seq ?_
    refine CodeJ.region ?_
    refine OpsJ.yld rfl rfl rfl (Yld.loadN (vs := (bdCs (newB pre h) p25 c25 none).toList) rfl Tryd.underlying113 rfl sz_113 rfl (fun w hI => Inv.cells hI (i := 1) rfl (off := 0) rfl (Nat.le_of_ble_eq_true rfl))) ?_
    refine OpsJ.op rfl ?_
    refine OpJ.storeW (i := 2) rfl rfl rfl rfl sz_113 rfl rfl rfl ?_
    refine OpsJ.nil ?_
    refine ExJ.thenN ?_
    refine CodeJ.ret ?_
    refine ExJ.retC (vs := (bdCs (newB pre h) p25 c25 none).toList) Tryd.results47 rfl Tryd.underlying113 rfl sz_113 (fun w hI => Inv.cells hI (i := 2) rfl rfl (Nat.le_of_ble_eq_true rfl)) ⟨p25, c25, rfl, rfl⟩ fun w hI => hI.pick (is := [4]) (by decide) rfl
end Go.Proofs.YtamobccbioafmaaDoor

/-
  Contracts: resourceHeaderOf, none.
-/
namespace Go.Proofs.YtamobccbioafmaaDoor
open Go
set_option maxRecDepth 100000

/-- a ResourceHeader -/
def rhCs (l : List UInt8) (typ cls ttl len : Nat) : List Value := nameCs l ++ [.int .u16 typ, .int .u16 cls, .int .u32 ttl, .int .u16 len]
theorem rhCs_flat (l : List UInt8) (typ cls ttl len : Nat) : flat [Value.agg (nameCs l).toArray, .int .u16 typ, .int .u16 cls, .int .u32 ttl, .int .u16 len] = rhCs l typ cls ttl len := by simp [flat, rhCs, Value.cells]
theorem rhCs_len (l : List UInt8) (h : l.length ≤ 255) (typ cls ttl len : Nat) : (rhCs l typ cls ttl len).length = 260 := by simp [rhCs, nameCs_len l h]
theorem rhCs_one (l : List UInt8) (typ cls ttl len : Nat) : oneCells (rhCs l typ cls ttl len) = true := by
  have := nameCs_one l
  simp only [oneCells, rhCs, List.all_append] at this ⊢
  rw [this]
  rfl

theorem resourceHeaderOf_spec (x : RecD) : Spec Tryd.prog 57 [.agg x.cells.toArray] [] (fun _ => True) (fun r H' => r = .agg (rhCs (cut255 x.name) x.typ x.cls x.ttl x.len).toArray ∧ H' = []) := by
  refine Spec.of Tryd.func57 rfl Tryd.ntmps57 rfl fun w0 _ => ?_
  have hl := cut255_len x.name
  have hsz := nameCs_len (cut255 x.name) hl
  have hfl := rhCs_flat (cut255 x.name) x.typ x.cls x.ttl x.len
  have hq := rhCs_len (cut255 x.name) hl x.typ x.cls x.ttl x.len
  have hone := rhCs_one (cut255 x.name) x.typ x.cls x.ttl x.len
  refine CodeJ.seq ?_
  refine CodeJ.region ?_
  refine OpsJ.op rfl ?_
  refine OpJ.box rfl rfl rfl rfl fun ab hab => ?_
  refine OpsJ.op rfl ?_
  refine OpJ.alloc rfl rfl rfl zero_67 fun res hres => ?_
  refine OpsJ.nil ?_
  refine ExJ.thenN ?_
  refine CodeJ.seq ?_
  refine CodeJ.any (fuel := 13) (listed := #[false, false, false, false, false, false, false, false, false, false, false, false, false]) [1] rfl follows_mixed rfl rfl ?_
  refine AnyJ.take (fuel := 12) (listed' := #[true, false, false, false, false, false, false, false, false, false, false, false, false]) 0 rfl (by kernel_rfl) (by kernel_rfl) (by kernel_rfl) rfl rfl rfl rfl (Yld.fieldAddr fa_35_0 rfl rfl) (fun w hI => hI.pick (is := [1]) (by decide) rfl) ?_
  refine AnyJ.take (fuel := 11) (listed' := #[true, true, false, false, false, false, false, false, false, false, false, false, false]) 1 rfl (by kernel_rfl) (by kernel_rfl) (by kernel_rfl) rfl rfl rfl rfl (Yld.load1 rfl Tryd.underlying9 rfl rfl (fun w hI => Inv.cell1 hI (i := 0) rfl rfl)) (fun w hI => hI.pick (is := [1]) (by decide) rfl) ?_
  refine AnyJ.take (fuel := 10) (listed' := #[true, true, false, true, false, false, false, false, false, false, false, false, false]) 3 rfl (by kernel_rfl) (by kernel_rfl) (by kernel_rfl) rfl rfl rfl rfl (Yld.fieldAddr fa_35_1 rfl rfl) (fun w hI => hI.pick (is := [1]) (by decide) rfl) ?_
  refine AnyJ.take (fuel := 9) (listed' := #[true, true, false, true, true, false, false, false, false, false, false, false, false]) 4 rfl (by kernel_rfl) (by kernel_rfl) (by kernel_rfl) rfl rfl rfl rfl (Yld.load1 rfl Tryd.underlying22 rfl rfl (fun w hI => Inv.cell1 hI (i := 0) rfl rfl)) (fun w hI => hI.pick (is := [1]) (by decide) rfl) ?_
  refine AnyJ.take (fuel := 8) (listed' := #[true, true, false, true, true, true, false, false, false, false, false, false, false]) 5 rfl (by kernel_rfl) (by kernel_rfl) (by kernel_rfl) rfl rfl rfl rfl (Yld.fieldAddr fa_35_2 rfl rfl) (fun w hI => hI.pick (is := [1]) (by decide) rfl) ?_
  refine AnyJ.take (fuel := 7) (listed' := #[true, true, false, true, true, true, true, false, false, false, false, false, false]) 6 rfl (by kernel_rfl) (by kernel_rfl) (by kernel_rfl) rfl rfl rfl rfl (Yld.load1 rfl Tryd.underlying22 rfl rfl (fun w hI => Inv.cell1 hI (i := 0) rfl rfl)) (fun w hI => hI.pick (is := [1]) (by decide) rfl) ?_
  refine AnyJ.take (fuel := 6) (listed' := #[true, true, false, true, true, true, true, true, false, false, false, false, false]) 7 rfl (by kernel_rfl) (by kernel_rfl) (by kernel_rfl) rfl rfl rfl rfl (Yld.fieldAddr fa_35_3 rfl rfl) (fun w hI => hI.pick (is := [1]) (by decide) rfl) ?_
  refine AnyJ.take (fuel := 5) (listed' := #[true, true, false, true, true, true, true, true, true, false, false, false, false]) 8 rfl (by kernel_rfl) (by kernel_rfl) (by kernel_rfl) rfl rfl rfl rfl (Yld.load1 rfl Tryd.underlying30 rfl rfl (fun w hI => Inv.cell1 hI (i := 0) rfl rfl)) (fun w hI => hI.pick (is := [1]) (by decide) rfl) ?_
  refine AnyJ.take (fuel := 4) (listed' := #[true, true, false, true, true, true, true, true, true, true, false, false, false]) 9 rfl (by kernel_rfl) (by kernel_rfl) (by kernel_rfl) rfl rfl rfl rfl (Yld.fieldAddr fa_35_4 rfl rfl) (fun w hI => hI.pick (is := [1]) (by decide) rfl) ?_
  refine AnyJ.take (fuel := 3) (listed' := #[true, true, false, true, true, true, true, true, true, true, true, false, false]) 10 rfl (by kernel_rfl) (by kernel_rfl) (by kernel_rfl) rfl rfl rfl rfl (Yld.load1 rfl Tryd.underlying22 rfl rfl (fun w hI => Inv.cell1 hI (i := 0) rfl rfl)) (fun w hI => hI.pick (is := [1]) (by decide) rfl) ?_
  refine AnyJ.one (fuel := 2) 2 (by kernel_rfl) ?_
  refine StepJ.op (listed' := #[true, true, true, true, true, true, true, true, true, true, true, false, false]) rfl rfl rfl ?_
  refine OpJ.call (nameOf_spec x.name) has_73 rfl rfl rfl rfl rfl [] [0, 1] (by decide) rfl rfl (fun _ _ => trivial) ?_
  rintro _ _ ⟨rfl, rfl⟩
  refine ⟨fun w hI => hI.pick (is := [1]) (by decide) rfl, ?_⟩
  refine AnyJ.take (fuel := 1) (listed' := #[true, true, true, true, true, true, true, true, true, true, true, true, false]) 11 rfl (by kernel_rfl) (by kernel_rfl) (by kernel_rfl) rfl rfl rfl rfl (Yld.buildAll places_67 zero_67 rfl rfl ⟨by show _ = some (0, (nameCs (cut255 x.name)).toArray.size); rw [List.size_toArray, hsz]; rfl, by show _ = some (0 + (nameCs (cut255 x.name)).toArray.size, 1); rw [List.size_toArray, hsz]; rfl, by show _ = some (0 + (nameCs (cut255 x.name)).toArray.size + 1, 1); rw [List.size_toArray, hsz]; rfl, by show _ = some (0 + (nameCs (cut255 x.name)).toArray.size + 1 + 1, 1); rw [List.size_toArray, hsz]; rfl, by show _ = some (0 + (nameCs (cut255 x.name)).toArray.size + 1 + 1 + 1, 1); rw [List.size_toArray, hsz]; rfl, trivial⟩ (by show (flat [Value.agg (nameCs (cut255 x.name)).toArray, .int .u16 x.typ, .int .u16 x.cls, .int .u32 x.ttl, .int .u16 x.len]).length = _; rw [hfl, hq]; rfl)) (fun w hI => hI.pick (is := [1]) (by decide) rfl) ?_
  refine AnyJ.one (fuel := 0) 12 (by kernel_rfl) ?_
  refine StepJ.op (listed' := #[true, true, true, true, true, true, true, true, true, true, true, true, true]) rfl rfl rfl ?_
  refine OpJ.storeW (i := 0) rfl rfl rfl rfl (by show _ = some (flat [Value.agg (nameCs (cut255 x.name)).toArray, .int .u16 x.typ, .int .u16 x.cls, .int .u32 x.ttl, .int .u16 x.len]).toArray.size; rw [hfl, List.size_toArray, hq]; exact sz_67) rfl (by show oneCells (flat [Value.agg (nameCs (cut255 x.name)).toArray, .int .u16 x.typ, .int .u16 x.cls, .int .u32 x.ttl, .int .u16 x.len]) = true; rw [hfl]; exact hone) (by show (flat [Value.agg (nameCs (cut255 x.name)).toArray, .int .u16 x.typ, .int .u16 x.cls, .int .u32 x.ttl, .int .u16 x.len]).toArray.size = _; rw [hfl, List.size_toArray, hq]; rfl) ?_
  refine ⟨fun w hI => hI.pick (is := [1]) (by decide) rfl, ?_⟩
  refine AnyJ.done (by kernel_rfl) ?_
  refine ExJ.thenN ?_
  refine CodeJ.ret ?_
  refine ExJ.retC (vs := flat [Value.agg (nameCs (cut255 x.name)).toArray, .int .u16 x.typ, .int .u16 x.cls, .int .u32 x.ttl, .int .u16 x.len]) Tryd.results57 rfl Tryd.underlying67 rfl (by rw [hfl, hq]; exact sz_67) (fun w hI => Inv.whole hI (i := 0) rfl) ⟨by rw [hfl], rfl⟩ fun w hI => hI.pick (is := []) (by decide) rfl
end Go.Proofs.YtamobccbioafmaaDoor

/-
  What the steps of a builder do, in plain terms.
-/
namespace Go.Proofs.YtamobccbioafmaaDoor
open Go

structure StepD where
  act : Nat
  ask : AskD
  rec_ : RecD
def StepD.cells (s : StepD) : List Value := [.int .i64 s.act, .string s.ask.name, .int .u16 s.ask.typ, .int .u16 s.ask.cls] ++ s.rec_.cells
theorem StepD.len (s : StepD) : s.cells.length = 20 := rfl

/-- what adds a record does: 'ok': when it is spoken of; 'eff': the builder behind it, and the fault -/
structure Adder where
  ok : RecD → Bool → Bd → Prop
  eff : RecD → Bool → Bd → Bd × Nat

/-- a question -/
def askF (a : AskD) (on : Bool) (b : Bd) : Bd × Nat :=
  if b.sec < 2 then (b, 1)
  else match packQ (b.buf.length - b.start) on (cut255 a.name) a.typ a.cls b.m with
    | .ok ys m' => ({ b with buf := b.buf ++ ys, q := b.q + 1, m := m' }, 0)
    | .err m' => ({ b with m := m' }, 3)
def stepF (A : Adder) (s : StepD) (on : Bool) (b : Bd) : Bool × Bd × Nat :=
  if s.act = 1 then (true, { b with m := [] }, 0)
  else if s.act = 2 then (on, { b with sec := 2 }, 0)
  else if s.act = 3 then (on, { b with sec := 3 }, 0)
  else if s.act = 4 then (on, { b with sec := 4 }, 0)
  else if s.act = 5 then (on, { b with sec := 5 }, 0)
  else if s.act = 6 then (on, askF s.ask on b)
  else if s.act = 7 then (on, A.eff s.rec_ on b)
  else (on, b, 0)

structure BdOk (b : Bd) : Prop where
  sec : 1 ≤ b.sec
  start : b.start + 12 ≤ b.buf.length
  big : b.buf.length ≤ 158329674399744 - 1024
  small : ∀ x ∈ b.m, x.2 < 65536
structure StepOk (A : Adder) (s : StepD) (on : Bool) (b : Bd) : Prop where
  bd : BdOk b
  sec : 2 ≤ s.act → s.act ≤ 5 → b.sec ≤ s.act
  ask : s.act = 6 → b.sec < 2 ∨ (b.sec = 2 ∧ b.q < 65535 ∧ PName (cut255 s.ask.name))
  rec_ : s.act = 7 → A.ok s.rec_ on b

def RunOk (A : Adder) : List StepD → Bool → Bd → Prop
  | [], _, b => BdOk b
  | s :: r, on, b => StepOk A s on b ∧ RunOk A r (stepF A s on b).1 (stepF A s on b).2.1
def runF (A : Adder) : List StepD → Bool → Bd → Bd × List Nat
  | [], _, b => (b, [])
  | s :: r, on, b => ((runF A r (stepF A s on b).1 (stepF A s on b).2.1).1, (stepF A s on b).2.2 :: (runF A r (stepF A s on b).1 (stepF A s on b).2.1).2)

/-- what an error says -/
def ErrIs (G : GEnv) (y : Value) (f : Nat) : Prop :=
  (f = 0 ∧ y = .nilIface) ∨ (f = 1 ∧ y = .iface 183 (.pointer (some (G 0)))) ∨ (f = 3 ∧ ∃ a, y = .iface 155 (.pointer (some a)))
theorem faultOf_spec (G : GEnv) (y : Value) (f : Nat) (h : ErrIs G y f) : Spec Tryd.prog 50 [y] [] (fun w => GE G w []) (fun r H' => r = .int .i64 f ∧ H' = []) := by
  rcases h with ⟨rfl, rfl⟩ | ⟨rfl, rfl⟩ | ⟨rfl, a, rfl⟩
  · exact faultOf_nil G
  · exact faultOf_early G
  · exact faultOf_nested G a

theorem question_spec (G : GEnv) (a : AskD) (on : Bool) (b : Bd) (hb : BdOk b) (ha : b.sec < 2 ∨ (b.sec = 2 ∧ b.q < 65535 ∧ PName (cut255 a.name))) (bb : Nat) (p : Option Addr) (c : Nat) (r : Option Nat) (hr : r.isSome = on) :
    Spec Tryd.prog 55 [.pointer (some ⟨bb, 0, none⟩), .agg (questCs (cut255 a.name) a.typ a.cls).toArray] (bdR b bb p c r) (fun w => GE G w (fp (bdR b bb p c r)))
      (fun y H' => ErrIs G y (askF a on b).2 ∧ ∃ p' c', H' = bdR (askF a on b).1 bb p' c' r) := by
  subst hr
  rcases ha with ha | ⟨h2, hq, hn⟩
  · have e : askF a r.isSome b = (b, 1) := by simp [askF, ha]
    rw [e]
    exact (question_early G b _ a.typ a.cls bb p c r ha).mono (fun _ h => h) fun v H' ⟨h1, h2⟩ => ⟨.inr (.inl ⟨rfl, h1⟩), p, c, h2⟩
  · obtain ⟨buf, start, sec, id, bits, q, an, au, ad, m⟩ := b
    simp only at h2
    subst h2
    have hst := hb.start
    have hbig := hb.big
    simp only at hst hbig
    cases hp : packQ (buf.length - start) r.isSome (cut255 a.name) a.typ a.cls m with
    | ok ys m' =>
      have e : askF a r.isSome ⟨buf, start, 2, id, bits, q, an, au, ad, m⟩ = (⟨buf ++ ys, start, 2, id, bits, q + 1, an, au, ad, m'⟩, 0) := by simp [askF, hp]
      rw [e]
      exact (question_ok G buf start id bits q an au ad m _ hn a.typ a.cls bb p c r hq (by omega) hbig hb.small ys m' hp).mono (fun _ h => h) fun v H' ⟨h1, h2⟩ => ⟨.inl ⟨rfl, h1⟩, h2⟩
    | err m' =>
      have e : askF a r.isSome ⟨buf, start, 2, id, bits, q, an, au, ad, m⟩ = (⟨buf, start, 2, id, bits, q, an, au, ad, m'⟩, 3) := by simp [askF, hp]
      rw [e]
      exact (question_err G buf start id bits q an au ad m _ hn a.typ a.cls bb p c r (by omega) hbig hb.small m' hp).mono (fun _ h => h) fun v H' ⟨h1, h2⟩ => ⟨.inr (.inr ⟨rfl, h1⟩), p, c, h2⟩

/-- with the error variables as G tells -/
def Adder.MeetsG (A : Adder) (G : GEnv) (f : FuncId) : Prop := ∀ (x : RecD) (on : Bool) (b : Bd) (bb : Nat) (p : Option Addr) (c : Nat) (r : Option Nat), A.ok x on b → BdOk b → r.isSome = on →
  Spec Tryd.prog f [.pointer (some ⟨bb, 0, none⟩), .agg (rhCs (cut255 x.name) x.typ x.cls x.ttl x.len).toArray, .agg x.cells.toArray] (bdR b bb p c r)
    (fun w => GE G w (fp (bdR b bb p c r)) ∧ ∃ w1, RecOk w1 x ∧ Keep [] w1 w ∧ ∀ k ∈ fp (bdR b bb p c r), w1.heap.size ≤ k)
    (fun y H' => ErrIs G y (A.eff x on b).2 ∧ ∃ p' c', H' = bdR (A.eff x on b).1 bb p' c' r)
def Adder.Meets (A : Adder) (f : FuncId) : Prop := ∀ G : GEnv, A.MeetsG G f

/-- no records -/
def noAdder : Adder := ⟨fun _ _ _ => True, fun _ _ b => (b, 0)⟩
end Go.Proofs.YtamobccbioafmaaDoor

/-
  Contract: run.
-/
namespace Go.Proofs.YtamobccbioafmaaDoor
open Go
set_option maxRecDepth 100000

theorem CodeJ.addNil {P : Program} {Q : Exit → Act → World → Prop} {n : Nat} {w0 : World} {S : List Nat} {L : List (Nat × Value)} {H : List Res} {code : Code} {T : TypeId} (h : CodeJ P Q n w0 S code L (ownB T (.slice none 0 0) [] :: H)) : CodeJ P Q n w0 S code L H := fun a w hE hI => by
  refine h a w hE ⟨hI.keep, fun r hr => ?_, List.pairwise_cons.2 ⟨fun s _ b hb => ?_, hI.dj⟩, fun r hr b hb => ?_⟩
  · rcases List.mem_cons.1 hr with rfl | hr
    · exact ⟨.inl ⟨rfl, rfl, rfl⟩, .inl ⟨rfl, rfl, rfl⟩, Nat.le_refl _⟩
    · exact hI.hs r hr
  · simp [ownB, own, Res.ats, blkOf] at hb
  · rcases List.mem_cons.1 hr with rfl | hr
    · simp [ownB, own, Res.ats, blkOf] at hb
    · exact hI.rng r hr b hb

theorem CodeJ.addNilI {P : Program} {Q : Exit → Act → World → Prop} {n : Nat} {w0 : World} {S : List Nat} {L : List (Nat × Value)} {H : List Res} {code : Code} {T : TypeId} (h : CodeJ P Q n w0 S code L (ownI T (.slice none 0 0) [] :: H)) : CodeJ P Q n w0 S code L H := CodeJ.addNil h
theorem CodeJ.addMp {P : Program} {Q : Exit → Act → World → Prop} {n : Nat} {w0 : World} {S : List Nat} {L : List (Nat × Value)} {H : List Res} {code : Code} (h : CodeJ P Q n w0 S code L (.mp none (kvV []) :: H)) : CodeJ P Q n w0 S code L H := fun a w hE hI => by
  refine h a w hE ⟨hI.keep, fun r hr => ?_, List.pairwise_cons.2 ⟨fun s _ b hb => ?_, hI.dj⟩, fun r hr b hb => ?_⟩
  · rcases List.mem_cons.1 hr with rfl | hr
    · exact rfl
    · exact hI.hs r hr
  · simp [Res.ats] at hb
  · rcases List.mem_cons.1 hr with rfl | hr
    · simp [Res.ats] at hb
    · exact hI.rng r hr b hb
theorem StepD.one {w : World} {s : StepD} (h : RecOk w s.rec_) : oneCells s.cells = true := by
  have := h.one
  simp only [oneCells, StepD.cells, List.all_append, Value.cells] at this ⊢
  rw [this]
  rfl

theorem Inv.fresh {w0 w : World} {H Hp : List Res} (hI : Inv w0 (fp []) H w) {is : List Nat} (hp : Proofs.YtamobccbioafmaaDoor.pick H is = some Hp) : ∀ b ∈ fp Hp, w0.heap.size ≤ b := fun b hb => by
  obtain ⟨r, hr, hbr⟩ := List.mem_flatMap.1 hb
  obtain ⟨i, _, hi⟩ := pick_mem hp r hr
  rcases hI.rng r (List.mem_of_getElem? hi) b hbr with h | h
  · simp [fp] at h
  · exact h

/-- what run is given -/
structure RunIn (G : GEnv) (bufV : Value) (pre : List UInt8) (stepsV : Value) (ss : List StepD) (w : World) : Prop where
  ge : GE G w []
  buf : Bytes w bufV pre
  row : Row w 20 stepsV ss.length (ss.map StepD.cells).flatten
  rec_ : ∀ s ∈ ss, RecOk w s.rec_
/-- what run returns -/
def RunPost (d : List UInt8) (fs : List Nat) (x : Value) (H' : List Res) : Prop :=
  ∃ p c p2 c2, x = .agg #[.slice p fs.length c, .slice p2 d.length c2, .int .i64 0] ∧ H' = [ownI 3 (.slice p fs.length c) fs, ownB 5 (.slice p2 d.length c2) d]

theorem run_specG (A : Adder) (f : FuncId) (hf : Has Tryd.prog f) (G : GEnv) (hA : A.MeetsG G f) (h : Hd) (hw : h.wf) (pre : List UInt8) (bufV stepsV : Value) (ss : List StepD) (hn : ss.length ≤ 1099511627776) (hpre : pre.length ≤ 140737488355328) (hok : RunOk A ss false (newB pre h)) :
    Spec Tryd.prog 26 [bufV, .agg (hdCs h).toArray, stepsV, .func (.func f) #[] #[]] [] (RunIn G bufV pre stepsV ss) (RunPost (runF A ss false (newB pre h)).1.fin (runF A ss false (newB pre h)).2) := by
  refine Spec.of Tryd.func26 rfl Tryd.ntmps26 rfl fun w0 hR => ?_
  obtain ⟨hge, hbuf, hrow, hrec⟩ := hR
  obtain ⟨ps, cs, rfl⟩ := hrow.shape
  refine CodeJ.addNil (T := 5) ?_
  refine CodeJ.addNilI (T := 3) ?_
  refine CodeJ.addMp ?_
  refine CodeJ.seq ?_
  refine CodeJ.region ?_
  refine OpsJ.op rfl ?_
  refine OpJ.box rfl rfl rfl rfl fun hd hhd => ?_
  refine OpsJ.op rfl ?_
  refine OpJ.alloc rfl rfl rfl zero_47 fun res hres => ?_
  refine OpsJ.nil ?_
  refine ExJ.thenN ?_
  refine CodeJ.cutP (fun L H => ∃ (p : Option Addr) (c bb rb : Nat), L = [(2, .slice ps ss.length cs), (3, .func (.func f) #[] #[]), (8, .pointer (some ⟨rb, 0, none⟩)), (9, .pointer (some ⟨bb, 0, none⟩))] ∧ H = bdR (newB pre h) bb p c none ++ [ownI 3 (.slice none 0 0) [], .blk rb #[.slice none 0 0, .slice none 0 0, .int .i64 0] 47]) ?_ ?_
  · refine CodeJ.any (fuel := 7) (listed := #[false, false, false, false, false, false, false]) [1] rfl follows_mixed rfl rfl ?_
    refine AnyJ.take (fuel := 6) (listed' := #[true, false, false, false, false, false, false]) 0 rfl (by kernel_rfl) (by kernel_rfl) (by kernel_rfl) rfl rfl rfl rfl (Yld.move rfl rfl) (fun w hI => hI.pick (is := [1]) (by decide) rfl) ?_
    refine AnyJ.take (fuel := 5) (listed' := #[true, false, true, false, false, false, false]) 2 rfl (by kernel_rfl) (by kernel_rfl) (by kernel_rfl) rfl rfl rfl rfl (Yld.loadN (vs := hdCs h) rfl Tryd.underlying24 rfl sz_24 rfl (fun w hI => Inv.whole hI (i := 0) rfl)) (fun w hI => hI.pick (is := [1]) (by decide) rfl) ?_
    refine AnyJ.two (fuel := 4) 1 5 (by kernel_rfl) ?_ ?_
    · refine StepJ.op (listed' := #[true, true, true, false, false, false, false]) rfl rfl rfl ?_
      refine OpJ.appendO (i := 4) (news := pre) elt_31 rfl rfl rfl rfl rfl rfl (fun w hI => Bytes.src (hbuf.keep hI.keep (by simp [fp])) Tryd.underlying31) (by simp; omega) fun p17 c17 => ?_
      refine ⟨fun w hI => hI.pick (is := [1]) (by decide) rfl, ?_⟩
      refine AnyJ.two (fuel := 3) 3 5 (by kernel_rfl) ?_ ?_
      · refine StepJ.op (listed' := #[true, true, true, true, false, false, false]) rfl rfl rfl ?_
        refine OpJ.call (headerOf_spec h) has_48 rfl rfl rfl rfl rfl [] [0, 1, 2, 3, 4] (by decide) rfl rfl (fun _ _ => trivial) ?_
        rintro _ _ ⟨rfl, rfl⟩
        refine ⟨fun w hI => hI.pick (is := [1]) (by decide) rfl, ?_⟩
        refine AnyJ.two (fuel := 2) 4 5 (by kernel_rfl) ?_ ?_
        · refine StepJ.op (listed' := #[true, true, true, true, true, false, false]) rfl rfl rfl ?_
          refine OpJ.call (newBuilder_spec pre p17 c17 h hw (by omega)) has_47 rfl rfl rfl rfl rfl [4] [0, 1, 2, 3] (by decide) rfl rfl (fun _ _ => trivial) ?_
          rintro _ _ ⟨p20, c20, rfl, rfl⟩
          refine ⟨fun w hI => hI.pick (is := [2]) (by decide) rfl, ?_⟩
          refine AnyJ.one (fuel := 1) 5 (by kernel_rfl) ?_
          refine StepJ.op (listed' := #[true, true, true, true, true, true, false]) rfl rfl rfl ?_
          refine OpJ.alloc rfl rfl rfl zero_113 fun bd hbd => ?_
          refine ⟨fun w hI => hI.pick (is := [3]) (by decide) rfl, ?_⟩
          refine AnyJ.one (fuel := 0) 6 (by kernel_rfl) ?_
          refine StepJ.op (listed' := #[true, true, true, true, true, true, true]) rfl rfl rfl ?_
          refine OpJ.storeW (i := 0) rfl rfl rfl rfl sz_113 rfl rfl rfl ?_
          refine ⟨fun w hI => hI.pick (is := [3]) (by decide) rfl, ?_⟩
          refine AnyJ.done (by kernel_rfl) ?_
          exact ExJ.meetP ⟨p20, c20, bd, res, rfl, rfl⟩ ⟨rfl, rfl, rfl, rfl, trivial⟩ fun w hI => hI.pick (is := [0, 1, 4, 5, 2]) (by decide) rfl
        · refine StepJ.op (listed' := #[true, true, true, true, false, true, false]) rfl rfl rfl ?_
          refine OpJ.alloc rfl rfl rfl zero_113 fun bd hbd => ?_
          refine ⟨fun w hI => hI.pick (is := [2]) (by decide) rfl, ?_⟩
          refine AnyJ.one (fuel := 1) 4 (by kernel_rfl) ?_
          refine StepJ.op (listed' := #[true, true, true, true, true, true, false]) rfl rfl rfl ?_
          refine OpJ.call (newBuilder_spec pre p17 c17 h hw (by omega)) has_47 rfl rfl rfl rfl rfl [5] [0, 1, 2, 3, 4] (by decide) rfl rfl (fun _ _ => trivial) ?_
          rintro _ _ ⟨p20, c20, rfl, rfl⟩
          refine ⟨fun w hI => hI.pick (is := [3]) (by decide) rfl, ?_⟩
          refine AnyJ.one (fuel := 0) 6 (by kernel_rfl) ?_
          refine StepJ.op (listed' := #[true, true, true, true, true, true, true]) rfl rfl rfl ?_
          refine OpJ.storeW (i := 1) rfl rfl rfl rfl sz_113 rfl rfl rfl ?_
          refine ⟨fun w hI => hI.pick (is := [3]) (by decide) rfl, ?_⟩
          refine AnyJ.done (by kernel_rfl) ?_
          exact ExJ.meetP ⟨p20, c20, bd, res, rfl, rfl⟩ ⟨rfl, rfl, rfl, rfl, trivial⟩ fun w hI => hI.pick (is := [1, 0, 4, 5, 2]) (by decide) rfl
      · refine StepJ.op (listed' := #[true, true, true, false, false, true, false]) rfl rfl rfl ?_
        refine OpJ.alloc rfl rfl rfl zero_113 fun bd hbd => ?_
        refine ⟨fun w hI => hI.pick (is := [2]) (by decide) rfl, ?_⟩
        refine AnyJ.one (fuel := 2) 3 (by kernel_rfl) ?_
        refine StepJ.op (listed' := #[true, true, true, true, false, true, false]) rfl rfl rfl ?_
        refine OpJ.call (headerOf_spec h) has_48 rfl rfl rfl rfl rfl [] [0, 1, 2, 3, 4, 5] (by decide) rfl rfl (fun _ _ => trivial) ?_
        rintro _ _ ⟨rfl, rfl⟩
        refine ⟨fun w hI => hI.pick (is := [2]) (by decide) rfl, ?_⟩
        refine AnyJ.one (fuel := 1) 4 (by kernel_rfl) ?_
        refine StepJ.op (listed' := #[true, true, true, true, true, true, false]) rfl rfl rfl ?_
        refine OpJ.call (newBuilder_spec pre p17 c17 h hw (by omega)) has_47 rfl rfl rfl rfl rfl [5] [0, 1, 2, 3, 4] (by decide) rfl rfl (fun _ _ => trivial) ?_
        rintro _ _ ⟨p20, c20, rfl, rfl⟩
        refine ⟨fun w hI => hI.pick (is := [3]) (by decide) rfl, ?_⟩
        refine AnyJ.one (fuel := 0) 6 (by kernel_rfl) ?_
        refine StepJ.op (listed' := #[true, true, true, true, true, true, true]) rfl rfl rfl ?_
        refine OpJ.storeW (i := 1) rfl rfl rfl rfl sz_113 rfl rfl rfl ?_
        refine ⟨fun w hI => hI.pick (is := [3]) (by decide) rfl, ?_⟩
        refine AnyJ.done (by kernel_rfl) ?_
        exact ExJ.meetP ⟨p20, c20, bd, res, rfl, rfl⟩ ⟨rfl, rfl, rfl, rfl, trivial⟩ fun w hI => hI.pick (is := [1, 0, 4, 5, 2]) (by decide) rfl
    · refine StepJ.op (listed' := #[true, false, true, false, false, true, false]) rfl rfl rfl ?_
      refine OpJ.alloc rfl rfl rfl zero_113 fun bd hbd => ?_
      refine ⟨fun w hI => hI.pick (is := [2]) (by decide) rfl, ?_⟩
      refine AnyJ.one (fuel := 3) 1 (by kernel_rfl) ?_
      refine StepJ.op (listed' := #[true, true, true, false, false, true, false]) rfl rfl rfl ?_
      refine OpJ.appendO (i := 5) (news := pre) elt_31 rfl rfl rfl rfl rfl rfl (fun w hI => Bytes.src (hbuf.keep hI.keep (by simp [fp])) Tryd.underlying31) (by simp; omega) fun p17 c17 => ?_
      refine ⟨fun w hI => hI.pick (is := [2]) (by decide) rfl, ?_⟩
      refine AnyJ.one (fuel := 2) 3 (by kernel_rfl) ?_
      refine StepJ.op (listed' := #[true, true, true, true, false, true, false]) rfl rfl rfl ?_
      refine OpJ.call (headerOf_spec h) has_48 rfl rfl rfl rfl rfl [] [0, 1, 2, 3, 4, 5] (by decide) rfl rfl (fun _ _ => trivial) ?_
      rintro _ _ ⟨rfl, rfl⟩
      refine ⟨fun w hI => hI.pick (is := [2]) (by decide) rfl, ?_⟩
      refine AnyJ.one (fuel := 1) 4 (by kernel_rfl) ?_
      refine StepJ.op (listed' := #[true, true, true, true, true, true, false]) rfl rfl rfl ?_
      refine OpJ.call (newBuilder_spec pre p17 c17 h hw (by omega)) has_47 rfl rfl rfl rfl rfl [5] [0, 1, 2, 3, 4] (by decide) rfl rfl (fun _ _ => trivial) ?_
      rintro _ _ ⟨p20, c20, rfl, rfl⟩
      refine ⟨fun w hI => hI.pick (is := [3]) (by decide) rfl, ?_⟩
      refine AnyJ.one (fuel := 0) 6 (by kernel_rfl) ?_
      refine StepJ.op (listed' := #[true, true, true, true, true, true, true]) rfl rfl rfl ?_
      refine OpJ.storeW (i := 1) rfl rfl rfl rfl sz_113 rfl rfl rfl ?_
      refine ⟨fun w hI => hI.pick (is := [3]) (by decide) rfl, ?_⟩
      refine AnyJ.done (by kernel_rfl) ?_
      exact ExJ.meetP ⟨p20, c20, bd, res, rfl, rfl⟩ ⟨rfl, rfl, rfl, rfl, trivial⟩ fun w hI => hI.pick (is := [1, 0, 4, 5, 2]) (by decide) rfl
  · rintro _ _ ⟨p0, c0, bb, rb, rfl, rfl⟩
    refine CodeJ.seq ?_
    refine CodeJ.region ?_
    refine OpsJ.yld rfl rfl rfl (Yld.build places_47 zero_47 rfl rfl rfl) ?_
    refine OpsJ.op rfl ?_
    refine OpJ.alloc rfl rfl rfl zero_47 fun out hout => ?_
    refine OpsJ.op rfl ?_
    refine OpJ.storeW (i := 0) rfl rfl rfl rfl sz_47 rfl rfl rfl ?_
    refine OpsJ.nil ?_
    refine ExJ.thenN ?_
    refine CodeJ.seq ?_
    refine CodeJ.seq ?_
    refine CodeJ.region ?_
    refine OpsJ.yld rfl rfl rfl (Yld.move rfl rfl) ?_
    refine OpsJ.yld rfl rfl rfl (Yld.lenSlice rfl rfl rfl Tryd.underlying43 rfl) ?_
    refine OpsJ.yld rfl rfl rfl (Yld.move rfl rfl) ?_
    refine OpsJ.nil ?_
    refine ExJ.thenN ?_
    refine CodeJ.block ?_
    refine CodeJ.loopP (fun L H m => ∃ (k : Nat) (on : Bool) (b : Bd) (fs : List Nat) (p : Option Addr) (c : Nat) (r : Option Nat) (pf : Option Addr) (cf ob : Nat), k ≤ ss.length ∧ r.isSome = on ∧ RunOk A (ss.drop k) on b ∧ runF A ss false (newB pre h) = ((runF A (ss.drop k) on b).1, fs ++ (runF A (ss.drop k) on b).2) ∧ fs.length = k ∧
    L = [(3, .func (.func f) #[] #[]), (8, .pointer (some ⟨rb, 0, none⟩)), (9, .pointer (some ⟨bb, 0, none⟩)), (10, .pointer (some ⟨ob, 0, none⟩)), (22, .slice ps ss.length cs), (23, .int .i64 ss.length), (24, .int .i64 k)] ∧
    H = [.blk ob #[.slice pf fs.length cf, .slice none 0 0, .int .i64 0] 47, ownI 3 (.slice pf fs.length cf) fs] ++ bdR b bb p c r ++ [.blk rb #[.slice none 0 0, .slice none 0 0, .int .i64 0] 47] ∧ m = ss.length - k) ⟨0, false, newB pre h, [], p0, c0, none, none, 0, out, Nat.zero_le _, rfl, hok, rfl, rfl, rfl, rfl, rfl⟩ ⟨rfl, rfl, rfl, rfl, rfl, rfl, rfl, trivial⟩ (fun w hI => hI.pick (is := [0, 4, 1, 2, 3, 5]) (by decide) rfl) ?_
    rintro _ _ _ ⟨k, on, b, fs, p, c, r, pf, cf, ob, hk, hon, hro, hrf, hfs, rfl, rfl, rfl⟩
    refine CodeJ.seq ?_
    refine CodeJ.region ?_
    refine OpsJ.yld rfl rfl rfl (Yld.intBin rfl rfl rfl rfl) ?_
    refine OpsJ.nil ?_
    refine ExJ.thenN ?_
    refine CodeJ.seq ?_
    refine CodeJ.condP rfl (fun c25 => ?_) (fun c25 => ?_)
    · have hk' : k < ss.length := by omega
      obtain ⟨s, hs⟩ : ∃ s, ss[k]? = some s := ⟨ss[k], List.getElem?_eq_getElem hk'⟩
      have hdr : ss.drop k = s :: ss.drop (k + 1) := by
        rw [List.drop_eq_getElem_cons hk']
        congr 1
        exact (List.getElem?_eq_some_iff.1 hs).2
      rw [hdr] at hro hrf
      obtain ⟨hso, hro'⟩ := hro
      obtain ⟨sb_, so, sc, hse, hcell⟩ := Row.at hrow (fun x hx => by obtain ⟨y, _, rfl⟩ := List.mem_map.1 hx; rfl) (by simp) hk'
      injection hse with hse1 hse2 hse3
      subst hse1
      have hcs := hcell s.cells (by simp [hs])
      have hrs := hrec s (List.mem_of_getElem? hs)
      refine CodeJ.skip ?_
      refine ExJ.thenN ?_
      refine CodeJ.seq ?_
      refine CodeJ.block ?_
      refine CodeJ.seq ?_
      refine CodeJ.region ?_
      refine OpsJ.yld rfl rfl rfl (Yld.indexAddr rfl Tryd.underlying43 sz_93 rfl rfl hk') ?_
      refine OpsJ.yld rfl rfl rfl (Yld.loadN (vs := s.cells) rfl Tryd.underlying93 rfl sz_93 rfl (fun w hI => hI.old hcs (by simp [fp]))) ?_
      refine OpsJ.op rfl ?_
      refine OpJ.alloc rfl rfl rfl zero_93 fun sb hsb => ?_
      refine OpsJ.op rfl ?_
      refine OpJ.storeW (i := 0) rfl rfl rfl rfl sz_93 rfl (StepD.one hrs) rfl ?_
      refine OpsJ.nil ?_
      refine ExJ.thenN ?_
      refine CodeJ.seq ?_
      refine CodeJ.region ?_
      refine OpsJ.yld rfl rfl rfl (Yld.assign rfl rfl) ?_
      refine OpsJ.nil ?_
      refine ExJ.thenN ?_
      refine CodeJ.cutP (fun L H => ∃ (on' : Bool) (b' : Bd) (ft : Nat) (p' : Option Addr) (c' : Nat) (r' : Option Nat), stepF A s on b = (on', b', ft) ∧ r'.isSome = on' ∧
      L = [(3, .func (.func f) #[] #[]), (8, .pointer (some ⟨rb, 0, none⟩)), (9, .pointer (some ⟨bb, 0, none⟩)), (10, .pointer (some ⟨ob, 0, none⟩)), (13, .int .i64 ft), (22, .slice (some ⟨sb_, so, none⟩) ss.length cs), (23, .int .i64 ss.length), (24, .int .i64 k)] ∧
      H = [.blk ob #[.slice pf fs.length cf, .slice none 0 0, .int .i64 0] 47, ownI 3 (.slice pf fs.length cf) fs] ++ bdR b' bb p' c' r' ++ [.blk rb #[.slice none 0 0, .slice none 0 0, .int .i64 0] 47]) ?_ ?_
      · refine CodeJ.seq ?_
        refine CodeJ.region ?_
        refine OpsJ.yld rfl rfl rfl (Yld.fieldAddr fa_93_0 rfl rfl) ?_
        refine OpsJ.yld rfl rfl rfl (Yld.load1 rfl Tryd.underlying3 rfl rfl (fun w hI => Inv.cell1 hI (i := 0) rfl rfl)) ?_
        refine OpsJ.nil ?_
        refine ExJ.thenN ?_
        refine CodeJ.block ?_
        refine CodeJ.seq ?_
        refine CodeJ.region ?_
        refine OpsJ.yld rfl rfl rfl (Yld.intBin rfl rfl rfl rfl) ?_
        refine OpsJ.yld rfl rfl rfl (Yld.assign rfl rfl) ?_
        refine OpsJ.nil ?_
        refine ExJ.thenN ?_
        refine CodeJ.cond rfl (fun c30 => ?_) (fun c30 => ?_)
        · have hact : s.act = 1 := by
            have : (s.act : Int) = 1 := by simpa using c30
            omega
          refine CodeJ.region ?_
          refine OpsJ.op rfl ?_
          refine OpJ.call (enable_spec b bb p c r) has_49 rfl rfl rfl rfl rfl [3, 4, 5] [0, 1, 2, 6] (by decide) rfl rfl (fun _ _ => trivial) ?_
          rintro _ _ ⟨k32, rfl⟩
          refine OpsJ.nil ?_
          refine ExJ.blockN ?_
          exact ExJ.meetP ⟨true, { b with m := [] }, 0, p, c, some k32, by simp [stepF, hact], rfl, rfl, rfl⟩ ⟨rfl, rfl, rfl, rfl, rfl, rfl, rfl, rfl, trivial⟩ fun w hI => hI.pick (is := [4, 5, 0, 1, 2, 6]) (by decide) rfl
        · have ha1 : ¬ s.act = 1 := fun h => by simp [h] at c30
          refine CodeJ.seq ?_
          refine CodeJ.region ?_
          refine OpsJ.yld rfl rfl rfl (Yld.intBin rfl rfl rfl rfl) ?_
          refine OpsJ.yld rfl rfl rfl (Yld.assign rfl rfl) ?_
          refine OpsJ.nil ?_
          refine ExJ.thenN ?_
          refine CodeJ.cond rfl (fun c33 => ?_) (fun c33 => ?_)
          · have hact : s.act = 2 := by
              have : (s.act : Int) = 2 := by simpa using c33
              omega
            refine CodeJ.region ?_
            refine OpsJ.op rfl ?_
            refine OpJ.call (startQuestions_spec b bb p c r hso.bd.sec (by have := hso.sec (by omega) (by omega); omega)) has_51 rfl rfl rfl rfl rfl [3, 4, 5] [0, 1, 2, 6] (by decide) rfl rfl (fun _ _ => trivial) ?_
            rintro _ _ ⟨rfl, rfl⟩
            refine OpsJ.op rfl ?_
            refine OpJ.call (faultOf_spec G .nilIface 0 (.inl ⟨rfl, rfl⟩)) has_50 rfl rfl rfl rfl rfl [] [0, 1, 2, 3, 4, 5, 6] (by decide) rfl rfl (fun w hI => hge.call hI (is := []) rfl) ?_
            rintro _ _ ⟨rfl, rfl⟩
            refine OpsJ.yld rfl rfl rfl (Yld.assign rfl rfl) ?_
            refine OpsJ.nil ?_
            refine ExJ.blockN ?_
            exact ExJ.meetP ⟨on, { b with sec := 2 }, 0, p, c, r, by simp [stepF, hact], hon, rfl, rfl⟩ ⟨rfl, rfl, rfl, rfl, rfl, rfl, rfl, rfl, trivial⟩ fun w hI => hI.pick (is := [4, 5, 0, 1, 2, 6]) (by decide) rfl
          · have ha2 : ¬ s.act = 2 := fun h => by simp [h] at c33
            refine CodeJ.seq ?_
            refine CodeJ.region ?_
            refine OpsJ.yld rfl rfl rfl (Yld.intBin rfl rfl rfl rfl) ?_
            refine OpsJ.yld rfl rfl rfl (Yld.assign rfl rfl) ?_
            refine OpsJ.nil ?_
            refine ExJ.thenN ?_
            refine CodeJ.cond rfl (fun c37 => ?_) (fun c37 => ?_)
            · have hact : s.act = 3 := by
                have : (s.act : Int) = 3 := by simpa using c37
                omega
              refine CodeJ.region ?_
              refine OpsJ.op rfl ?_
              refine OpJ.call (startAnswers_spec b bb p c r hso.bd.sec (by have := hso.sec (by omega) (by omega); omega)) has_52 rfl rfl rfl rfl rfl [3, 4, 5] [0, 1, 2, 6] (by decide) rfl rfl (fun _ _ => trivial) ?_
              rintro _ _ ⟨rfl, rfl⟩
              refine OpsJ.op rfl ?_
              refine OpJ.call (faultOf_spec G .nilIface 0 (.inl ⟨rfl, rfl⟩)) has_50 rfl rfl rfl rfl rfl [] [0, 1, 2, 3, 4, 5, 6] (by decide) rfl rfl (fun w hI => hge.call hI (is := []) rfl) ?_
              rintro _ _ ⟨rfl, rfl⟩
              refine OpsJ.yld rfl rfl rfl (Yld.assign rfl rfl) ?_
              refine OpsJ.nil ?_
              refine ExJ.blockN ?_
              exact ExJ.meetP ⟨on, { b with sec := 3 }, 0, p, c, r, by simp [stepF, hact], hon, rfl, rfl⟩ ⟨rfl, rfl, rfl, rfl, rfl, rfl, rfl, rfl, trivial⟩ fun w hI => hI.pick (is := [4, 5, 0, 1, 2, 6]) (by decide) rfl
            · have ha3 : ¬ s.act = 3 := fun h => by simp [h] at c37
              refine CodeJ.seq ?_
              refine CodeJ.region ?_
              refine OpsJ.yld rfl rfl rfl (Yld.intBin rfl rfl rfl rfl) ?_
              refine OpsJ.yld rfl rfl rfl (Yld.assign rfl rfl) ?_
              refine OpsJ.nil ?_
              refine ExJ.thenN ?_
              refine CodeJ.cond rfl (fun c41 => ?_) (fun c41 => ?_)
              · have hact : s.act = 4 := by
                  have : (s.act : Int) = 4 := by simpa using c41
                  omega
                refine CodeJ.region ?_
                refine OpsJ.op rfl ?_
                refine OpJ.call (startAuthorities_spec b bb p c r hso.bd.sec (by have := hso.sec (by omega) (by omega); omega)) has_53 rfl rfl rfl rfl rfl [3, 4, 5] [0, 1, 2, 6] (by decide) rfl rfl (fun _ _ => trivial) ?_
                rintro _ _ ⟨rfl, rfl⟩
                refine OpsJ.op rfl ?_
                refine OpJ.call (faultOf_spec G .nilIface 0 (.inl ⟨rfl, rfl⟩)) has_50 rfl rfl rfl rfl rfl [] [0, 1, 2, 3, 4, 5, 6] (by decide) rfl rfl (fun w hI => hge.call hI (is := []) rfl) ?_
                rintro _ _ ⟨rfl, rfl⟩
                refine OpsJ.yld rfl rfl rfl (Yld.assign rfl rfl) ?_
                refine OpsJ.nil ?_
                refine ExJ.blockN ?_
                exact ExJ.meetP ⟨on, { b with sec := 4 }, 0, p, c, r, by simp [stepF, hact], hon, rfl, rfl⟩ ⟨rfl, rfl, rfl, rfl, rfl, rfl, rfl, rfl, trivial⟩ fun w hI => hI.pick (is := [4, 5, 0, 1, 2, 6]) (by decide) rfl
              · have ha4 : ¬ s.act = 4 := fun h => by simp [h] at c41
                refine CodeJ.seq ?_
                refine CodeJ.region ?_
                refine OpsJ.yld rfl rfl rfl (Yld.intBin rfl rfl rfl rfl) ?_
                refine OpsJ.yld rfl rfl rfl (Yld.assign rfl rfl) ?_
                refine OpsJ.nil ?_
                refine ExJ.thenN ?_
                refine CodeJ.cond rfl (fun c45 => ?_) (fun c45 => ?_)
                · have hact : s.act = 5 := by
                    have : (s.act : Int) = 5 := by simpa using c45
                    omega
                  refine CodeJ.region ?_
                  refine OpsJ.op rfl ?_
                  refine OpJ.call (startAdditionals_spec b bb p c r hso.bd.sec (by have := hso.sec (by omega) (by omega); omega)) has_54 rfl rfl rfl rfl rfl [3, 4, 5] [0, 1, 2, 6] (by decide) rfl rfl (fun _ _ => trivial) ?_
                  rintro _ _ ⟨rfl, rfl⟩
                  refine OpsJ.op rfl ?_
                  refine OpJ.call (faultOf_spec G .nilIface 0 (.inl ⟨rfl, rfl⟩)) has_50 rfl rfl rfl rfl rfl [] [0, 1, 2, 3, 4, 5, 6] (by decide) rfl rfl (fun w hI => hge.call hI (is := []) rfl) ?_
                  rintro _ _ ⟨rfl, rfl⟩
                  refine OpsJ.yld rfl rfl rfl (Yld.assign rfl rfl) ?_
                  refine OpsJ.nil ?_
                  refine ExJ.blockN ?_
                  exact ExJ.meetP ⟨on, { b with sec := 5 }, 0, p, c, r, by simp [stepF, hact], hon, rfl, rfl⟩ ⟨rfl, rfl, rfl, rfl, rfl, rfl, rfl, rfl, trivial⟩ fun w hI => hI.pick (is := [4, 5, 0, 1, 2, 6]) (by decide) rfl
                · have ha5 : ¬ s.act = 5 := fun h => by simp [h] at c45
                  refine CodeJ.seq ?_
                  refine CodeJ.region ?_
                  refine OpsJ.yld rfl rfl rfl (Yld.intBin rfl rfl rfl rfl) ?_
                  refine OpsJ.yld rfl rfl rfl (Yld.assign rfl rfl) ?_
                  refine OpsJ.nil ?_
                  refine ExJ.thenN ?_
                  refine CodeJ.cond rfl (fun c49 => ?_) (fun c49 => ?_)
                  · have hact : s.act = 6 := by
                      have : (s.act : Int) = 6 := by simpa using c49
                      omega
                    refine CodeJ.region ?_
                    refine OpsJ.yld rfl rfl rfl (Yld.fieldAddr fa_93_1 rfl rfl) ?_
                    refine OpsJ.yld rfl rfl rfl (Yld.loadN (vs := s.ask.cells) rfl Tryd.underlying91 rfl sz_91 rfl (fun w hI => Inv.cells hI (i := 0) rfl rfl (Nat.le_of_ble_eq_true rfl))) ?_
                    refine OpsJ.op rfl ?_
                    refine OpJ.call (questionOf_spec s.ask.name s.ask.typ s.ask.cls) has_56 rfl rfl rfl rfl rfl [] [0, 1, 2, 3, 4, 5, 6] (by decide) rfl rfl (fun _ _ => trivial) ?_
                    rintro _ _ ⟨rfl, rfl⟩
                    refine OpsJ.op rfl ?_
                    refine OpJ.call (question_spec G s.ask on b hso.bd (hso.ask hact) bb p c r hon) has_55 rfl rfl rfl rfl rfl [3, 4, 5] [0, 1, 2, 6] (by decide) rfl rfl (fun w hI => hge.call hI (is := [3, 4, 5]) rfl) ?_
                    rintro _ _ ⟨he54, p54, c54, rfl⟩
                    refine OpsJ.op rfl ?_
                    refine OpJ.call (faultOf_spec G _ _ he54) has_50 rfl rfl rfl rfl rfl [] [0, 1, 2, 3, 4, 5, 6] (by decide) rfl rfl (fun w hI => hge.call hI (is := []) rfl) ?_
                    rintro _ _ ⟨rfl, rfl⟩
                    refine OpsJ.yld rfl rfl rfl (Yld.assign rfl rfl) ?_
                    refine OpsJ.nil ?_
                    refine ExJ.blockN ?_
                    exact ExJ.meetP ⟨on, (askF s.ask on b).1, (askF s.ask on b).2, p54, c54, r, by simp [stepF, hact], hon, rfl, rfl⟩ ⟨rfl, rfl, rfl, rfl, rfl, rfl, rfl, rfl, trivial⟩ fun w hI => hI.pick (is := [4, 5, 0, 1, 2, 6]) (by decide) rfl
                  · have ha6 : ¬ s.act = 6 := fun h => by simp [h] at c49
                    refine CodeJ.seq ?_
                    refine CodeJ.region ?_
                    refine OpsJ.yld rfl rfl rfl (Yld.intBin rfl rfl rfl rfl) ?_
                    refine OpsJ.yld rfl rfl rfl (Yld.assign rfl rfl) ?_
                    refine OpsJ.nil ?_
                    refine ExJ.thenN ?_
                    refine CodeJ.cond rfl (fun c56 => ?_) (fun c56 => ?_)
                    · have hact : s.act = 7 := by
                        have : (s.act : Int) = 7 := by simpa using c56
                        omega
                      refine CodeJ.any (fuel := 9) (listed := #[false, false, false, false, false, false, false, false, false]) [0] rfl follows_mixed rfl rfl ?_
                      refine AnyJ.take (fuel := 8) (listed' := #[true, false, false, false, false, false, false, false, false]) 0 rfl (by kernel_rfl) (by kernel_rfl) (by kernel_rfl) rfl rfl rfl rfl (Yld.move rfl rfl) (fun w hI => hI.pick (is := [0]) (by decide) rfl) ?_
                      refine AnyJ.take (fuel := 7) (listed' := #[true, true, false, false, false, false, false, false, false]) 1 rfl (by kernel_rfl) (by kernel_rfl) (by kernel_rfl) rfl rfl rfl rfl (Yld.fieldAddr fa_93_2 rfl rfl) (fun w hI => hI.pick (is := [0]) (by decide) rfl) ?_
                      refine AnyJ.take (fuel := 6) (listed' := #[true, true, true, false, false, false, false, false, false]) 2 rfl (by kernel_rfl) (by kernel_rfl) (by kernel_rfl) rfl rfl rfl rfl (Yld.loadN (vs := s.rec_.cells) rfl Tryd.underlying35 rfl sz_35 rfl (fun w hI => Inv.cells hI (i := 0) rfl rfl (Nat.le_of_ble_eq_true rfl))) (fun w hI => hI.pick (is := [0]) (by decide) rfl) ?_
                      refine AnyJ.take (fuel := 5) (listed' := #[true, true, true, false, true, false, false, false, false]) 4 rfl (by kernel_rfl) (by kernel_rfl) (by kernel_rfl) rfl rfl rfl rfl (Yld.fieldAddr fa_93_2 rfl rfl) (fun w hI => hI.pick (is := [0]) (by decide) rfl) ?_
                      refine AnyJ.take (fuel := 4) (listed' := #[true, true, true, false, true, true, false, false, false]) 5 rfl (by kernel_rfl) (by kernel_rfl) (by kernel_rfl) rfl rfl rfl rfl (Yld.loadN (vs := s.rec_.cells) rfl Tryd.underlying35 rfl sz_35 rfl (fun w hI => Inv.cells hI (i := 0) rfl rfl (Nat.le_of_ble_eq_true rfl))) (fun w hI => hI.pick (is := [0]) (by decide) rfl) ?_
                      refine AnyJ.one (fuel := 3) 3 (by kernel_rfl) ?_
                      refine StepJ.op (listed' := #[true, true, true, true, true, true, false, false, false]) rfl rfl rfl ?_
                      refine OpJ.call (resourceHeaderOf_spec s.rec_) has_57 rfl rfl rfl rfl rfl [] [0, 1, 2, 3, 4, 5, 6] (by decide) rfl rfl (fun _ _ => trivial) ?_
                      rintro _ _ ⟨rfl, rfl⟩
                      refine ⟨fun w hI => hI.pick (is := [0]) (by decide) rfl, ?_⟩
                      refine AnyJ.one (fuel := 2) 6 (by kernel_rfl) ?_
                      refine StepJ.op (listed' := #[true, true, true, true, true, true, true, false, false]) rfl rfl rfl ?_
                      refine OpJ.call (hA s.rec_ on b bb p c r (hso.rec_ hact) hso.bd hon) hf rfl rfl rfl rfl rfl [3, 4, 5] [0, 1, 2, 6] (by decide) rfl rfl (fun w hI => ⟨hge.call hI (is := [3, 4, 5]) rfl, w0, hrs, hI.keep, hI.fresh (is := [3, 4, 5]) rfl⟩) ?_
                      rintro _ _ ⟨he64, p64, c64, rfl⟩
                      refine ⟨fun w hI => hI.pick (is := [3]) (by decide) rfl, ?_⟩
                      refine AnyJ.one (fuel := 1) 7 (by kernel_rfl) ?_
                      refine StepJ.op (listed' := #[true, true, true, true, true, true, true, true, false]) rfl rfl rfl ?_
                      refine OpJ.call (faultOf_spec G _ _ he64) has_50 rfl rfl rfl rfl rfl [] [0, 1, 2, 3, 4, 5, 6] (by decide) rfl rfl (fun w hI => hge.call hI (is := []) rfl) ?_
                      rintro _ _ ⟨rfl, rfl⟩
                      refine ⟨fun w hI => hI.pick (is := [3]) (by decide) rfl, ?_⟩
                      refine AnyJ.take (fuel := 0) (listed' := #[true, true, true, true, true, true, true, true, true]) 8 rfl (by kernel_rfl) (by kernel_rfl) (by kernel_rfl) rfl rfl rfl rfl (Yld.assign rfl rfl) (fun w hI => hI.pick (is := [3]) (by decide) rfl) ?_
                      refine AnyJ.done (by kernel_rfl) ?_
                      refine ExJ.blockN ?_
                      exact ExJ.meetP ⟨on, (A.eff s.rec_ on b).1, (A.eff s.rec_ on b).2, p64, c64, r, by simp [stepF, hact], hon, rfl, rfl⟩ ⟨rfl, rfl, rfl, rfl, rfl, rfl, rfl, rfl, trivial⟩ fun w hI => hI.pick (is := [4, 5, 0, 1, 2, 6]) (by decide) rfl
                    · have ha7 : ¬ s.act = 7 := fun h => by simp [h] at c56
                      refine CodeJ.skip ?_
                      refine ExJ.blockN ?_
                      exact ExJ.meetP ⟨on, b, 0, p, c, r, by simp [stepF, ha1, ha2, ha3, ha4, ha5, ha6, ha7], hon, rfl, rfl⟩ ⟨rfl, rfl, rfl, rfl, rfl, rfl, rfl, rfl, trivial⟩ fun w hI => hI.pick (is := [1, 2, 3, 4, 5, 6]) (by decide) rfl
      · rintro _ _ ⟨on', b', ft, p', c', r', hst, hon', rfl, rfl⟩
        refine CodeJ.region ?_
        refine OpsJ.yld rfl rfl rfl (Yld.fieldAddr fa_47_0 rfl rfl) ?_
        refine OpsJ.yld rfl rfl rfl (Yld.load1 rfl Tryd.underlying45 rfl rfl (fun w hI => Inv.cell1 hI (i := 0) rfl rfl)) ?_
        refine OpsJ.yld rfl rfl rfl (Yld.move rfl rfl) ?_
        refine OpsJ.op rfl ?_
        refine OpJ.buildSlice (xs := [.tmp 68]) elt_45 rfl rfl rfl rfl rfl rfl (by rfl) (by decide) fun one hone => ?_
        refine OpsJ.op rfl ?_
        refine OpJ.appendOwn (i := 2) (k := fs.length) (m := 1) (news := [.int .i64 ft]) elt_45 rfl rfl rfl rfl rfl rfl (fun w hI => Own.src (hI.hs _ (List.mem_of_getElem? (i := 0) rfl)).1 Tryd.underlying45 (fun u hu => by simp at hu; subst hu; rfl)) (by omega) (by omega) fun p70 c70 => ?_
        refine OpsJ.yld rfl rfl rfl (Yld.fieldAddr fa_47_0 rfl rfl) ?_
        refine OpsJ.op rfl ?_
        refine OpJ.store1 (i := 1) rfl rfl rfl rfl rfl sz_45 rfl rfl ?_
        refine OpsJ.nil ?_
        refine ExJ.blockN ?_
        refine ExJ.thenN ?_
        refine CodeJ.region ?_
        refine OpsJ.yld rfl rfl rfl (Yld.intBin rfl rfl rfl rfl) ?_
        rw [i64_succ k (by omega)]
        refine OpsJ.yld rfl rfl rfl (Yld.move rfl rfl) ?_
        refine OpsJ.nil ?_
        exact ExJ.againP ⟨k + 1, on', b', fs ++ [ft], p', c', r', p70, c70, ob, by omega, hon', by have := hro'; rw [hst] at this; exact this, by rw [hrf, runF, hst]; simp, by simp [hfs], rfl, rfl, rfl⟩ (by omega) ⟨rfl, rfl, rfl, rfl, rfl, rfl, rfl, trivial⟩ fun w hI => by simp only [ownI, List.length_append, List.length_singleton, List.map_append, List.map_cons, List.map_nil]; exact hI.pick (is := [1, 2, 3, 4, 5, 6]) (H' := [.blk ob #[.slice p70 (fs.length + 1) c70, .slice none 0 0, .int .i64 0] 47, own 3 1 (.slice p70 (fs.length + 1) c70) (fs.length + 1) ((fs.map fun k => Value.int .i64 (k : Nat)) ++ [.int .i64 ft])] ++ bdR b' bb p' c' r' ++ [.blk rb #[.slice none 0 0, .slice none 0 0, .int .i64 0] 47]) (by decide) rfl
    · obtain rfl : k = ss.length := by omega
      rw [List.drop_length] at hro hrf
      have hbd : BdOk b := hro
      have hrf' : runF A ss false (newB pre h) = (b, fs) := by rw [hrf]; simp [runF]
      rw [hrf']
      refine CodeJ.exit ?_
      refine ExJ.thenX ?_
      refine ExJ.thenX ?_
      refine ExJ.blockHit ?_
      refine ExJ.thenN ?_
      refine CodeJ.seq ?_
      refine CodeJ.region ?_
      refine OpsJ.op rfl ?_
      refine OpJ.call (finish_spec b bb p c r hbd.sec hbd.start) has_58 rfl rfl rfl rfl rfl [2, 3, 4] [0, 1, 5] (by decide) rfl rfl (fun _ _ => trivial) ?_
      rintro _ _ ⟨p74, c74, rfl, rfl⟩
      refine OpsJ.yld rfl rfl rfl (Yld.move rfl rfl) ?_
      refine OpsJ.yld rfl rfl rfl (Yld.extract rfl rfl rfl) ?_
      refine OpsJ.yld rfl rfl rfl (Yld.extract rfl rfl rfl) ?_
      refine OpsJ.yld rfl rfl rfl (Yld.assign rfl rfl) ?_
      refine OpsJ.yld rfl rfl rfl (Yld.assign rfl rfl) ?_
      refine OpsJ.nil ?_
      refine ExJ.thenN ?_
      refine CodeJ.seq ?_
      refine CodeJ.region ?_
      refine OpsJ.yld rfl rfl rfl (Yld.move rfl rfl) ?_
      refine OpsJ.yld rfl rfl rfl (Yld.move rfl rfl) ?_
      refine OpsJ.op rfl ?_
      refine OpJ.call (faultOf_spec G .nilIface 0 (.inl ⟨rfl, rfl⟩)) has_50 rfl rfl rfl rfl rfl [] [0, 1, 2, 3] (by decide) rfl rfl (fun w hI => hge.call hI (is := []) rfl) ?_
      rintro _ _ ⟨rfl, rfl⟩
      refine OpsJ.yld rfl rfl rfl (Yld.fieldAddr fa_47_1 rfl rfl) ?_
      refine OpsJ.op rfl ?_
      refine OpJ.store1 (i := 1) rfl rfl rfl rfl rfl sz_31 rfl rfl ?_
      refine OpsJ.yld rfl rfl rfl (Yld.fieldAddr fa_47_2 rfl rfl) ?_
      refine OpsJ.op rfl ?_
      refine OpJ.store1 (i := 1) rfl rfl rfl rfl rfl sz_3 rfl rfl ?_
      refine OpsJ.nil ?_
      refine ExJ.thenN ?_
      refine CodeJ.seq ?_
      refine CodeJ.region ?_
      refine OpsJ.yld rfl rfl rfl (Yld.loadN (vs := [.slice pf fs.length cf, .slice p74 b.fin.length c74, .int .i64 0]) rfl Tryd.underlying47 rfl sz_47 rfl (fun w hI => Inv.cells hI (i := 1) rfl rfl (Nat.le_of_ble_eq_true rfl))) ?_
      refine OpsJ.op rfl ?_
      refine OpJ.storeW (i := 3) rfl rfl rfl rfl sz_47 rfl rfl rfl ?_
      refine OpsJ.nil ?_
      refine ExJ.thenN ?_
      refine CodeJ.ret ?_
      exact ExJ.retC (vs := [.slice pf fs.length cf, .slice p74 b.fin.length c74, .int .i64 0]) Tryd.results26 rfl Tryd.underlying47 rfl sz_47 (fun w hI => Inv.cells hI (i := 3) rfl rfl (Nat.le_of_ble_eq_true rfl)) ⟨pf, cf, p74, c74, rfl, rfl⟩ fun w hI => hI.pick (is := [2, 0]) (by decide) rfl
theorem run_spec (A : Adder) (f : FuncId) (hf : Has Tryd.prog f) (hA : A.Meets f) (G : GEnv) (h : Hd) (hw : h.wf) (pre : List UInt8) (bufV stepsV : Value) (ss : List StepD) (hn : ss.length ≤ 1099511627776) (hpre : pre.length ≤ 140737488355328) (hok : RunOk A ss false (newB pre h)) :
    Spec Tryd.prog 26 [bufV, .agg (hdCs h).toArray, stepsV, .func (.func f) #[] #[]] [] (RunIn G bufV pre stepsV ss) (RunPost (runF A ss false (newB pre h)).1.fin (runF A ss false (newB pre h)).2) :=
  run_specG A f hf G (hA G) h hw pre bufV stepsV ss hn hpre hok
end Go.Proofs.YtamobccbioafmaaDoor

/-
  Contracts of the laws' helpers: same, specHead, fine.
-/
namespace Go.Proofs.YtamobccbioafmaaDoor
open Go
set_option maxRecDepth 100000

theorem same_spec (v u : Value) (bs cs : List UInt8) : Spec Tryd.prog 17 [v, u] [] (fun w => Bytes w v bs ∧ Bytes w u cs) (fun r H' => r = .bool (bs == cs) ∧ H' = []) := by
  refine Spec.of Tryd.func17 rfl Tryd.ntmps17 rfl fun w0 hR => ?_
  refine CodeJ.seq ?_
  refine CodeJ.region ?_
  refine OpsJ.yld rfl rfl rfl (Yld.assign rfl rfl) ?_
  refine OpsJ.nil ?_
  refine ExJ.thenN ?_
  refine CodeJ.seq ?_
  refine CodeJ.region ?_
  refine OpsJ.yld rfl rfl rfl (Yld.move rfl rfl) ?_
  refine OpsJ.yld rfl rfl rfl (Yld.bytesStrV (bs := bs) rfl Tryd.underlying31 Tryd.underlying5 Tryd.underlying9 rfl (fun w hI => hR.1.keep hI.keep (by simp [fp]))) ?_
  refine OpsJ.yld rfl rfl rfl (Yld.move rfl rfl) ?_
  refine OpsJ.yld rfl rfl rfl (Yld.bytesStrV (bs := cs) rfl Tryd.underlying31 Tryd.underlying5 Tryd.underlying9 rfl (fun w hI => hR.2.keep hI.keep (by simp [fp]))) ?_
  refine OpsJ.yld rfl rfl rfl (Yld.strEq rfl rfl rfl) ?_
  rw [toList_strV, toList_strV]
  refine OpsJ.yld rfl rfl rfl (Yld.assign rfl rfl) ?_
  refine OpsJ.nil ?_
  refine ExJ.thenN ?_
  refine CodeJ.ret ?_
  exact ExJ.ret1 Tryd.results17 rfl ⟨rfl, rfl⟩ fun w hI => hI

theorem specHead_spec (h : Hd) : Spec Tryd.prog 30 [.agg (hdCs h).toArray] [] (fun _ => True) (fun r H' => r = .agg (hdCs h).toArray ∧ H' = []) := by
  refine Spec.of Tryd.func30 rfl Tryd.ntmps30 rfl fun w0 _ => ?_
  refine CodeJ.seq ?_
  refine CodeJ.region ?_
  refine OpsJ.op rfl ?_
  refine OpJ.box rfl rfl rfl rfl fun hd hhd => ?_
  refine OpsJ.op rfl ?_
  refine OpJ.alloc rfl rfl rfl zero_36 fun res hres => ?_
  refine OpsJ.nil ?_
  refine ExJ.thenN ?_
  refine CodeJ.seq ?_
  refine CodeJ.region ?_
  refine OpsJ.yld rfl rfl rfl (Yld.loadN (vs := hdCs h) rfl Tryd.underlying24 rfl sz_24 rfl (fun w hI => Inv.whole hI (i := 1) rfl)) ?_
  refine OpsJ.op rfl ?_
  refine OpJ.storeW (i := 0) rfl rfl rfl rfl sz_36 rfl rfl rfl ?_
  refine OpsJ.nil ?_
  refine ExJ.thenN ?_
  refine CodeJ.ret ?_
  exact ExJ.retC (vs := hdCs h) Tryd.results30 rfl Tryd.underlying36 rfl sz_36 (fun w hI => Inv.whole hI (i := 0) rfl) ⟨rfl, rfl⟩ fun w hI => hI.pick (is := []) (by decide) rfl

theorem flat_ints (fs : List Nat) : (fs.map fun k => [Value.int .i64 (k : Nat)]).flatten = fs.map fun k => Value.int .i64 (k : Nat) := by
  induction fs with
  | nil => rfl
  | cons x r ih => simp [ih]

theorem fine_spec (fv dv : Value) (fs : List Nat) (p : Option Addr) (n c : Nat) (hn : fs.length ≤ 9223372036854775806) : Spec Tryd.prog 16 [.agg #[fv, dv, .int .i64 0], .slice p n c] [] (fun w => Ints w fv fs)
    (fun r H' => r = .bool (fs.all (· == 0) && decide (fs.length = n)) ∧ H' = []) := by
  refine Spec.of Tryd.func16 rfl Tryd.ntmps16 rfl fun w0 hR => ?_
  obtain ⟨pf, cf, rfl⟩ := hR.shape
  refine CodeJ.seq ?_
  refine CodeJ.region ?_
  refine OpsJ.op rfl ?_
  refine OpJ.box rfl rfl rfl rfl fun bb hbb => ?_
  refine OpsJ.yld rfl rfl rfl (Yld.assign rfl rfl) ?_
  refine OpsJ.nil ?_
  refine ExJ.thenN ?_
  refine CodeJ.seq ?_
  refine CodeJ.seq ?_
  refine CodeJ.region ?_
  refine OpsJ.yld rfl rfl rfl (Yld.fieldAddr fa_47_0 rfl rfl) ?_
  refine OpsJ.yld rfl rfl rfl (Yld.load1 rfl Tryd.underlying45 rfl rfl (fun w hI => Inv.cell1 hI (i := 0) rfl rfl)) ?_
  refine OpsJ.yld rfl rfl rfl (Yld.lenSlice rfl rfl rfl Tryd.underlying45 rfl) ?_
  refine OpsJ.yld rfl rfl rfl (Yld.move rfl rfl) ?_
  refine OpsJ.nil ?_
  refine ExJ.thenN ?_
  refine CodeJ.block ?_
  refine CodeJ.loopP (fun L H m => ∃ (k : Nat), k ≤ fs.length ∧ (∀ x ∈ fs.take k, x = 0) ∧ L = [(1, .slice p n c), (2, .pointer (some ⟨bb, 0, none⟩)), (8, .slice pf fs.length cf), (9, .int .i64 fs.length), (10, .int .i64 k)] ∧ H = [.blk bb #[.slice pf fs.length cf, dv, .int .i64 0] 47] ∧ m = fs.length - k) ⟨0, Nat.zero_le _, by simp, rfl, rfl, rfl⟩ ⟨rfl, rfl, rfl, rfl, rfl, trivial⟩ (fun w hI => hI) ?_
  rintro _ _ _ ⟨k, hk, hz, rfl, rfl, rfl⟩
  refine CodeJ.seq ?_
  refine CodeJ.region ?_
  refine OpsJ.yld rfl rfl rfl (Yld.intBin rfl rfl rfl rfl) ?_
  refine OpsJ.nil ?_
  refine ExJ.thenN ?_
  refine CodeJ.seq ?_
  refine CodeJ.condP rfl (fun c11 => ?_) (fun c11 => ?_)
  · have hk' : k < fs.length := by omega
    obtain ⟨x, hx⟩ : ∃ x, fs[k]? = some x := ⟨fs[k], List.getElem?_eq_getElem hk'⟩
    obtain ⟨fb, fo, fc, hfe, hcell⟩ := Row.at (xss := fs.map fun k => [Value.int .i64 (k : Nat)]) (by rw [flat_ints]; exact hR) (fun y hy => by obtain ⟨z, _, rfl⟩ := List.mem_map.1 hy; rfl) (by simp) hk'
    injection hfe with hfe1 hfe2 hfe3
    subst hfe1
    have hcs := hcell [.int .i64 x] (by simp [hx])
    refine CodeJ.skip ?_
    refine ExJ.thenN ?_
    refine CodeJ.seq ?_
    refine CodeJ.block ?_
    refine CodeJ.seq ?_
    refine CodeJ.region ?_
    refine OpsJ.yld rfl rfl rfl (Yld.indexAddr rfl Tryd.underlying45 sz_3 rfl rfl hk') ?_
    refine OpsJ.yld rfl rfl rfl (Yld.load1 rfl Tryd.underlying3 rfl rfl (fun w hI => hI.old hcs (by simp [fp]))) ?_
    refine OpsJ.yld rfl rfl rfl (Yld.assign rfl rfl) ?_
    refine OpsJ.nil ?_
    refine ExJ.thenN ?_
    refine CodeJ.seq ?_
    refine CodeJ.region ?_
    refine OpsJ.yld rfl rfl rfl (Yld.move rfl rfl) ?_
    refine OpsJ.yld rfl rfl rfl (Yld.intBin rfl rfl rfl rfl) ?_
    refine OpsJ.nil ?_
    refine ExJ.thenN ?_
    refine CodeJ.cond rfl (fun c15 => ?_) (fun c15 => ?_)
    · have hxn : x ≠ 0 := fun h => by simp [h] at c15
      have hall : fs.all (· == 0) = false := by
        rw [List.all_eq_false]
        exact ⟨x, List.mem_of_getElem? hx, by simpa using hxn⟩
      refine CodeJ.seq ?_
      refine CodeJ.region ?_
      refine OpsJ.yld rfl rfl rfl (Yld.assign rfl rfl) ?_
      refine OpsJ.nil ?_
      refine ExJ.thenN ?_
      refine CodeJ.ret ?_
      refine ExJ.blockR ?_
      refine ExJ.thenR ?_
      refine ExJ.thenR ?_
      refine ExJ.blockR ?_
      refine ExJ.thenR ?_
      exact ExJ.ret1 Tryd.results16 rfl ⟨by rw [hall]; rfl, rfl⟩ fun w hI => hI.pick (is := []) (by decide) rfl
    · have hx0 : x = 0 := by
        have : (x : Int) = 0 := by simpa using c15
        omega
      refine CodeJ.skip ?_
      refine ExJ.blockN ?_
      refine ExJ.thenN ?_
      refine CodeJ.region ?_
      refine OpsJ.yld rfl rfl rfl (Yld.intBin rfl rfl rfl rfl) ?_
      rw [i64_succ k (by omega)]
      refine OpsJ.yld rfl rfl rfl (Yld.move rfl rfl) ?_
      refine OpsJ.nil ?_
      exact ExJ.againP ⟨k + 1, by omega, by rw [take_snoc _ _ _ hx]; intro y hy; rcases List.mem_append.1 hy with h | h; exact hz y h; simp at h; omega, rfl, rfl, rfl⟩ (by omega) ⟨rfl, rfl, rfl, rfl, rfl, trivial⟩ fun w hI => hI
  · obtain rfl : k = fs.length := by omega
    have hall : fs.all (· == 0) = true := by
      rw [List.all_eq_true]
      intro y hy
      have := hz y (by rw [List.take_length]; exact hy)
      simp [this]
    refine CodeJ.exit ?_
    refine ExJ.thenX ?_
    refine ExJ.thenX ?_
    refine ExJ.blockHit ?_
    refine ExJ.thenN ?_
    refine CodeJ.seq ?_
    refine CodeJ.region ?_
    refine OpsJ.yld rfl rfl rfl (Yld.fieldAddr fa_47_2 rfl rfl) ?_
    refine OpsJ.yld rfl rfl rfl (Yld.load1 rfl Tryd.underlying3 rfl rfl (fun w hI => Inv.cell1 hI (i := 0) rfl rfl)) ?_
    refine OpsJ.yld rfl rfl rfl (Yld.intBin rfl rfl rfl rfl) ?_
    refine OpsJ.yld rfl rfl rfl (Yld.move rfl rfl) ?_
    refine OpsJ.splitB (s := 20) rfl (fun g20 => ?_) (fun g20 => ?_)
    · refine OpsJ.opT rfl rfl rfl ?_
      refine OpJ.yld rfl rfl (Yld.fieldAddr fa_47_0 rfl rfl) ?_
      refine OpsJ.opT rfl rfl rfl ?_
      refine OpJ.yld rfl rfl (Yld.load1 rfl Tryd.underlying45 rfl rfl (fun w hI => Inv.cell1 hI (i := 0) rfl rfl)) ?_
      refine OpsJ.opT rfl rfl rfl ?_
      refine OpJ.yld rfl rfl (Yld.lenSlice rfl rfl rfl Tryd.underlying45 rfl) ?_
      refine OpsJ.opT rfl rfl rfl ?_
      refine OpJ.yld rfl rfl (Yld.move rfl rfl) ?_
      refine OpsJ.opT rfl rfl rfl ?_
      refine OpJ.yld rfl rfl (Yld.lenSlice rfl rfl rfl Tryd.underlying43 rfl) ?_
      refine OpsJ.opT rfl rfl rfl ?_
      refine OpJ.yld rfl rfl (Yld.intBin rfl rfl rfl rfl) ?_
      refine OpsJ.yld rfl rfl rfl (Yld.pickT rfl rfl rfl) ?_
      refine OpsJ.yld rfl rfl rfl (Yld.assign rfl rfl) ?_
      refine OpsJ.nil ?_
      refine ExJ.thenN ?_
      refine CodeJ.ret ?_
      refine ExJ.ret1 Tryd.results16 rfl ⟨?_, rfl⟩ fun w hI => hI.pick (is := []) (by decide) rfl
      rw [hall]
      congr 1
      rw [Bool.true_and, Bool.eq_iff_iff]
      simp
      omega
    · exact absurd g20 (by decide)
end Go.Proofs.YtamobccbioafmaaDoor

/-
  A new builder, in plain terms.
-/
namespace Go.Proofs.YtamobccbioafmaaDoor
open Go

theorem newB_ok (h : Hd) : BdOk (newB [] h) := ⟨by simp [newB], by simp [newB, zero12], by simp [newB, zero12], by simp [newB]⟩
theorem newB_fin (h : Hd) : (newB [] h).fin = headWire h [0, 0, 0, 0] := by
  simp [Bd.fin, newB, zero12, hd12, headWire]
end Go.Proofs.YtamobccbioafmaaDoor
