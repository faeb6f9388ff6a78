/-
  Contracts of the package and of impl: PTR records.
-/
import Derived.Test.YtijhpaejdchjgaaDoorBg
namespace Go.Proofs.YtijhpaejdchjgaaDoor
open Go
set_option maxRecDepth 100000

theorem ptrType_spec (v : Value) : Spec Tryd.prog 88 [v] [] (fun _ => True) (fun x H' => x = .int .u16 ((12 : Nat) : Int) ∧ H' = []) := by
  refine Spec.of Tryd.func88 rfl Tryd.ntmps88 rfl fun w0 _ => ?_
  refine CodeJ.seq ?_
  refine CodeJ.region ?_
  refine OpsJ.yld rfl rfl rfl (Yld.assign rfl rfl) ?_
  refine OpsJ.nil ?_
  refine ExJ.thenN ?_
  refine CodeJ.seq ?_
  refine CodeJ.region ?_
  refine OpsJ.yld rfl rfl rfl (Yld.assign rfl rfl) ?_
  refine OpsJ.nil ?_
  refine ExJ.thenN ?_
  refine CodeJ.ret ?_
  exact ExJ.ret1 Tryd.results88 rfl ⟨rfl, rfl⟩ fun w hI => hI

theorem ptrPack_spec (G : GEnv) (l : List UInt8) (hn : PName l) (bq off : Nat) (v : Value) (bs bs' : List UInt8) (p : Option Addr) (c : Nat) (r : Option Nat) (m : List (List UInt8 × Nat)) (hoff : off ≤ bs'.length) (hbig : bs'.length ≤ 158329674399744) (hm : ∀ x ∈ m, x.2 < 65536) :
    Spec Tryd.prog 89 [.pointer (some ⟨bq, 0, none⟩), .slice p bs'.length c, .map r, .int .i64 off] [appB 5 v bs (.slice p bs'.length c) bs', .mp r (kvV m)]
      (fun w => Cells w bq 0 (nameCs l) ∧ bq ∉ fp [appB 5 v bs (.slice p bs'.length c) bs', .mp r (kvV m)] ∧ GE G w (fp [appB 5 v bs (.slice p bs'.length c) bs', .mp r (kvV m)]))
      (PackPost 5 v bs bs' r (packN (bs'.length - off) r.isSome l m)) := by
  refine Spec.of Tryd.func89 rfl Tryd.ntmps89 rfl fun w0 hR => ?_
  obtain ⟨hcs, hbq, hge⟩ := hR
  cases hq : packN (bs'.length - off) r.isSome l m with
  | ok ys m' =>
    refine CodeJ.seq ?_
    refine CodeJ.region ?_
    refine OpsJ.yld rfl rfl rfl (Yld.assign rfl rfl) ?_
    refine OpsJ.yld rfl rfl rfl (Yld.assign rfl rfl) ?_
    refine OpsJ.nil ?_
    refine ExJ.thenN ?_
    refine CodeJ.seq ?_
    refine CodeJ.region ?_
    refine OpsJ.yld rfl rfl rfl (Yld.move rfl rfl) ?_
    refine OpsJ.yld rfl rfl rfl (Yld.nilCheck rfl rfl) ?_
    refine OpsJ.yld rfl rfl rfl (Yld.fieldAddr fa_101_0 rfl rfl) ?_
    refine OpsJ.yld rfl rfl rfl (Yld.move rfl rfl) ?_
    refine OpsJ.yld rfl rfl rfl (Yld.move rfl rfl) ?_
    refine OpsJ.yld rfl rfl rfl (Yld.move rfl rfl) ?_
    refine OpsJ.op rfl ?_
    refine OpJ.call (namePack_spec G l hn.pos hn.le hn.last bq (0 + 0) off v bs bs' p c r m hoff hbig hm) has_99 rfl rfl rfl rfl rfl [0, 1] [] (by decide) rfl rfl (fun w hI => ⟨hI.old hcs hbq, hbq, hge.call hI (is := [0, 1]) rfl⟩) ?_
    rintro _ _ hpost
    rw [hq] at hpost
    obtain ⟨p16, c16, rfl, rfl⟩ := hpost
    refine OpsJ.yld rfl rfl rfl (Yld.extract rfl rfl rfl) ?_
    refine OpsJ.yld rfl rfl rfl (Yld.extract rfl rfl rfl) ?_
    refine OpsJ.yld rfl rfl rfl (Yld.assign rfl rfl) ?_
    refine OpsJ.yld rfl rfl rfl (Yld.assign rfl rfl) ?_
    refine OpsJ.nil ?_
    refine ExJ.thenN ?_
    refine CodeJ.ret ?_
    exact ExJ.ret2 Tryd.results89 rfl rfl ⟨_, _, rfl, rfl⟩ fun w hI => hI
  | err m' =>
    refine CodeJ.seq ?_
    refine CodeJ.region ?_
    refine OpsJ.yld rfl rfl rfl (Yld.assign rfl rfl) ?_
    refine OpsJ.yld rfl rfl rfl (Yld.assign rfl rfl) ?_
    refine OpsJ.nil ?_
    refine ExJ.thenN ?_
    refine CodeJ.seq ?_
    refine CodeJ.region ?_
    refine OpsJ.yld rfl rfl rfl (Yld.move rfl rfl) ?_
    refine OpsJ.yld rfl rfl rfl (Yld.nilCheck rfl rfl) ?_
    refine OpsJ.yld rfl rfl rfl (Yld.fieldAddr fa_101_0 rfl rfl) ?_
    refine OpsJ.yld rfl rfl rfl (Yld.move rfl rfl) ?_
    refine OpsJ.yld rfl rfl rfl (Yld.move rfl rfl) ?_
    refine OpsJ.yld rfl rfl rfl (Yld.move rfl rfl) ?_
    refine OpsJ.op rfl ?_
    refine OpJ.call (namePack_spec G l hn.pos hn.le hn.last bq (0 + 0) off v bs bs' p c r m hoff hbig hm) has_99 rfl rfl rfl rfl rfl [0, 1] [] (by decide) rfl rfl (fun w hI => ⟨hI.old hcs hbq, hbq, hge.call hI (is := [0, 1]) rfl⟩) ?_
    rintro _ _ hpost
    rw [hq] at hpost
    obtain ⟨u16, t16, e16, rfl, rfl⟩ := hpost
    refine OpsJ.yld rfl rfl rfl (Yld.extract rfl rfl rfl) ?_
    refine OpsJ.yld rfl rfl rfl (Yld.extract rfl rfl rfl) ?_
    refine OpsJ.yld rfl rfl rfl (Yld.assign rfl rfl) ?_
    refine OpsJ.yld rfl rfl rfl (Yld.assign rfl rfl) ?_
    refine OpsJ.nil ?_
    refine ExJ.thenN ?_
    refine CodeJ.ret ?_
    exact ExJ.ret2 Tryd.results89 rfl rfl ⟨_, _, _, rfl, rfl⟩ fun w hI => hI

theorem ptrOf_spec (x : RecD) : Spec Tryd.prog 47 [.agg x.cells.toArray] [] (fun _ => True) (fun r H' => r = .agg (nameCs (cut255 x.host)).toArray ∧ H' = []) := by
  refine Spec.of Tryd.func47 rfl Tryd.ntmps47 rfl fun w0 _ => ?_
  have hl := cut255_len x.host
  have hsz := nameCs_len (cut255 x.host) hl
  have hfl : flat [Value.agg (nameCs (cut255 x.host)).toArray] = nameCs (cut255 x.host) := by simp [flat, Value.cells]
  have hone := nameCs_one (cut255 x.host)
  refine CodeJ.seq ?_
  refine CodeJ.region ?_
  refine OpsJ.op rfl ?_
  refine OpJ.box rfl rfl rfl rfl fun ab hab => ?_
  refine OpsJ.op rfl ?_
  refine OpJ.alloc rfl rfl rfl zero_101 fun res hres => ?_
  refine OpsJ.nil ?_
  refine ExJ.thenN ?_
  refine CodeJ.seq ?_
  refine CodeJ.region ?_
  refine OpsJ.yld rfl rfl rfl (Yld.fieldAddr fa_43_7 rfl rfl) ?_
  refine OpsJ.yld rfl rfl rfl (Yld.load1 rfl Tryd.underlying9 rfl rfl (fun w hI => Inv.cell1 hI (i := 1) rfl rfl)) ?_
  refine OpsJ.op rfl ?_
  refine OpJ.call (nameOf_spec x.host) has_82 rfl rfl rfl rfl rfl [] [0, 1] (by decide) rfl rfl (fun _ _ => trivial) ?_
  rintro _ _ ⟨rfl, rfl⟩
  refine OpsJ.yld rfl rfl rfl (Yld.buildAll places_101 zero_101 rfl rfl ⟨by show _ = some (0, (nameCs (cut255 x.host)).toArray.size); rw [List.size_toArray, hsz]; rfl, trivial⟩ (by show (flat [Value.agg (nameCs (cut255 x.host)).toArray]).length = _; rw [hfl, hsz]; rfl)) ?_
  refine OpsJ.op rfl ?_
  refine OpJ.storeW (i := 0) rfl rfl rfl rfl (by show _ = some (flat [Value.agg (nameCs (cut255 x.host)).toArray]).toArray.size; rw [hfl, List.size_toArray, hsz]; exact sz_101) rfl (by show oneCells (flat [Value.agg (nameCs (cut255 x.host)).toArray]) = true; rw [hfl]; exact hone) (by show (flat [Value.agg (nameCs (cut255 x.host)).toArray]).toArray.size = _; rw [hfl, List.size_toArray, hsz]; rfl) ?_
  refine OpsJ.nil ?_
  refine ExJ.thenN ?_
  refine CodeJ.ret ?_
  refine ExJ.retC (vs := flat [Value.agg (nameCs (cut255 x.host)).toArray]) Tryd.results47 rfl Tryd.underlying101 rfl (by rw [hfl, hsz]; exact sz_101) (fun w hI => Inv.whole hI (i := 0) rfl) ⟨by rw [hfl], rfl⟩ fun w hI => hI.pick (is := []) (by decide) rfl

/-- how PTR records are added -/
def ptrPk : BodyPk := fun base on x m => packN base on (cut255 x.host) m
def ptrAdder : Adder := recAdder (fun _ => 12) ptrPk (fun x => PName (cut255 x.host))

theorem ptrResource_spec (G : GEnv) (x : RecD) (on : Bool) (b : Bd) (bb : Nat) (p : Option Addr) (c : Nat) (r : Option Nat) (hok : ptrAdder.ok x on b) (hb : BdOk b) (hr : r.isSome = on) :
    Spec Tryd.prog 46 [.pointer (some ⟨bb, 0, none⟩), .agg (rhCs (cut255 x.name) x.typ x.cls x.ttl x.len).toArray, .agg (nameCs (cut255 x.host)).toArray] (bdR b bb p c r) (fun w => GE G w (fp (bdR b bb p c r)))
      (fun y H' => ErrIs G y (ptrAdder.eff x on b).2 ∧ ∃ p' c', H' = bdR (ptrAdder.eff x on b).1 bb p' c' r) := by
  obtain ⟨h3, h5, hcnt, hpn, hwf, hbody⟩ := hok
  have httl := hwf.ttl
  refine Spec.of Tryd.func46 rfl Tryd.ntmps46 rfl fun w0 hge => ?_
  have hst := hb.start
  have hbig := hb.big
  subst hr
  have hnl := hpn.le
  have hrl : (rhCs (cut255 x.name) x.typ x.cls x.ttl x.len).length = 260 := rhCs_len _ (by omega) _ _ _ _
  cases hp : packN (b.buf.length - b.start) r.isSome (cut255 x.name) b.m with
  | err m1 =>
    have heff : ptrAdder.eff x r.isSome b = ({ b with m := m1 }, 3) := by simp only [ptrAdder, recAdder, recF, hp]
    rw [heff]
    refine CodeJ.seq ?_
    refine CodeJ.region ?_
    refine OpsJ.op rfl ?_
    refine OpJ.box rfl rfl rfl rfl fun hd hhd => ?_
    refine OpsJ.op rfl ?_
    refine OpJ.box rfl rfl rfl rfl fun rb hrb => ?_
    refine OpsJ.yld rfl rfl rfl (Yld.assign rfl rfl) ?_
    refine OpsJ.nil ?_
    refine ExJ.thenN ?_
    refine CodeJ.seq ?_
    refine CodeJ.seq ?_
    refine CodeJ.region ?_
    refine OpsJ.yld rfl rfl rfl (Yld.move rfl rfl) ?_
    refine OpsJ.op rfl ?_
    refine OpJ.call (checkRes_ok b bb p c r h3 h5) has_76 rfl rfl rfl rfl rfl [2, 3, 4] [0, 1] (by decide) rfl rfl (fun _ _ => trivial) ?_
    rintro _ _ ⟨rfl, rfl⟩
    refine OpsJ.yld rfl rfl rfl (Yld.assign rfl rfl) ?_
    refine OpsJ.nil ?_
    refine ExJ.thenN ?_
    refine CodeJ.seq ?_
    refine CodeJ.region ?_
    refine OpsJ.yld rfl rfl rfl (Yld.move rfl rfl) ?_
    refine OpsJ.yld rfl rfl rfl (Yld.ifaceNeNil rfl Tryd.underlying83 rfl rfl) ?_
    refine OpsJ.nil ?_
    refine ExJ.thenN ?_
    refine CodeJ.condF rfl ?_
    refine CodeJ.skip ?_
    refine ExJ.thenN ?_
    refine CodeJ.seq ?_
    refine CodeJ.region ?_
    refine OpsJ.op rfl ?_
    refine OpJ.call (ptrType_spec _) has_88 rfl rfl rfl rfl rfl [] [0, 1, 2, 3, 4] (by decide) rfl rfl (fun _ _ => trivial) ?_
    rintro _ _ ⟨rfl, rfl⟩
    refine OpsJ.yld rfl rfl rfl (Yld.fieldAddr fa_81_1 rfl rfl) ?_
    refine OpsJ.op rfl ?_
    refine OpJ.store1 (i := 4) rfl rfl rfl rfl rfl sz_78 rfl (by show (0 + 256 + 1).ble (rhCs (cut255 x.name) x.typ x.cls x.ttl x.len).toArray.size = true; rw [List.size_toArray, hrl]; rfl) ?_
    refine OpsJ.congrH (congrArg (fun z => List.set _ 4 (Res.blk hd z _)) (rh_setT (cut255 x.name) (by omega) x.typ x.cls x.ttl x.len (12))) ?_
    refine OpsJ.nil ?_
    refine ExJ.thenN ?_
    refine CodeJ.seq ?_
    refine CodeJ.any (fuel := 20) (listed := #[false, false, false, false, false, false, false, false, false, false, false, false, false, false, false, false, false, false, false, false]) [0, 3, 4] rfl follows_mixed rfl rfl ?_
    refine AnyJ.take (fuel := 19) (listed' := #[true, false, false, false, false, false, false, false, false, false, false, false, false, false, false, false, false, false, false, false]) 0 rfl (by kernel_rfl) (by kernel_rfl) (by kernel_rfl) rfl rfl rfl rfl (Yld.move rfl rfl) (fun w hI => hI.pick (is := [0, 3, 4]) (by decide) rfl) ?_
    refine AnyJ.take (fuel := 18) (listed' := #[true, true, false, false, false, false, false, false, false, false, false, false, false, false, false, false, false, false, false, false]) 1 rfl (by kernel_rfl) (by kernel_rfl) (by kernel_rfl) rfl rfl rfl rfl (Yld.nilCheck rfl rfl) (fun w hI => hI.pick (is := [0, 3, 4]) (by decide) rfl) ?_
    refine AnyJ.take (fuel := 17) (listed' := #[true, true, true, false, false, false, false, false, false, false, false, false, false, false, false, false, false, false, false, false]) 2 rfl (by kernel_rfl) (by kernel_rfl) (by kernel_rfl) rfl rfl rfl rfl (Yld.fieldAddr fa_127_0 rfl rfl) (fun w hI => hI.pick (is := [0, 3, 4]) (by decide) rfl) ?_
    refine AnyJ.take (fuel := 16) (listed' := #[true, true, true, true, false, false, false, false, false, false, false, false, false, false, false, false, false, false, false, false]) 3 rfl (by kernel_rfl) (by kernel_rfl) (by kernel_rfl) rfl rfl rfl rfl (Yld.load1 rfl Tryd.underlying39 rfl rfl (fun w hI => Inv.cell1 hI (i := 0) rfl rfl)) (fun w hI => hI.pick (is := [0, 3, 4]) (by decide) rfl) ?_
    refine AnyJ.take (fuel := 15) (listed' := #[true, true, true, true, true, false, false, false, false, false, false, false, false, false, false, false, false, false, false, false]) 4 rfl (by kernel_rfl) (by kernel_rfl) (by kernel_rfl) rfl rfl rfl rfl (Yld.move rfl rfl) (fun w hI => hI.pick (is := [0, 3, 4]) (by decide) rfl) ?_
    refine AnyJ.take (fuel := 14) (listed' := #[true, true, true, true, true, true, false, false, false, false, false, false, false, false, false, false, false, false, false, false]) 5 rfl (by kernel_rfl) (by kernel_rfl) (by kernel_rfl) rfl rfl rfl rfl (Yld.nilCheck rfl rfl) (fun w hI => hI.pick (is := [0, 3, 4]) (by decide) rfl) ?_
    refine AnyJ.take (fuel := 13) (listed' := #[true, true, true, true, true, true, true, false, false, false, false, false, false, false, false, false, false, false, false, false]) 6 rfl (by kernel_rfl) (by kernel_rfl) (by kernel_rfl) rfl rfl rfl rfl (Yld.fieldAddr fa_127_4 rfl rfl) (fun w hI => hI.pick (is := [0, 3, 4]) (by decide) rfl) ?_
    refine AnyJ.take (fuel := 12) (listed' := #[true, true, true, true, true, true, true, true, false, false, false, false, false, false, false, false, false, false, false, false]) 7 rfl (by kernel_rfl) (by kernel_rfl) (by kernel_rfl) rfl rfl rfl rfl (Yld.load1 rfl Tryd.underlying125 rfl rfl (fun w hI => Inv.cell1 hI (i := 0) rfl rfl)) (fun w hI => hI.pick (is := [0, 3, 4]) (by decide) rfl) ?_
    refine AnyJ.take (fuel := 11) (listed' := #[true, true, true, true, true, true, true, true, true, false, false, false, false, false, false, false, false, false, false, false]) 8 rfl (by kernel_rfl) (by kernel_rfl) (by kernel_rfl) rfl rfl rfl rfl (Yld.move rfl rfl) (fun w hI => hI.pick (is := [0, 3, 4]) (by decide) rfl) ?_
    refine AnyJ.take (fuel := 10) (listed' := #[true, true, true, true, true, true, true, true, true, true, false, false, false, false, false, false, false, false, false, false]) 9 rfl (by kernel_rfl) (by kernel_rfl) (by kernel_rfl) rfl rfl rfl rfl (Yld.nilCheck rfl rfl) (fun w hI => hI.pick (is := [0, 3, 4]) (by decide) rfl) ?_
    refine AnyJ.take (fuel := 9) (listed' := #[true, true, true, true, true, true, true, true, true, true, true, false, false, false, false, false, false, false, false, false]) 10 rfl (by kernel_rfl) (by kernel_rfl) (by kernel_rfl) rfl rfl rfl rfl (Yld.fieldAddr fa_127_3 rfl rfl) (fun w hI => hI.pick (is := [0, 3, 4]) (by decide) rfl) ?_
    refine AnyJ.take (fuel := 8) (listed' := #[true, true, true, true, true, true, true, true, true, true, true, true, false, false, false, false, false, false, false, false]) 11 rfl (by kernel_rfl) (by kernel_rfl) (by kernel_rfl) rfl rfl rfl rfl (Yld.load1 rfl Tryd.underlying3 rfl rfl (fun w hI => Inv.cell1 hI (i := 0) rfl rfl)) (fun w hI => hI.pick (is := [0, 3, 4]) (by decide) rfl) ?_
    refine AnyJ.one (fuel := 7) 12 (by kernel_rfl) ?_
    refine StepJ.op (listed' := #[true, true, true, true, true, true, true, true, true, true, true, true, true, false, false, false, false, false, false, false]) rfl rfl rfl ?_
    refine OpJ.call (rhPack_spec G (cut255 x.name) hpn (12) x.cls x.ttl x.len httl hd b.start (.slice p b.buf.length c) b.buf b.buf p c r b.m (by omega) hbig hb.small) has_78 rfl rfl rfl rfl rfl [1, 2] [0, 3, 4] (by decide) rfl rfl (fun w hI => ⟨Inv.whole hI (i := 4) rfl, hI.apart (i := 4) rfl (is := [1, 2]) (by decide) rfl hd (by simp [Res.ats]), hge.call hI (is := [1, 2]) rfl⟩) ?_
    rintro _ _ hpost
    rw [hp] at hpost
    obtain ⟨u1, u2, a34, rfl, rfl⟩ := hpost
    refine ⟨fun w hI => hI.pick (is := [2, 3, 4]) (by decide) rfl, ?_⟩
    refine AnyJ.take (fuel := 6) (listed' := #[true, true, true, true, true, true, true, true, true, true, true, true, true, true, false, false, false, false, false, false]) 13 rfl (by kernel_rfl) (by kernel_rfl) (by kernel_rfl) rfl rfl rfl rfl (Yld.move rfl rfl) (fun w hI => hI.pick (is := [2, 3, 4]) (by decide) rfl) ?_
    refine AnyJ.take (fuel := 5) (listed' := #[true, true, true, true, true, true, true, true, true, true, true, true, true, true, true, false, false, false, false, false]) 14 rfl (by kernel_rfl) (by kernel_rfl) (by kernel_rfl) rfl rfl rfl rfl (Yld.extract rfl rfl rfl) (fun w hI => hI.pick (is := [2, 3, 4]) (by decide) rfl) ?_
    refine AnyJ.take (fuel := 4) (listed' := #[true, true, true, true, true, true, true, true, true, true, true, true, true, true, true, true, false, false, false, false]) 15 rfl (by kernel_rfl) (by kernel_rfl) (by kernel_rfl) rfl rfl rfl rfl (Yld.extract rfl rfl rfl) (fun w hI => hI.pick (is := [2, 3, 4]) (by decide) rfl) ?_
    refine AnyJ.take (fuel := 3) (listed' := #[true, true, true, true, true, true, true, true, true, true, true, true, true, true, true, true, true, false, false, false]) 16 rfl (by kernel_rfl) (by kernel_rfl) (by kernel_rfl) rfl rfl rfl rfl (Yld.extract rfl rfl rfl) (fun w hI => hI.pick (is := [2, 3, 4]) (by decide) rfl) ?_
    refine AnyJ.take (fuel := 2) (listed' := #[true, true, true, true, true, true, true, true, true, true, true, true, true, true, true, true, true, true, false, false]) 17 rfl (by kernel_rfl) (by kernel_rfl) (by kernel_rfl) rfl rfl rfl rfl (Yld.assign rfl rfl) (fun w hI => hI.pick (is := [2, 3, 4]) (by decide) rfl) ?_
    refine AnyJ.take (fuel := 1) (listed' := #[true, true, true, true, true, true, true, true, true, true, true, true, true, true, true, true, true, true, true, false]) 18 rfl (by kernel_rfl) (by kernel_rfl) (by kernel_rfl) rfl rfl rfl rfl (Yld.assign rfl rfl) (fun w hI => hI.pick (is := [2, 3, 4]) (by decide) rfl) ?_
    refine AnyJ.take (fuel := 0) (listed' := #[true, true, true, true, true, true, true, true, true, true, true, true, true, true, true, true, true, true, true, true]) 19 rfl (by kernel_rfl) (by kernel_rfl) (by kernel_rfl) rfl rfl rfl rfl (Yld.assign rfl rfl) (fun w hI => hI.pick (is := [2, 3, 4]) (by decide) rfl) ?_
    refine AnyJ.done (by kernel_rfl) ?_
    refine ExJ.thenN ?_
    refine CodeJ.seq ?_
    refine CodeJ.seq ?_
    refine CodeJ.region ?_
    refine OpsJ.yld rfl rfl rfl (Yld.move rfl rfl) ?_
    refine OpsJ.yld rfl rfl rfl (Yld.ifaceNeNil rfl Tryd.underlying83 rfl rfl) ?_
    refine OpsJ.nil ?_
    refine ExJ.thenN ?_
    refine CodeJ.condT rfl ?_
    refine CodeJ.seq ?_
    refine CodeJ.region ?_
    refine OpsJ.yld rfl rfl rfl (Yld.move rfl rfl) ?_
    refine OpsJ.yld rfl rfl rfl (Yld.build places_148 zero_148 rfl rfl rfl) ?_
    refine OpsJ.op rfl ?_
    refine OpJ.box rfl rfl rfl rfl fun ne hne => ?_
    refine OpsJ.yld rfl rfl rfl (Yld.makeInterface rfl Tryd.underlying146 rfl rfl) ?_
    refine OpsJ.yld rfl rfl rfl (Yld.assign rfl rfl) ?_
    refine OpsJ.nil ?_
    refine ExJ.thenN ?_
    refine CodeJ.ret ?_
    refine ExJ.thenR ?_
    exact ExJ.ret1 Tryd.results46 rfl ⟨.inr (.inr ⟨rfl, _, rfl⟩), p, c, rfl⟩ fun w hI => hI.pick (is := [3, 1, 2]) (by decide) rfl
  | ok ys m1 =>
    obtain ⟨hpok, hblen⟩ := hbody ⟨ys, m1, hp⟩
    have hys := packN_len hp
    have hm1 : ∀ x ∈ m1, x.2 < 65536 := by
      have := packN_small (b.buf.length - b.start) r.isSome (cut255 x.name) b.m hb.small
      rw [hp] at this
      exact this
    have hrel : (b.buf ++ ys ++ rh10 (12) x.cls x.ttl x.len).length - b.start = b.rel + ys.length + 10 := by
      simp only [List.length_append, rh10_len, Bd.rel]
      omega
    cases hq : ptrPk (b.rel + ys.length + 10) r.isSome x m1 with
    | err m2 =>
      have heff : ptrAdder.eff x r.isSome b = ({ b with m := m2 }, 3) := by simp only [ptrAdder, recAdder, recF, hp, hq]
      simp only [ptrPk] at hq
      rw [heff]
      refine CodeJ.seq ?_
      refine CodeJ.region ?_
      refine OpsJ.op rfl ?_
      refine OpJ.box rfl rfl rfl rfl fun hd hhd => ?_
      refine OpsJ.op rfl ?_
      refine OpJ.box rfl rfl rfl rfl fun rb hrb => ?_
      refine OpsJ.yld rfl rfl rfl (Yld.assign rfl rfl) ?_
      refine OpsJ.nil ?_
      refine ExJ.thenN ?_
      refine CodeJ.seq ?_
      refine CodeJ.seq ?_
      refine CodeJ.region ?_
      refine OpsJ.yld rfl rfl rfl (Yld.move rfl rfl) ?_
      refine OpsJ.op rfl ?_
      refine OpJ.call (checkRes_ok b bb p c r h3 h5) has_76 rfl rfl rfl rfl rfl [2, 3, 4] [0, 1] (by decide) rfl rfl (fun _ _ => trivial) ?_
      rintro _ _ ⟨rfl, rfl⟩
      refine OpsJ.yld rfl rfl rfl (Yld.assign rfl rfl) ?_
      refine OpsJ.nil ?_
      refine ExJ.thenN ?_
      refine CodeJ.seq ?_
      refine CodeJ.region ?_
      refine OpsJ.yld rfl rfl rfl (Yld.move rfl rfl) ?_
      refine OpsJ.yld rfl rfl rfl (Yld.ifaceNeNil rfl Tryd.underlying83 rfl rfl) ?_
      refine OpsJ.nil ?_
      refine ExJ.thenN ?_
      refine CodeJ.condF rfl ?_
      refine CodeJ.skip ?_
      refine ExJ.thenN ?_
      refine CodeJ.seq ?_
      refine CodeJ.region ?_
      refine OpsJ.op rfl ?_
      refine OpJ.call (ptrType_spec _) has_88 rfl rfl rfl rfl rfl [] [0, 1, 2, 3, 4] (by decide) rfl rfl (fun _ _ => trivial) ?_
      rintro _ _ ⟨rfl, rfl⟩
      refine OpsJ.yld rfl rfl rfl (Yld.fieldAddr fa_81_1 rfl rfl) ?_
      refine OpsJ.op rfl ?_
      refine OpJ.store1 (i := 4) rfl rfl rfl rfl rfl sz_78 rfl (by show (0 + 256 + 1).ble (rhCs (cut255 x.name) x.typ x.cls x.ttl x.len).toArray.size = true; rw [List.size_toArray, hrl]; rfl) ?_
      refine OpsJ.congrH (congrArg (fun z => List.set _ 4 (Res.blk hd z _)) (rh_setT (cut255 x.name) (by omega) x.typ x.cls x.ttl x.len (12))) ?_
      refine OpsJ.nil ?_
      refine ExJ.thenN ?_
      refine CodeJ.seq ?_
      refine CodeJ.any (fuel := 20) (listed := #[false, false, false, false, false, false, false, false, false, false, false, false, false, false, false, false, false, false, false, false]) [0, 3, 4] rfl follows_mixed rfl rfl ?_
      refine AnyJ.take (fuel := 19) (listed' := #[true, false, false, false, false, false, false, false, false, false, false, false, false, false, false, false, false, false, false, false]) 0 rfl (by kernel_rfl) (by kernel_rfl) (by kernel_rfl) rfl rfl rfl rfl (Yld.move rfl rfl) (fun w hI => hI.pick (is := [0, 3, 4]) (by decide) rfl) ?_
      refine AnyJ.take (fuel := 18) (listed' := #[true, true, false, false, false, false, false, false, false, false, false, false, false, false, false, false, false, false, false, false]) 1 rfl (by kernel_rfl) (by kernel_rfl) (by kernel_rfl) rfl rfl rfl rfl (Yld.nilCheck rfl rfl) (fun w hI => hI.pick (is := [0, 3, 4]) (by decide) rfl) ?_
      refine AnyJ.take (fuel := 17) (listed' := #[true, true, true, false, false, false, false, false, false, false, false, false, false, false, false, false, false, false, false, false]) 2 rfl (by kernel_rfl) (by kernel_rfl) (by kernel_rfl) rfl rfl rfl rfl (Yld.fieldAddr fa_127_0 rfl rfl) (fun w hI => hI.pick (is := [0, 3, 4]) (by decide) rfl) ?_
      refine AnyJ.take (fuel := 16) (listed' := #[true, true, true, true, false, false, false, false, false, false, false, false, false, false, false, false, false, false, false, false]) 3 rfl (by kernel_rfl) (by kernel_rfl) (by kernel_rfl) rfl rfl rfl rfl (Yld.load1 rfl Tryd.underlying39 rfl rfl (fun w hI => Inv.cell1 hI (i := 0) rfl rfl)) (fun w hI => hI.pick (is := [0, 3, 4]) (by decide) rfl) ?_
      refine AnyJ.take (fuel := 15) (listed' := #[true, true, true, true, true, false, false, false, false, false, false, false, false, false, false, false, false, false, false, false]) 4 rfl (by kernel_rfl) (by kernel_rfl) (by kernel_rfl) rfl rfl rfl rfl (Yld.move rfl rfl) (fun w hI => hI.pick (is := [0, 3, 4]) (by decide) rfl) ?_
      refine AnyJ.take (fuel := 14) (listed' := #[true, true, true, true, true, true, false, false, false, false, false, false, false, false, false, false, false, false, false, false]) 5 rfl (by kernel_rfl) (by kernel_rfl) (by kernel_rfl) rfl rfl rfl rfl (Yld.nilCheck rfl rfl) (fun w hI => hI.pick (is := [0, 3, 4]) (by decide) rfl) ?_
      refine AnyJ.take (fuel := 13) (listed' := #[true, true, true, true, true, true, true, false, false, false, false, false, false, false, false, false, false, false, false, false]) 6 rfl (by kernel_rfl) (by kernel_rfl) (by kernel_rfl) rfl rfl rfl rfl (Yld.fieldAddr fa_127_4 rfl rfl) (fun w hI => hI.pick (is := [0, 3, 4]) (by decide) rfl) ?_
      refine AnyJ.take (fuel := 12) (listed' := #[true, true, true, true, true, true, true, true, false, false, false, false, false, false, false, false, false, false, false, false]) 7 rfl (by kernel_rfl) (by kernel_rfl) (by kernel_rfl) rfl rfl rfl rfl (Yld.load1 rfl Tryd.underlying125 rfl rfl (fun w hI => Inv.cell1 hI (i := 0) rfl rfl)) (fun w hI => hI.pick (is := [0, 3, 4]) (by decide) rfl) ?_
      refine AnyJ.take (fuel := 11) (listed' := #[true, true, true, true, true, true, true, true, true, false, false, false, false, false, false, false, false, false, false, false]) 8 rfl (by kernel_rfl) (by kernel_rfl) (by kernel_rfl) rfl rfl rfl rfl (Yld.move rfl rfl) (fun w hI => hI.pick (is := [0, 3, 4]) (by decide) rfl) ?_
      refine AnyJ.take (fuel := 10) (listed' := #[true, true, true, true, true, true, true, true, true, true, false, false, false, false, false, false, false, false, false, false]) 9 rfl (by kernel_rfl) (by kernel_rfl) (by kernel_rfl) rfl rfl rfl rfl (Yld.nilCheck rfl rfl) (fun w hI => hI.pick (is := [0, 3, 4]) (by decide) rfl) ?_
      refine AnyJ.take (fuel := 9) (listed' := #[true, true, true, true, true, true, true, true, true, true, true, false, false, false, false, false, false, false, false, false]) 10 rfl (by kernel_rfl) (by kernel_rfl) (by kernel_rfl) rfl rfl rfl rfl (Yld.fieldAddr fa_127_3 rfl rfl) (fun w hI => hI.pick (is := [0, 3, 4]) (by decide) rfl) ?_
      refine AnyJ.take (fuel := 8) (listed' := #[true, true, true, true, true, true, true, true, true, true, true, true, false, false, false, false, false, false, false, false]) 11 rfl (by kernel_rfl) (by kernel_rfl) (by kernel_rfl) rfl rfl rfl rfl (Yld.load1 rfl Tryd.underlying3 rfl rfl (fun w hI => Inv.cell1 hI (i := 0) rfl rfl)) (fun w hI => hI.pick (is := [0, 3, 4]) (by decide) rfl) ?_
      refine AnyJ.one (fuel := 7) 12 (by kernel_rfl) ?_
      refine StepJ.op (listed' := #[true, true, true, true, true, true, true, true, true, true, true, true, true, false, false, false, false, false, false, false]) rfl rfl rfl ?_
      refine OpJ.call (rhPack_spec G (cut255 x.name) hpn (12) x.cls x.ttl x.len httl hd b.start (.slice p b.buf.length c) b.buf b.buf p c r b.m (by omega) hbig hb.small) has_78 rfl rfl rfl rfl rfl [1, 2] [0, 3, 4] (by decide) rfl rfl (fun w hI => ⟨Inv.whole hI (i := 4) rfl, hI.apart (i := 4) rfl (is := [1, 2]) (by decide) rfl hd (by simp [Res.ats]), hge.call hI (is := [1, 2]) rfl⟩) ?_
      rintro _ _ hpost
      rw [hp] at hpost
      obtain ⟨p34, c34, rfl, rfl⟩ := hpost
      refine ⟨fun w hI => hI.pick (is := [2, 3, 4]) (by decide) rfl, ?_⟩
      refine AnyJ.take (fuel := 6) (listed' := #[true, true, true, true, true, true, true, true, true, true, true, true, true, true, false, false, false, false, false, false]) 13 rfl (by kernel_rfl) (by kernel_rfl) (by kernel_rfl) rfl rfl rfl rfl (Yld.move rfl rfl) (fun w hI => hI.pick (is := [2, 3, 4]) (by decide) rfl) ?_
      refine AnyJ.take (fuel := 5) (listed' := #[true, true, true, true, true, true, true, true, true, true, true, true, true, true, true, false, false, false, false, false]) 14 rfl (by kernel_rfl) (by kernel_rfl) (by kernel_rfl) rfl rfl rfl rfl (Yld.extract rfl rfl rfl) (fun w hI => hI.pick (is := [2, 3, 4]) (by decide) rfl) ?_
      refine AnyJ.take (fuel := 4) (listed' := #[true, true, true, true, true, true, true, true, true, true, true, true, true, true, true, true, false, false, false, false]) 15 rfl (by kernel_rfl) (by kernel_rfl) (by kernel_rfl) rfl rfl rfl rfl (Yld.extract rfl rfl rfl) (fun w hI => hI.pick (is := [2, 3, 4]) (by decide) rfl) ?_
      refine AnyJ.take (fuel := 3) (listed' := #[true, true, true, true, true, true, true, true, true, true, true, true, true, true, true, true, true, false, false, false]) 16 rfl (by kernel_rfl) (by kernel_rfl) (by kernel_rfl) rfl rfl rfl rfl (Yld.extract rfl rfl rfl) (fun w hI => hI.pick (is := [2, 3, 4]) (by decide) rfl) ?_
      refine AnyJ.take (fuel := 2) (listed' := #[true, true, true, true, true, true, true, true, true, true, true, true, true, true, true, true, true, true, false, false]) 17 rfl (by kernel_rfl) (by kernel_rfl) (by kernel_rfl) rfl rfl rfl rfl (Yld.assign rfl rfl) (fun w hI => hI.pick (is := [2, 3, 4]) (by decide) rfl) ?_
      refine AnyJ.take (fuel := 1) (listed' := #[true, true, true, true, true, true, true, true, true, true, true, true, true, true, true, true, true, true, true, false]) 18 rfl (by kernel_rfl) (by kernel_rfl) (by kernel_rfl) rfl rfl rfl rfl (Yld.assign rfl rfl) (fun w hI => hI.pick (is := [2, 3, 4]) (by decide) rfl) ?_
      refine AnyJ.take (fuel := 0) (listed' := #[true, true, true, true, true, true, true, true, true, true, true, true, true, true, true, true, true, true, true, true]) 19 rfl (by kernel_rfl) (by kernel_rfl) (by kernel_rfl) rfl rfl rfl rfl (Yld.assign rfl rfl) (fun w hI => hI.pick (is := [2, 3, 4]) (by decide) rfl) ?_
      refine AnyJ.done (by kernel_rfl) ?_
      refine ExJ.thenN ?_
      refine CodeJ.seq ?_
      refine CodeJ.seq ?_
      refine CodeJ.region ?_
      refine OpsJ.yld rfl rfl rfl (Yld.move rfl rfl) ?_
      refine OpsJ.yld rfl rfl rfl (Yld.ifaceNeNil rfl Tryd.underlying83 rfl rfl) ?_
      refine OpsJ.nil ?_
      refine ExJ.thenN ?_
      refine CodeJ.condF rfl ?_
      refine CodeJ.skip ?_
      refine ExJ.thenN ?_
      refine CodeJ.seq ?_
      refine CodeJ.region ?_
      refine OpsJ.yld rfl rfl rfl (Yld.move rfl rfl) ?_
      refine OpsJ.yld rfl rfl rfl (Yld.lenSlice rfl rfl rfl Tryd.underlying39 rfl) ?_
      refine OpsJ.yld rfl rfl rfl (Yld.assign rfl rfl) ?_
      refine OpsJ.nil ?_
      refine ExJ.thenN ?_
      refine CodeJ.seq ?_
      refine CodeJ.seq ?_
      refine CodeJ.any (fuel := 15) (listed := #[false, false, false, false, false, false, false, false, false, false, false, false, false, false, false]) [2, 3, 4] rfl follows_mixed rfl rfl ?_
      refine AnyJ.take (fuel := 14) (listed' := #[true, false, false, false, false, false, false, false, false, false, false, false, false, false, false]) 0 rfl (by kernel_rfl) (by kernel_rfl) (by kernel_rfl) rfl rfl rfl rfl (Yld.move rfl rfl) (fun w hI => hI.pick (is := [2, 3, 4]) (by decide) rfl) ?_
      refine AnyJ.take (fuel := 13) (listed' := #[true, true, false, false, false, false, false, false, false, false, false, false, false, false, false]) 1 rfl (by kernel_rfl) (by kernel_rfl) (by kernel_rfl) rfl rfl rfl rfl (Yld.move rfl rfl) (fun w hI => hI.pick (is := [2, 3, 4]) (by decide) rfl) ?_
      refine AnyJ.take (fuel := 12) (listed' := #[true, true, true, false, false, false, false, false, false, false, false, false, false, false, false]) 2 rfl (by kernel_rfl) (by kernel_rfl) (by kernel_rfl) rfl rfl rfl rfl (Yld.nilCheck rfl rfl) (fun w hI => hI.pick (is := [2, 3, 4]) (by decide) rfl) ?_
      refine AnyJ.take (fuel := 11) (listed' := #[true, true, true, true, false, false, false, false, false, false, false, false, false, false, false]) 3 rfl (by kernel_rfl) (by kernel_rfl) (by kernel_rfl) rfl rfl rfl rfl (Yld.fieldAddr fa_127_4 rfl rfl) (fun w hI => hI.pick (is := [2, 3, 4]) (by decide) rfl) ?_
      refine AnyJ.take (fuel := 10) (listed' := #[true, true, true, true, true, false, false, false, false, false, false, false, false, false, false]) 4 rfl (by kernel_rfl) (by kernel_rfl) (by kernel_rfl) rfl rfl rfl rfl (Yld.load1 rfl Tryd.underlying125 rfl rfl (fun w hI => Inv.cell1 hI (i := 0) rfl rfl)) (fun w hI => hI.pick (is := [2, 3, 4]) (by decide) rfl) ?_
      refine AnyJ.take (fuel := 9) (listed' := #[true, true, true, true, true, true, false, false, false, false, false, false, false, false, false]) 5 rfl (by kernel_rfl) (by kernel_rfl) (by kernel_rfl) rfl rfl rfl rfl (Yld.move rfl rfl) (fun w hI => hI.pick (is := [2, 3, 4]) (by decide) rfl) ?_
      refine AnyJ.take (fuel := 8) (listed' := #[true, true, true, true, true, true, true, false, false, false, false, false, false, false, false]) 6 rfl (by kernel_rfl) (by kernel_rfl) (by kernel_rfl) rfl rfl rfl rfl (Yld.nilCheck rfl rfl) (fun w hI => hI.pick (is := [2, 3, 4]) (by decide) rfl) ?_
      refine AnyJ.take (fuel := 7) (listed' := #[true, true, true, true, true, true, true, true, false, false, false, false, false, false, false]) 7 rfl (by kernel_rfl) (by kernel_rfl) (by kernel_rfl) rfl rfl rfl rfl (Yld.fieldAddr fa_127_3 rfl rfl) (fun w hI => hI.pick (is := [2, 3, 4]) (by decide) rfl) ?_
      refine AnyJ.take (fuel := 6) (listed' := #[true, true, true, true, true, true, true, true, true, false, false, false, false, false, false]) 8 rfl (by kernel_rfl) (by kernel_rfl) (by kernel_rfl) rfl rfl rfl rfl (Yld.load1 rfl Tryd.underlying3 rfl rfl (fun w hI => Inv.cell1 hI (i := 0) rfl rfl)) (fun w hI => hI.pick (is := [2, 3, 4]) (by decide) rfl) ?_
      refine AnyJ.one (fuel := 5) 9 (by kernel_rfl) ?_
      refine StepJ.op (listed' := #[true, true, true, true, true, true, true, true, true, true, false, false, false, false, false]) rfl rfl rfl ?_
      refine OpJ.call (ptrPack_spec G (cut255 x.host) hpok rb b.start (.slice p b.buf.length c) b.buf (b.buf ++ ys ++ rh10 (12) x.cls x.ttl x.len) p34 c34 r m1 (by simp; omega) (by simp [rh10_len]; omega) hm1) has_89 rfl rfl rfl rfl rfl [0, 1] [2, 3, 4] (by decide) rfl rfl (fun w hI => ⟨Inv.whole hI (i := 3) rfl, hI.apart (i := 3) rfl (is := [0, 1]) (by decide) rfl rb (by simp [Res.ats]), hge.call hI (is := [0, 1]) rfl⟩) ?_
      rintro _ _ hpost
      rw [hrel] at hpost
      rw [hq] at hpost
      obtain ⟨u56, t56, e56, rfl, rfl⟩ := hpost
      refine ⟨fun w hI => hI.pick (is := [2, 3, 4]) (by decide) rfl, ?_⟩
      refine AnyJ.take (fuel := 4) (listed' := #[true, true, true, true, true, true, true, true, true, true, true, false, false, false, false]) 10 rfl (by kernel_rfl) (by kernel_rfl) (by kernel_rfl) rfl rfl rfl rfl (Yld.move rfl rfl) (fun w hI => hI.pick (is := [2, 3, 4]) (by decide) rfl) ?_
      refine AnyJ.take (fuel := 3) (listed' := #[true, true, true, true, true, true, true, true, true, true, true, true, false, false, false]) 11 rfl (by kernel_rfl) (by kernel_rfl) (by kernel_rfl) rfl rfl rfl rfl (Yld.extract rfl rfl rfl) (fun w hI => hI.pick (is := [2, 3, 4]) (by decide) rfl) ?_
      refine AnyJ.take (fuel := 2) (listed' := #[true, true, true, true, true, true, true, true, true, true, true, true, true, false, false]) 12 rfl (by kernel_rfl) (by kernel_rfl) (by kernel_rfl) rfl rfl rfl rfl (Yld.extract rfl rfl rfl) (fun w hI => hI.pick (is := [2, 3, 4]) (by decide) rfl) ?_
      refine AnyJ.take (fuel := 1) (listed' := #[true, true, true, true, true, true, true, true, true, true, true, true, true, true, false]) 13 rfl (by kernel_rfl) (by kernel_rfl) (by kernel_rfl) rfl rfl rfl rfl (Yld.assign rfl rfl) (fun w hI => hI.pick (is := [2, 3, 4]) (by decide) rfl) ?_
      refine AnyJ.take (fuel := 0) (listed' := #[true, true, true, true, true, true, true, true, true, true, true, true, true, true, true]) 14 rfl (by kernel_rfl) (by kernel_rfl) (by kernel_rfl) rfl rfl rfl rfl (Yld.assign rfl rfl) (fun w hI => hI.pick (is := [2, 3, 4]) (by decide) rfl) ?_
      refine AnyJ.done (by kernel_rfl) ?_
      refine ExJ.thenN ?_
      refine CodeJ.seq ?_
      refine CodeJ.region ?_
      refine OpsJ.yld rfl rfl rfl (Yld.move rfl rfl) ?_
      refine OpsJ.yld rfl rfl rfl (Yld.ifaceNeNil rfl Tryd.underlying83 rfl rfl) ?_
      refine OpsJ.nil ?_
      refine ExJ.thenN ?_
      refine CodeJ.condT rfl ?_
      refine CodeJ.seq ?_
      refine CodeJ.region ?_
      refine OpsJ.yld rfl rfl rfl (Yld.move rfl rfl) ?_
      refine OpsJ.yld rfl rfl rfl (Yld.build places_148 zero_148 rfl rfl rfl) ?_
      refine OpsJ.op rfl ?_
      refine OpJ.box rfl rfl rfl rfl fun ne hne => ?_
      refine OpsJ.yld rfl rfl rfl (Yld.makeInterface rfl Tryd.underlying146 rfl rfl) ?_
      refine OpsJ.yld rfl rfl rfl (Yld.assign rfl rfl) ?_
      refine OpsJ.nil ?_
      refine ExJ.thenN ?_
      refine CodeJ.ret ?_
      refine ExJ.thenR ?_
      exact ExJ.ret1 Tryd.results46 rfl ⟨.inr (.inr ⟨rfl, _, rfl⟩), p, c, rfl⟩ fun w hI => hI.pick (is := [3, 1, 2]) (by decide) rfl
    | ok zs m2 =>
      have hzl := hblen _ _ _ _ hq
      have heff : ptrAdder.eff x r.isSome b = (({ b with buf := b.buf ++ ys ++ rh10 (12) x.cls x.ttl zs.length ++ zs, m := m2 } : Bd).incr, 0) := by simp only [ptrAdder, recAdder, recF, hp, hq]
      simp only [ptrPk] at hq
      rw [heff]
      refine CodeJ.seq ?_
      refine CodeJ.region ?_
      refine OpsJ.op rfl ?_
      refine OpJ.box rfl rfl rfl rfl fun hd hhd => ?_
      refine OpsJ.op rfl ?_
      refine OpJ.box rfl rfl rfl rfl fun rb hrb => ?_
      refine OpsJ.yld rfl rfl rfl (Yld.assign rfl rfl) ?_
      refine OpsJ.nil ?_
      refine ExJ.thenN ?_
      refine CodeJ.seq ?_
      refine CodeJ.seq ?_
      refine CodeJ.region ?_
      refine OpsJ.yld rfl rfl rfl (Yld.move rfl rfl) ?_
      refine OpsJ.op rfl ?_
      refine OpJ.call (checkRes_ok b bb p c r h3 h5) has_76 rfl rfl rfl rfl rfl [2, 3, 4] [0, 1] (by decide) rfl rfl (fun _ _ => trivial) ?_
      rintro _ _ ⟨rfl, rfl⟩
      refine OpsJ.yld rfl rfl rfl (Yld.assign rfl rfl) ?_
      refine OpsJ.nil ?_
      refine ExJ.thenN ?_
      refine CodeJ.seq ?_
      refine CodeJ.region ?_
      refine OpsJ.yld rfl rfl rfl (Yld.move rfl rfl) ?_
      refine OpsJ.yld rfl rfl rfl (Yld.ifaceNeNil rfl Tryd.underlying83 rfl rfl) ?_
      refine OpsJ.nil ?_
      refine ExJ.thenN ?_
      refine CodeJ.condF rfl ?_
      refine CodeJ.skip ?_
      refine ExJ.thenN ?_
      refine CodeJ.seq ?_
      refine CodeJ.region ?_
      refine OpsJ.op rfl ?_
      refine OpJ.call (ptrType_spec _) has_88 rfl rfl rfl rfl rfl [] [0, 1, 2, 3, 4] (by decide) rfl rfl (fun _ _ => trivial) ?_
      rintro _ _ ⟨rfl, rfl⟩
      refine OpsJ.yld rfl rfl rfl (Yld.fieldAddr fa_81_1 rfl rfl) ?_
      refine OpsJ.op rfl ?_
      refine OpJ.store1 (i := 4) rfl rfl rfl rfl rfl sz_78 rfl (by show (0 + 256 + 1).ble (rhCs (cut255 x.name) x.typ x.cls x.ttl x.len).toArray.size = true; rw [List.size_toArray, hrl]; rfl) ?_
      refine OpsJ.congrH (congrArg (fun z => List.set _ 4 (Res.blk hd z _)) (rh_setT (cut255 x.name) (by omega) x.typ x.cls x.ttl x.len (12))) ?_
      refine OpsJ.nil ?_
      refine ExJ.thenN ?_
      refine CodeJ.seq ?_
      refine CodeJ.any (fuel := 20) (listed := #[false, false, false, false, false, false, false, false, false, false, false, false, false, false, false, false, false, false, false, false]) [0, 3, 4] rfl follows_mixed rfl rfl ?_
      refine AnyJ.take (fuel := 19) (listed' := #[true, false, false, false, false, false, false, false, false, false, false, false, false, false, false, false, false, false, false, false]) 0 rfl (by kernel_rfl) (by kernel_rfl) (by kernel_rfl) rfl rfl rfl rfl (Yld.move rfl rfl) (fun w hI => hI.pick (is := [0, 3, 4]) (by decide) rfl) ?_
      refine AnyJ.take (fuel := 18) (listed' := #[true, true, false, false, false, false, false, false, false, false, false, false, false, false, false, false, false, false, false, false]) 1 rfl (by kernel_rfl) (by kernel_rfl) (by kernel_rfl) rfl rfl rfl rfl (Yld.nilCheck rfl rfl) (fun w hI => hI.pick (is := [0, 3, 4]) (by decide) rfl) ?_
      refine AnyJ.take (fuel := 17) (listed' := #[true, true, true, false, false, false, false, false, false, false, false, false, false, false, false, false, false, false, false, false]) 2 rfl (by kernel_rfl) (by kernel_rfl) (by kernel_rfl) rfl rfl rfl rfl (Yld.fieldAddr fa_127_0 rfl rfl) (fun w hI => hI.pick (is := [0, 3, 4]) (by decide) rfl) ?_
      refine AnyJ.take (fuel := 16) (listed' := #[true, true, true, true, false, false, false, false, false, false, false, false, false, false, false, false, false, false, false, false]) 3 rfl (by kernel_rfl) (by kernel_rfl) (by kernel_rfl) rfl rfl rfl rfl (Yld.load1 rfl Tryd.underlying39 rfl rfl (fun w hI => Inv.cell1 hI (i := 0) rfl rfl)) (fun w hI => hI.pick (is := [0, 3, 4]) (by decide) rfl) ?_
      refine AnyJ.take (fuel := 15) (listed' := #[true, true, true, true, true, false, false, false, false, false, false, false, false, false, false, false, false, false, false, false]) 4 rfl (by kernel_rfl) (by kernel_rfl) (by kernel_rfl) rfl rfl rfl rfl (Yld.move rfl rfl) (fun w hI => hI.pick (is := [0, 3, 4]) (by decide) rfl) ?_
      refine AnyJ.take (fuel := 14) (listed' := #[true, true, true, true, true, true, false, false, false, false, false, false, false, false, false, false, false, false, false, false]) 5 rfl (by kernel_rfl) (by kernel_rfl) (by kernel_rfl) rfl rfl rfl rfl (Yld.nilCheck rfl rfl) (fun w hI => hI.pick (is := [0, 3, 4]) (by decide) rfl) ?_
      refine AnyJ.take (fuel := 13) (listed' := #[true, true, true, true, true, true, true, false, false, false, false, false, false, false, false, false, false, false, false, false]) 6 rfl (by kernel_rfl) (by kernel_rfl) (by kernel_rfl) rfl rfl rfl rfl (Yld.fieldAddr fa_127_4 rfl rfl) (fun w hI => hI.pick (is := [0, 3, 4]) (by decide) rfl) ?_
      refine AnyJ.take (fuel := 12) (listed' := #[true, true, true, true, true, true, true, true, false, false, false, false, false, false, false, false, false, false, false, false]) 7 rfl (by kernel_rfl) (by kernel_rfl) (by kernel_rfl) rfl rfl rfl rfl (Yld.load1 rfl Tryd.underlying125 rfl rfl (fun w hI => Inv.cell1 hI (i := 0) rfl rfl)) (fun w hI => hI.pick (is := [0, 3, 4]) (by decide) rfl) ?_
      refine AnyJ.take (fuel := 11) (listed' := #[true, true, true, true, true, true, true, true, true, false, false, false, false, false, false, false, false, false, false, false]) 8 rfl (by kernel_rfl) (by kernel_rfl) (by kernel_rfl) rfl rfl rfl rfl (Yld.move rfl rfl) (fun w hI => hI.pick (is := [0, 3, 4]) (by decide) rfl) ?_
      refine AnyJ.take (fuel := 10) (listed' := #[true, true, true, true, true, true, true, true, true, true, false, false, false, false, false, false, false, false, false, false]) 9 rfl (by kernel_rfl) (by kernel_rfl) (by kernel_rfl) rfl rfl rfl rfl (Yld.nilCheck rfl rfl) (fun w hI => hI.pick (is := [0, 3, 4]) (by decide) rfl) ?_
      refine AnyJ.take (fuel := 9) (listed' := #[true, true, true, true, true, true, true, true, true, true, true, false, false, false, false, false, false, false, false, false]) 10 rfl (by kernel_rfl) (by kernel_rfl) (by kernel_rfl) rfl rfl rfl rfl (Yld.fieldAddr fa_127_3 rfl rfl) (fun w hI => hI.pick (is := [0, 3, 4]) (by decide) rfl) ?_
      refine AnyJ.take (fuel := 8) (listed' := #[true, true, true, true, true, true, true, true, true, true, true, true, false, false, false, false, false, false, false, false]) 11 rfl (by kernel_rfl) (by kernel_rfl) (by kernel_rfl) rfl rfl rfl rfl (Yld.load1 rfl Tryd.underlying3 rfl rfl (fun w hI => Inv.cell1 hI (i := 0) rfl rfl)) (fun w hI => hI.pick (is := [0, 3, 4]) (by decide) rfl) ?_
      refine AnyJ.one (fuel := 7) 12 (by kernel_rfl) ?_
      refine StepJ.op (listed' := #[true, true, true, true, true, true, true, true, true, true, true, true, true, false, false, false, false, false, false, false]) rfl rfl rfl ?_
      refine OpJ.call (rhPack_spec G (cut255 x.name) hpn (12) x.cls x.ttl x.len httl hd b.start (.slice p b.buf.length c) b.buf b.buf p c r b.m (by omega) hbig hb.small) has_78 rfl rfl rfl rfl rfl [1, 2] [0, 3, 4] (by decide) rfl rfl (fun w hI => ⟨Inv.whole hI (i := 4) rfl, hI.apart (i := 4) rfl (is := [1, 2]) (by decide) rfl hd (by simp [Res.ats]), hge.call hI (is := [1, 2]) rfl⟩) ?_
      rintro _ _ hpost
      rw [hp] at hpost
      obtain ⟨p34, c34, rfl, rfl⟩ := hpost
      refine ⟨fun w hI => hI.pick (is := [2, 3, 4]) (by decide) rfl, ?_⟩
      refine AnyJ.take (fuel := 6) (listed' := #[true, true, true, true, true, true, true, true, true, true, true, true, true, true, false, false, false, false, false, false]) 13 rfl (by kernel_rfl) (by kernel_rfl) (by kernel_rfl) rfl rfl rfl rfl (Yld.move rfl rfl) (fun w hI => hI.pick (is := [2, 3, 4]) (by decide) rfl) ?_
      refine AnyJ.take (fuel := 5) (listed' := #[true, true, true, true, true, true, true, true, true, true, true, true, true, true, true, false, false, false, false, false]) 14 rfl (by kernel_rfl) (by kernel_rfl) (by kernel_rfl) rfl rfl rfl rfl (Yld.extract rfl rfl rfl) (fun w hI => hI.pick (is := [2, 3, 4]) (by decide) rfl) ?_
      refine AnyJ.take (fuel := 4) (listed' := #[true, true, true, true, true, true, true, true, true, true, true, true, true, true, true, true, false, false, false, false]) 15 rfl (by kernel_rfl) (by kernel_rfl) (by kernel_rfl) rfl rfl rfl rfl (Yld.extract rfl rfl rfl) (fun w hI => hI.pick (is := [2, 3, 4]) (by decide) rfl) ?_
      refine AnyJ.take (fuel := 3) (listed' := #[true, true, true, true, true, true, true, true, true, true, true, true, true, true, true, true, true, false, false, false]) 16 rfl (by kernel_rfl) (by kernel_rfl) (by kernel_rfl) rfl rfl rfl rfl (Yld.extract rfl rfl rfl) (fun w hI => hI.pick (is := [2, 3, 4]) (by decide) rfl) ?_
      refine AnyJ.take (fuel := 2) (listed' := #[true, true, true, true, true, true, true, true, true, true, true, true, true, true, true, true, true, true, false, false]) 17 rfl (by kernel_rfl) (by kernel_rfl) (by kernel_rfl) rfl rfl rfl rfl (Yld.assign rfl rfl) (fun w hI => hI.pick (is := [2, 3, 4]) (by decide) rfl) ?_
      refine AnyJ.take (fuel := 1) (listed' := #[true, true, true, true, true, true, true, true, true, true, true, true, true, true, true, true, true, true, true, false]) 18 rfl (by kernel_rfl) (by kernel_rfl) (by kernel_rfl) rfl rfl rfl rfl (Yld.assign rfl rfl) (fun w hI => hI.pick (is := [2, 3, 4]) (by decide) rfl) ?_
      refine AnyJ.take (fuel := 0) (listed' := #[true, true, true, true, true, true, true, true, true, true, true, true, true, true, true, true, true, true, true, true]) 19 rfl (by kernel_rfl) (by kernel_rfl) (by kernel_rfl) rfl rfl rfl rfl (Yld.assign rfl rfl) (fun w hI => hI.pick (is := [2, 3, 4]) (by decide) rfl) ?_
      refine AnyJ.done (by kernel_rfl) ?_
      refine ExJ.thenN ?_
      refine CodeJ.seq ?_
      refine CodeJ.seq ?_
      refine CodeJ.region ?_
      refine OpsJ.yld rfl rfl rfl (Yld.move rfl rfl) ?_
      refine OpsJ.yld rfl rfl rfl (Yld.ifaceNeNil rfl Tryd.underlying83 rfl rfl) ?_
      refine OpsJ.nil ?_
      refine ExJ.thenN ?_
      refine CodeJ.condF rfl ?_
      refine CodeJ.skip ?_
      refine ExJ.thenN ?_
      refine CodeJ.seq ?_
      refine CodeJ.region ?_
      refine OpsJ.yld rfl rfl rfl (Yld.move rfl rfl) ?_
      refine OpsJ.yld rfl rfl rfl (Yld.lenSlice rfl rfl rfl Tryd.underlying39 rfl) ?_
      refine OpsJ.yld rfl rfl rfl (Yld.assign rfl rfl) ?_
      refine OpsJ.nil ?_
      refine ExJ.thenN ?_
      refine CodeJ.seq ?_
      refine CodeJ.seq ?_
      refine CodeJ.any (fuel := 15) (listed := #[false, false, false, false, false, false, false, false, false, false, false, false, false, false, false]) [2, 3, 4] rfl follows_mixed rfl rfl ?_
      refine AnyJ.take (fuel := 14) (listed' := #[true, false, false, false, false, false, false, false, false, false, false, false, false, false, false]) 0 rfl (by kernel_rfl) (by kernel_rfl) (by kernel_rfl) rfl rfl rfl rfl (Yld.move rfl rfl) (fun w hI => hI.pick (is := [2, 3, 4]) (by decide) rfl) ?_
      refine AnyJ.take (fuel := 13) (listed' := #[true, true, false, false, false, false, false, false, false, false, false, false, false, false, false]) 1 rfl (by kernel_rfl) (by kernel_rfl) (by kernel_rfl) rfl rfl rfl rfl (Yld.move rfl rfl) (fun w hI => hI.pick (is := [2, 3, 4]) (by decide) rfl) ?_
      refine AnyJ.take (fuel := 12) (listed' := #[true, true, true, false, false, false, false, false, false, false, false, false, false, false, false]) 2 rfl (by kernel_rfl) (by kernel_rfl) (by kernel_rfl) rfl rfl rfl rfl (Yld.nilCheck rfl rfl) (fun w hI => hI.pick (is := [2, 3, 4]) (by decide) rfl) ?_
      refine AnyJ.take (fuel := 11) (listed' := #[true, true, true, true, false, false, false, false, false, false, false, false, false, false, false]) 3 rfl (by kernel_rfl) (by kernel_rfl) (by kernel_rfl) rfl rfl rfl rfl (Yld.fieldAddr fa_127_4 rfl rfl) (fun w hI => hI.pick (is := [2, 3, 4]) (by decide) rfl) ?_
      refine AnyJ.take (fuel := 10) (listed' := #[true, true, true, true, true, false, false, false, false, false, false, false, false, false, false]) 4 rfl (by kernel_rfl) (by kernel_rfl) (by kernel_rfl) rfl rfl rfl rfl (Yld.load1 rfl Tryd.underlying125 rfl rfl (fun w hI => Inv.cell1 hI (i := 0) rfl rfl)) (fun w hI => hI.pick (is := [2, 3, 4]) (by decide) rfl) ?_
      refine AnyJ.take (fuel := 9) (listed' := #[true, true, true, true, true, true, false, false, false, false, false, false, false, false, false]) 5 rfl (by kernel_rfl) (by kernel_rfl) (by kernel_rfl) rfl rfl rfl rfl (Yld.move rfl rfl) (fun w hI => hI.pick (is := [2, 3, 4]) (by decide) rfl) ?_
      refine AnyJ.take (fuel := 8) (listed' := #[true, true, true, true, true, true, true, false, false, false, false, false, false, false, false]) 6 rfl (by kernel_rfl) (by kernel_rfl) (by kernel_rfl) rfl rfl rfl rfl (Yld.nilCheck rfl rfl) (fun w hI => hI.pick (is := [2, 3, 4]) (by decide) rfl) ?_
      refine AnyJ.take (fuel := 7) (listed' := #[true, true, true, true, true, true, true, true, false, false, false, false, false, false, false]) 7 rfl (by kernel_rfl) (by kernel_rfl) (by kernel_rfl) rfl rfl rfl rfl (Yld.fieldAddr fa_127_3 rfl rfl) (fun w hI => hI.pick (is := [2, 3, 4]) (by decide) rfl) ?_
      refine AnyJ.take (fuel := 6) (listed' := #[true, true, true, true, true, true, true, true, true, false, false, false, false, false, false]) 8 rfl (by kernel_rfl) (by kernel_rfl) (by kernel_rfl) rfl rfl rfl rfl (Yld.load1 rfl Tryd.underlying3 rfl rfl (fun w hI => Inv.cell1 hI (i := 0) rfl rfl)) (fun w hI => hI.pick (is := [2, 3, 4]) (by decide) rfl) ?_
      refine AnyJ.one (fuel := 5) 9 (by kernel_rfl) ?_
      refine StepJ.op (listed' := #[true, true, true, true, true, true, true, true, true, true, false, false, false, false, false]) rfl rfl rfl ?_
      refine OpJ.call (ptrPack_spec G (cut255 x.host) hpok rb b.start (.slice p b.buf.length c) b.buf (b.buf ++ ys ++ rh10 (12) x.cls x.ttl x.len) p34 c34 r m1 (by simp; omega) (by simp [rh10_len]; omega) hm1) has_89 rfl rfl rfl rfl rfl [0, 1] [2, 3, 4] (by decide) rfl rfl (fun w hI => ⟨Inv.whole hI (i := 3) rfl, hI.apart (i := 3) rfl (is := [0, 1]) (by decide) rfl rb (by simp [Res.ats]), hge.call hI (is := [0, 1]) rfl⟩) ?_
      rintro _ _ hpost
      rw [hrel] at hpost
      rw [hq] at hpost
      obtain ⟨p56, c56, rfl, rfl⟩ := hpost
      refine ⟨fun w hI => hI.pick (is := [2, 3, 4]) (by decide) rfl, ?_⟩
      refine AnyJ.take (fuel := 4) (listed' := #[true, true, true, true, true, true, true, true, true, true, true, false, false, false, false]) 10 rfl (by kernel_rfl) (by kernel_rfl) (by kernel_rfl) rfl rfl rfl rfl (Yld.move rfl rfl) (fun w hI => hI.pick (is := [2, 3, 4]) (by decide) rfl) ?_
      refine AnyJ.take (fuel := 3) (listed' := #[true, true, true, true, true, true, true, true, true, true, true, true, false, false, false]) 11 rfl (by kernel_rfl) (by kernel_rfl) (by kernel_rfl) rfl rfl rfl rfl (Yld.extract rfl rfl rfl) (fun w hI => hI.pick (is := [2, 3, 4]) (by decide) rfl) ?_
      refine AnyJ.take (fuel := 2) (listed' := #[true, true, true, true, true, true, true, true, true, true, true, true, true, false, false]) 12 rfl (by kernel_rfl) (by kernel_rfl) (by kernel_rfl) rfl rfl rfl rfl (Yld.extract rfl rfl rfl) (fun w hI => hI.pick (is := [2, 3, 4]) (by decide) rfl) ?_
      refine AnyJ.take (fuel := 1) (listed' := #[true, true, true, true, true, true, true, true, true, true, true, true, true, true, false]) 13 rfl (by kernel_rfl) (by kernel_rfl) (by kernel_rfl) rfl rfl rfl rfl (Yld.assign rfl rfl) (fun w hI => hI.pick (is := [2, 3, 4]) (by decide) rfl) ?_
      refine AnyJ.take (fuel := 0) (listed' := #[true, true, true, true, true, true, true, true, true, true, true, true, true, true, true]) 14 rfl (by kernel_rfl) (by kernel_rfl) (by kernel_rfl) rfl rfl rfl rfl (Yld.assign rfl rfl) (fun w hI => hI.pick (is := [2, 3, 4]) (by decide) rfl) ?_
      refine AnyJ.done (by kernel_rfl) ?_
      refine ExJ.thenN ?_
      refine CodeJ.seq ?_
      refine CodeJ.region ?_
      refine OpsJ.yld rfl rfl rfl (Yld.move rfl rfl) ?_
      refine OpsJ.yld rfl rfl rfl (Yld.ifaceNeNil rfl Tryd.underlying83 rfl rfl) ?_
      refine OpsJ.nil ?_
      refine ExJ.thenN ?_
      refine CodeJ.condF rfl ?_
      refine CodeJ.skip ?_
      refine ExJ.thenN ?_
      refine CodeJ.seq ?_
      refine CodeJ.seq ?_
      refine CodeJ.turnH (fun w hI => hI.sl2 (i := 0) rfl) ?_
      obtain ⟨A, hA⟩ : ∃ A, A = b.buf ++ ys ++ be16 (12) ++ be16 x.cls ++ b4 x.ttl := ⟨_, rfl⟩
      have hA1 : b.buf ++ ys ++ rh10 (12) x.cls x.ttl x.len ++ zs = A ++ be16 x.len ++ zs := by simp [hA, rh10]
      have hA2 : b.buf.length + ys.length + 8 = A.length := by simp [hA, be16_len, b4_len]; omega
      have hA3 : (b.buf ++ ys ++ rh10 (12) x.cls x.ttl x.len).length = A.length + 2 := by simp [hA, rh10_len, be16_len, b4_len]; omega
      have hA4 : b.buf ++ ys ++ rh10 (12) x.cls x.ttl zs.length ++ zs = A ++ be16 zs.length ++ zs := by simp [hA, rh10]
      have hA5 : (A ++ be16 x.len ++ zs).length = (A ++ be16 zs.length ++ zs).length := by simp [be16_len]
      rw [hA4]
      simp only [hA1, hA2, hA3]
      refine CodeJ.region ?_
      refine OpsJ.yld rfl rfl rfl (Yld.move rfl rfl) ?_
      refine OpsJ.yld rfl rfl rfl (Yld.move rfl rfl) ?_
      refine OpsJ.yld rfl rfl rfl (Yld.move rfl rfl) ?_
      refine OpsJ.op rfl ?_
      refine OpJ.call (fixLen_spec hd _ (by rw [List.size_toArray]; exact rhCs_len _ (by omega) _ _ _ _) A zs x.len p56 c56 hzl (by simp only [List.length_append, be16_len]; omega)) has_80 rfl rfl rfl rfl rfl [4, 0] [1, 2, 3] (by decide) rfl rfl (fun _ _ => trivial) ?_
      rintro _ _ ⟨rfl, cs68, rfl⟩
      simp only [hA5]
      refine OpsJ.yld rfl rfl rfl (Yld.assign rfl rfl) ?_
      refine OpsJ.nil ?_
      refine ExJ.thenN ?_
      refine CodeJ.seq ?_
      refine CodeJ.region ?_
      refine OpsJ.yld rfl rfl rfl (Yld.move rfl rfl) ?_
      refine OpsJ.yld rfl rfl rfl (Yld.ifaceNeNil rfl Tryd.underlying83 rfl rfl) ?_
      refine OpsJ.nil ?_
      refine ExJ.thenN ?_
      refine CodeJ.condF rfl ?_
      refine CodeJ.skip ?_
      refine ExJ.thenN ?_
      refine CodeJ.seq ?_
      refine CodeJ.seq ?_
      refine CodeJ.region ?_
      refine OpsJ.yld rfl rfl rfl (Yld.move rfl rfl) ?_
      refine OpsJ.op rfl ?_
      refine OpJ.call (incr_spec G b bb p c r h3 h5 hcnt) has_81 rfl rfl rfl rfl rfl [3] [0, 1, 2, 4] (by decide) rfl rfl (fun w hI => hge.call hI (is := [3]) rfl) ?_
      rintro _ _ ⟨rfl, rfl⟩
      refine OpsJ.yld rfl rfl rfl (Yld.assign rfl rfl) ?_
      refine OpsJ.nil ?_
      refine ExJ.thenN ?_
      refine CodeJ.seq ?_
      refine CodeJ.region ?_
      refine OpsJ.yld rfl rfl rfl (Yld.move rfl rfl) ?_
      refine OpsJ.yld rfl rfl rfl (Yld.ifaceNeNil rfl Tryd.underlying83 rfl rfl) ?_
      refine OpsJ.nil ?_
      refine ExJ.thenN ?_
      refine CodeJ.condF rfl ?_
      refine CodeJ.skip ?_
      refine ExJ.thenN ?_
      refine CodeJ.seq ?_
      refine CodeJ.region ?_
      refine OpsJ.yld rfl rfl rfl (Yld.move rfl rfl) ?_
      refine OpsJ.yld rfl rfl rfl (Yld.move rfl rfl) ?_
      refine OpsJ.yld rfl rfl rfl (Yld.nilCheck rfl rfl) ?_
      refine OpsJ.yld rfl rfl rfl (Yld.fieldAddr fa_127_0 rfl rfl) ?_
      refine OpsJ.op rfl ?_
      refine OpJ.store1 (i := 0) rfl rfl rfl rfl rfl sz_39 rfl rfl ?_
      refine OpsJ.nil ?_
      refine ExJ.thenN ?_
      refine CodeJ.seq ?_
      refine CodeJ.region ?_
      refine OpsJ.yld rfl rfl rfl (Yld.assign rfl rfl) ?_
      refine OpsJ.nil ?_
      refine ExJ.thenN ?_
      refine CodeJ.ret ?_
      exact ExJ.ret1 Tryd.results46 rfl ⟨.inl ⟨rfl, rfl⟩, p56, c56, rfl⟩ fun w hI => hI.pick (is := [0, 2, 3]) (by decide) rfl

theorem ptr_meets : ptrAdder.Meets 45 := by
  intro G x on b bb p c r hok hb hr
  refine Spec.of Tryd.func45 rfl Tryd.ntmps45 rfl fun w0 hR => ?_
  obtain ⟨hge, w1, hrec, hkeep, hnew⟩ := hR
  have hrl : (rhCs (cut255 x.name) x.typ x.cls x.ttl x.len).length = 260 := rhCs_len _ (cut255_len x.name) _ _ _ _
  refine CodeJ.seq ?_
  refine CodeJ.region ?_
  refine OpsJ.op rfl ?_
  refine OpJ.box rfl rfl rfl rfl fun hd hhd => ?_
  refine OpsJ.op rfl ?_
  refine OpJ.box rfl rfl rfl rfl fun rc hrc => ?_
  refine OpsJ.yld rfl rfl rfl (Yld.assign rfl rfl) ?_
  refine OpsJ.nil ?_
  refine ExJ.thenN ?_
  refine CodeJ.seq ?_
  refine CodeJ.any (fuel := 6) (listed := #[false, false, false, false, false, false]) [0, 1] rfl follows_mixed rfl rfl ?_
  refine AnyJ.take (fuel := 5) (listed' := #[true, false, false, false, false, false]) 0 rfl (by kernel_rfl) (by kernel_rfl) (by kernel_rfl) rfl rfl rfl rfl (Yld.move rfl rfl) (fun w hI => hI.pick (is := [0, 1]) (by decide) rfl) ?_
  refine AnyJ.take (fuel := 4) (listed' := #[true, true, false, false, false, false]) 1 rfl (by kernel_rfl) (by kernel_rfl) (by kernel_rfl) rfl rfl rfl rfl (Yld.loadN (vs := rhCs (cut255 x.name) x.typ x.cls x.ttl x.len) rfl Tryd.underlying81 rfl (by rw [hrl]; exact sz_81) rfl (fun w hI => Inv.whole hI (i := 1) rfl)) (fun w hI => hI.pick (is := [0, 1]) (by decide) rfl) ?_
  refine AnyJ.take (fuel := 3) (listed' := #[true, true, true, false, false, false]) 2 rfl (by kernel_rfl) (by kernel_rfl) (by kernel_rfl) rfl rfl rfl rfl (Yld.loadN (vs := x.cells) rfl Tryd.underlying43 rfl sz_43 rfl (fun w hI => Inv.whole hI (i := 0) rfl)) (fun w hI => hI.pick (is := [0, 1]) (by decide) rfl) ?_
  refine AnyJ.one (fuel := 2) 3 (by kernel_rfl) ?_
  refine StepJ.op (listed' := #[true, true, true, true, false, false]) rfl rfl rfl ?_
  refine OpJ.call (ptrOf_spec x) has_47 rfl rfl rfl rfl rfl [] [0, 1, 2, 3, 4] (by decide) rfl rfl (fun _ _ => trivial) ?_
  rintro _ _ ⟨rfl, rfl⟩
  refine ⟨fun w hI => hI.pick (is := [0, 1]) (by decide) rfl, ?_⟩
  refine AnyJ.one (fuel := 1) 4 (by kernel_rfl) ?_
  refine StepJ.op (listed' := #[true, true, true, true, true, false]) rfl rfl rfl ?_
  refine OpJ.call (ptrResource_spec G x on b bb p c r hok hb hr) has_46 rfl rfl rfl rfl rfl [2, 3, 4] [0, 1] (by decide) rfl rfl (fun w hI => hge.call hI (is := [2, 3, 4]) rfl) ?_
  rintro _ _ ⟨he11, p11, c11, rfl⟩
  refine ⟨fun w hI => hI.pick (is := [3, 4]) (by decide) rfl, ?_⟩
  refine AnyJ.take (fuel := 0) (listed' := #[true, true, true, true, true, true]) 5 rfl (by kernel_rfl) (by kernel_rfl) (by kernel_rfl) rfl rfl rfl rfl (Yld.assign rfl rfl) (fun w hI => hI.pick (is := [3, 4]) (by decide) rfl) ?_
  refine AnyJ.done (by kernel_rfl) ?_
  refine ExJ.thenN ?_
  refine CodeJ.ret ?_
  exact ExJ.ret1 Tryd.results45 rfl ⟨he11, p11, c11, rfl⟩ fun w hI => hI.pick (is := [0, 1, 2]) (by decide) rfl

theorem buildPTR_spec (G : GEnv) (h : Hd) (hw : h.wf) (pre : List UInt8) (bufV stepsV : Value) (ss : List StepD) (hn : ss.length ≤ 1099511627776) (hpre : pre.length ≤ 140737488355328) (hok : RunOk ptrAdder ss false (newB pre h)) :
    Spec Tryd.prog 21 [bufV, .agg (hdCs h).toArray, stepsV] [] (RunIn G bufV pre stepsV ss) (RunPost (runF ptrAdder ss false (newB pre h)).1.fin (runF ptrAdder ss false (newB pre h)).2) := by
  refine Spec.of Tryd.func21 rfl Tryd.ntmps21 rfl fun w0 hR => ?_
  obtain ⟨hge, hbuf, hrow, hrec⟩ := hR
  refine CodeJ.seq ?_
  refine CodeJ.region ?_
  refine OpsJ.op rfl ?_
  refine OpJ.box rfl rfl rfl rfl fun hd hhd => ?_
  refine OpsJ.op rfl ?_
  refine OpJ.alloc rfl rfl rfl zero_48 fun res hres => ?_
  refine OpsJ.nil ?_
  refine ExJ.thenN ?_
  refine CodeJ.seq ?_
  refine CodeJ.region ?_
  refine OpsJ.yld rfl rfl rfl (Yld.move rfl rfl) ?_
  refine OpsJ.yld rfl rfl rfl (Yld.loadN (vs := hdCs h) rfl Tryd.underlying24 rfl sz_24 rfl (fun w hI => Inv.whole hI (i := 1) rfl)) ?_
  refine OpsJ.yld rfl rfl rfl (Yld.move rfl rfl) ?_
  refine OpsJ.op rfl ?_
  refine OpJ.call (run_spec ptrAdder 45 has_45 ptr_meets G h hw pre bufV stepsV ss hn hpre hok) has_35 rfl rfl rfl rfl rfl [] [0, 1] (by decide) rfl rfl (fun w hI => ⟨hge.call hI (is := []) rfl, hbuf.keep hI.keep (by simp [fp]), hrow.keep hI.keep (by simp [fp]), fun s hs => (hrec s hs).keep0 hI.keep⟩) ?_
  rintro _ _ ⟨p1, c1, p2, c2, rfl, rfl⟩
  refine OpsJ.op rfl ?_
  refine OpJ.storeW (i := 2) rfl rfl rfl rfl sz_48 rfl rfl rfl ?_
  refine OpsJ.nil ?_
  refine ExJ.thenN ?_
  refine CodeJ.ret ?_
  exact ExJ.retC (vs := [.slice p1 _ c1, .slice p2 _ c2, .int .i64 0]) Tryd.results21 rfl Tryd.underlying48 rfl sz_48 (fun w hI => Inv.cells hI (i := 2) rfl rfl (Nat.le_of_ble_eq_true rfl)) ⟨p1, c1, p2, c2, rfl, rfl⟩ fun w hI => hI.pick (is := [0, 1]) (by decide) rfl
end Go.Proofs.YtijhpaejdchjgaaDoor
