/-
  Contracts of the package and of impl: Unknown records.
-/
import Derived.Test.YtefncaiooanbeaaDoorHPkB
import Derived.Test.YtefncaiooanbeaaDoorHPairL
namespace Go.Proofs.YtefncaiooanbeaaDoor
open Go
set_option maxRecDepth 100000

theorem unknownType_spec (bq typ : Nat) (dv : Value) : Spec Tryd.prog 61 [.pointer (some ⟨bq, 0, none⟩)] [] (fun w => Cells w bq 0 [.int .u16 (typ : Nat), dv]) (fun x H' => x = .int .u16 (typ : Nat) ∧ H' = []) := by
  refine Spec.of Tryd.func61 rfl Tryd.ntmps61 rfl fun w0 hcs => ?_
  refine CodeJ.seq ?_
  refine CodeJ.region ?_
  refine OpsJ.yld rfl rfl rfl (Yld.assign rfl rfl) ?_
  refine OpsJ.nil ?_
  refine ExJ.thenN ?_
  refine CodeJ.seq ?_
  refine CodeJ.region ?_
  refine OpsJ.yld rfl rfl rfl (Yld.move rfl rfl) ?_
  refine OpsJ.yld rfl rfl rfl (Yld.nilCheck rfl rfl) ?_
  refine OpsJ.yld rfl rfl rfl (Yld.fieldAddr fa_70_0 rfl rfl) ?_
  refine OpsJ.yld rfl rfl rfl (Yld.load1 rfl Tryd.underlying62 rfl rfl (fun w hI => hI.old (hcs.one (k := 0) rfl) (by simp [fp]))) ?_
  refine OpsJ.yld rfl rfl rfl (Yld.assign rfl rfl) ?_
  refine OpsJ.nil ?_
  refine ExJ.thenN ?_
  refine CodeJ.ret ?_
  exact ExJ.ret1 Tryd.results61 rfl ⟨rfl, rfl⟩ fun w hI => hI
theorem unknownOf_spec (x : RecD) (hx : x.wf) : Spec Tryd.prog 29 [.agg x.cells.toArray] [] (fun w => RecOk w x) (fun r H' => ∃ pv cv q bsq hqq, r = .agg [.int .u16 (x.typ : Nat), .slice pv x.data.length cv].toArray ∧ H' = [.ro q bsq hqq] ∧ ∀ w, q w → Bytes w (.slice pv x.data.length cv) x.data) := by
  refine Spec.of Tryd.func29 rfl Tryd.ntmps29 rfl fun w0 hok => ?_
  have hdl := hx.data
  refine CodeJ.seq ?_
  refine CodeJ.region ?_
  refine OpsJ.op rfl ?_
  refine OpJ.box rfl rfl rfl rfl fun rb hrb => ?_
  refine OpsJ.op rfl ?_
  refine OpJ.alloc rfl rfl rfl zero_70 fun res hres => ?_
  refine OpsJ.nil ?_
  refine ExJ.thenN ?_
  refine CodeJ.seq ?_
  refine CodeJ.any (fuel := 8) (listed := #[false, false, false, false, false, false, false, false]) [1] rfl follows_mixed rfl rfl ?_
  refine AnyJ.take (fuel := 7) (listed' := #[true, false, false, false, false, false, false, false]) 0 rfl (by kernel_rfl) (by kernel_rfl) (by kernel_rfl) rfl rfl rfl rfl (Yld.fieldAddr fa_30_1 rfl rfl) (fun w hI => hI.pick (is := [1]) (by decide) rfl) ?_
  refine AnyJ.take (fuel := 6) (listed' := #[true, true, false, false, false, false, false, false]) 1 rfl (by kernel_rfl) (by kernel_rfl) (by kernel_rfl) rfl rfl rfl rfl (Yld.load1 rfl Tryd.underlying22 rfl rfl (fun w hI => Inv.cell1 hI (i := 0) rfl rfl)) (fun w hI => hI.pick (is := [1]) (by decide) rfl) ?_
  refine AnyJ.take (fuel := 5) (listed' := #[true, true, false, true, false, false, false, false]) 3 rfl (by kernel_rfl) (by kernel_rfl) (by kernel_rfl) rfl rfl rfl rfl (Yld.fieldAddr fa_30_6 rfl rfl) (fun w hI => hI.pick (is := [1]) (by decide) rfl) ?_
  refine AnyJ.take (fuel := 4) (listed' := #[true, true, false, true, true, false, false, false]) 4 rfl (by kernel_rfl) (by kernel_rfl) (by kernel_rfl) rfl rfl rfl rfl (Yld.load1 rfl Tryd.underlying26 rfl rfl (fun w hI => Inv.cell1 hI (i := 0) rfl rfl)) (fun w hI => hI.pick (is := [1]) (by decide) rfl) ?_
  refine AnyJ.one (fuel := 3) 2 (by kernel_rfl) ?_
  refine StepJ.op (listed' := #[true, true, true, true, true, false, false, false]) rfl rfl rfl ?_
  refine OpJ.buildSlice (xs := []) elt_26 rfl rfl rfl rfl rfl rfl (by rfl) (by decide) fun dat hdat => ?_
  refine ⟨fun w hI => hI.pick (is := [2]) (by decide) rfl, ?_⟩
  refine AnyJ.one (fuel := 2) 5 (by kernel_rfl) ?_
  refine StepJ.op (listed' := #[true, true, true, true, true, true, false, false]) rfl rfl rfl ?_
  refine OpJ.appendO (bs := []) (i := 0) (news := x.data) elt_26 rfl rfl rfl rfl rfl rfl (fun w hI => Bytes.src (hok.data.keep hI.keep (by simp [fp])) Tryd.underlying26) (by simp; omega) fun p8 c8 => ?_
  refine ⟨fun w hI => hI.pick (is := [2]) (by decide) rfl, ?_⟩
  simp only [List.nil_append]
  refine AnyJ.take (fuel := 1) (listed' := #[true, true, true, true, true, true, true, false]) 6 rfl (by kernel_rfl) (by kernel_rfl) (by kernel_rfl) rfl rfl rfl rfl (Yld.buildAll places_70 zero_70 rfl rfl ⟨rfl, rfl, trivial⟩ rfl) (fun w hI => hI.pick (is := [2]) (by decide) rfl) ?_
  refine AnyJ.one (fuel := 0) 7 (by kernel_rfl) ?_
  refine StepJ.op (listed' := #[true, true, true, true, true, true, true, true]) rfl rfl rfl ?_
  refine OpJ.storeW (i := 1) rfl rfl rfl rfl sz_70 rfl rfl rfl ?_
  refine ⟨fun w hI => hI.pick (is := [2]) (by decide) rfl, ?_⟩
  refine AnyJ.done (by kernel_rfl) ?_
  refine ExJ.thenN ?_
  refine CodeJ.ret ?_
  exact ExJ.retC (vs := [.int .u16 (x.typ : Nat), .slice p8 x.data.length c8]) Tryd.results29 rfl Tryd.underlying70 rfl sz_70 (fun w hI => Inv.whole hI (i := 1) rfl) ⟨p8, c8, _, _, _, rfl, rfl, fun w hw => Own.bytes hw.1⟩ fun w hI => Inv.seal (hI.pick (is := [0]) (by decide) rfl)
theorem unknownPack_spec (G : GEnv) (typ : Nat) (data : List UInt8) (hdl : data.length ≤ 4398046511104) (pv : Option Addr) (cv : Nat) (q : World → Prop) (bsq : List Nat) (hqq : ∀ w w' : World, (∀ b ∈ bsq, w'.heap[b]? = w.heap[b]?) → q w → q w') (hqb : ∀ w, q w → Bytes w (.slice pv data.length cv) data) (bq off : Nat) (v : Value) (bs bs' : List UInt8) (p : Option Addr) (c : Nat) (r : Option Nat) (m : List (List UInt8 × Nat)) (_hoff : off ≤ bs'.length) (hbig : bs'.length ≤ 158329674399744 - 400) (_hm : ∀ x ∈ m, x.2 < 65536) :
    Spec Tryd.prog 63 [.pointer (some ⟨bq, 0, none⟩), .slice p bs'.length c, .map r, .int .i64 off] [appB 5 v bs (.slice p bs'.length c) bs', .mp r (kvV m), .ro q bsq hqq]
      (fun w => Cells w bq 0 [.int .u16 (typ : Nat), .slice pv data.length cv] ∧ bq ∉ fp [appB 5 v bs (.slice p bs'.length c) bs', .mp r (kvV m), .ro q bsq hqq] ∧ GE G w (fp [appB 5 v bs (.slice p bs'.length c) bs', .mp r (kvV m), .ro q bsq hqq]) ∧ q w)
      (PackPostX 5 v bs bs' r [.ro q bsq hqq] (rawP (bs'.length - off) r.isSome data m)) := by
  refine Spec.of Tryd.func63 rfl Tryd.ntmps63 rfl fun w0 hR => ?_
  obtain ⟨hcs, hbq, hge, _⟩ := hR
  refine CodeJ.seq ?_
  refine CodeJ.region ?_
  refine OpsJ.yld rfl rfl rfl (Yld.assign rfl rfl) ?_
  refine OpsJ.yld rfl rfl rfl (Yld.assign rfl rfl) ?_
  refine OpsJ.nil ?_
  refine ExJ.thenN ?_
  refine CodeJ.seq ?_
  refine CodeJ.region ?_
  refine OpsJ.yld rfl rfl rfl (Yld.move rfl rfl) ?_
  refine OpsJ.yld rfl rfl rfl (Yld.move rfl rfl) ?_
  refine OpsJ.yld rfl rfl rfl (Yld.nilCheck rfl rfl) ?_
  refine OpsJ.yld rfl rfl rfl (Yld.fieldAddr fa_70_1 rfl rfl) ?_
  refine OpsJ.yld rfl rfl rfl (Yld.load1 rfl Tryd.underlying26 rfl rfl (fun w hI => hI.old (hcs.one (k := 1) rfl) hbq)) ?_
  refine OpsJ.yld rfl rfl rfl (Yld.sliceSlAll rfl Tryd.underlying26 sz_5 rfl) ?_
  refine OpsJ.op rfl ?_
  refine OpJ.call (packBytes_ro q bsq hqq (.slice (if cv = 0 then pv else pv.map (·.add 0)) data.length cv) data (fun w hw => (hqb w hw).all) v _ bs bs' (by omega)) has_97 rfl rfl rfl rfl rfl [0, 2] [1] (by decide) rfl rfl (fun _ _ => trivial) ?_
  rintro _ _ ⟨p16, c16, rfl, rfl⟩
  refine OpsJ.yld rfl rfl rfl (Yld.assign rfl rfl) ?_
  refine OpsJ.yld rfl rfl rfl (Yld.assign rfl rfl) ?_
  refine OpsJ.nil ?_
  refine ExJ.thenN ?_
  refine CodeJ.ret ?_
  exact ExJ.ret2 Tryd.results63 rfl rfl ⟨_, ⟨p16, c16, rfl, rfl⟩, rfl⟩ fun w hI => hI.pick (is := [0, 2, 1]) (by decide) rfl

/-- how Unknown records are added -/
def unknownPk : BodyPk := fun base on x m => rawP base on x.data m
def unknownAdder : Adder := recAdder (fun x => x.typ) unknownPk (fun x => x.data.length ≤ 4398046511104)

theorem unknownResource_spec (G : GEnv) (x : RecD) (on : Bool) (b : Bd) (bb : Nat) (p : Option Addr) (c : Nat) (r : Option Nat) (pv : Option Addr) (cv : Nat) (q : World → Prop) (bsq : List Nat) (hqq : ∀ w w' : World, (∀ b ∈ bsq, w'.heap[b]? = w.heap[b]?) → q w → q w') (hqb : ∀ w, q w → Bytes w (.slice pv x.data.length cv) x.data) (hok : unknownAdder.ok x on b) (hb : BdOk b) (hr : r.isSome = on) :
    Spec Tryd.prog 28 [.pointer (some ⟨bb, 0, none⟩), .agg (rhCs (cut255 x.name) x.typ x.cls x.ttl x.len).toArray, .agg ([.int .u16 (x.typ : Nat), .slice pv x.data.length cv]).toArray] (bdR b bb p c r ++ [.ro q bsq hqq]) (fun w => GE G w (fp (bdR b bb p c r ++ [.ro q bsq hqq])))
      (fun y H' => ErrIs G y (unknownAdder.eff x on b).2 ∧ ∃ p' c', H' = bdR (unknownAdder.eff x on b).1 bb p' c' r ++ [.ro q bsq hqq]) := by
  obtain ⟨h3, h5, hcnt, hpn, hwf, hbody⟩ := hok
  have httl := hwf.ttl
  refine Spec.of Tryd.func28 rfl Tryd.ntmps28 rfl fun w0 hge => ?_
  have hst := hb.start
  have hbig := hb.big
  subst hr
  have hnl := hpn.le
  have hrl : (rhCs (cut255 x.name) x.typ x.cls x.ttl x.len).length = 260 := rhCs_len _ (by omega) _ _ _ _
  cases hp : packN (b.buf.length - b.start) r.isSome (cut255 x.name) b.m with
  | err m1 =>
    have heff : unknownAdder.eff x r.isSome b = ({ b with m := m1 }, 3) := by simp only [unknownAdder, recAdder, recF, hp]
    rw [heff]
    refine CodeJ.seq ?_
    refine CodeJ.region ?_
    refine OpsJ.op rfl ?_
    refine OpJ.box rfl rfl rfl rfl fun hd hhd => ?_
    refine OpsJ.op rfl ?_
    refine OpJ.box rfl rfl rfl rfl fun rb hrb => ?_
    refine OpsJ.yld rfl rfl rfl (Yld.assign rfl rfl) ?_
    refine OpsJ.nil ?_
    refine ExJ.thenN ?_
    refine CodeJ.seq ?_
    refine CodeJ.seq ?_
    refine CodeJ.region ?_
    refine OpsJ.yld rfl rfl rfl (Yld.move rfl rfl) ?_
    refine OpsJ.op rfl ?_
    refine OpJ.call (checkRes_ok b bb p c r h3 h5) has_60 rfl rfl rfl rfl rfl [2, 3, 4] [0, 1, 5] (by decide) rfl rfl (fun _ _ => trivial) ?_
    rintro _ _ ⟨rfl, rfl⟩
    refine OpsJ.yld rfl rfl rfl (Yld.assign rfl rfl) ?_
    refine OpsJ.nil ?_
    refine ExJ.thenN ?_
    refine CodeJ.seq ?_
    refine CodeJ.region ?_
    refine OpsJ.yld rfl rfl rfl (Yld.move rfl rfl) ?_
    refine OpsJ.yld rfl rfl rfl (Yld.ifaceNeNil rfl Tryd.underlying67 rfl rfl) ?_
    refine OpsJ.nil ?_
    refine ExJ.thenN ?_
    refine CodeJ.condF rfl ?_
    refine CodeJ.skip ?_
    refine ExJ.thenN ?_
    refine CodeJ.seq ?_
    refine CodeJ.region ?_
    refine OpsJ.op rfl ?_
    refine OpJ.call (unknownType_spec rb x.typ (.slice pv x.data.length cv)) has_61 rfl rfl rfl rfl rfl [] [0, 1, 2, 3, 4, 5] (by decide) rfl rfl (fun w hI => Inv.whole hI (i := 3) rfl) ?_
    rintro _ _ ⟨rfl, rfl⟩
    refine OpsJ.yld rfl rfl rfl (Yld.fieldAddr fa_65_1 rfl rfl) ?_
    refine OpsJ.op rfl ?_
    refine OpJ.store1 (i := 4) rfl rfl rfl rfl rfl sz_62 rfl (by show (0 + 256 + 1).ble (rhCs (cut255 x.name) x.typ x.cls x.ttl x.len).toArray.size = true; rw [List.size_toArray, hrl]; rfl) ?_
    refine OpsJ.congrH (congrArg (fun z => List.set _ 4 (Res.blk hd z _)) (rh_setT (cut255 x.name) (by omega) x.typ x.cls x.ttl x.len (x.typ))) ?_
    refine OpsJ.nil ?_
    refine ExJ.thenN ?_
    refine CodeJ.seq ?_
    refine CodeJ.any (fuel := 20) (listed := #[false, false, false, false, false, false, false, false, false, false, false, false, false, false, false, false, false, false, false, false]) [0, 3, 4, 5] rfl follows_mixed rfl rfl ?_
    refine AnyJ.take (fuel := 19) (listed' := #[true, false, false, false, false, false, false, false, false, false, false, false, false, false, false, false, false, false, false, false]) 0 rfl (by kernel_rfl) (by kernel_rfl) (by kernel_rfl) rfl rfl rfl rfl (Yld.move rfl rfl) (fun w hI => hI.pick (is := [0, 3, 4, 5]) (by decide) rfl) ?_
    refine AnyJ.take (fuel := 18) (listed' := #[true, true, false, false, false, false, false, false, false, false, false, false, false, false, false, false, false, false, false, false]) 1 rfl (by kernel_rfl) (by kernel_rfl) (by kernel_rfl) rfl rfl rfl rfl (Yld.nilCheck rfl rfl) (fun w hI => hI.pick (is := [0, 3, 4, 5]) (by decide) rfl) ?_
    refine AnyJ.take (fuel := 17) (listed' := #[true, true, true, false, false, false, false, false, false, false, false, false, false, false, false, false, false, false, false, false]) 2 rfl (by kernel_rfl) (by kernel_rfl) (by kernel_rfl) rfl rfl rfl rfl (Yld.fieldAddr fa_108_0 rfl rfl) (fun w hI => hI.pick (is := [0, 3, 4, 5]) (by decide) rfl) ?_
    refine AnyJ.take (fuel := 16) (listed' := #[true, true, true, true, false, false, false, false, false, false, false, false, false, false, false, false, false, false, false, false]) 3 rfl (by kernel_rfl) (by kernel_rfl) (by kernel_rfl) rfl rfl rfl rfl (Yld.load1 rfl Tryd.underlying26 rfl rfl (fun w hI => Inv.cell1 hI (i := 0) rfl rfl)) (fun w hI => hI.pick (is := [0, 3, 4, 5]) (by decide) rfl) ?_
    refine AnyJ.take (fuel := 15) (listed' := #[true, true, true, true, true, false, false, false, false, false, false, false, false, false, false, false, false, false, false, false]) 4 rfl (by kernel_rfl) (by kernel_rfl) (by kernel_rfl) rfl rfl rfl rfl (Yld.move rfl rfl) (fun w hI => hI.pick (is := [0, 3, 4, 5]) (by decide) rfl) ?_
    refine AnyJ.take (fuel := 14) (listed' := #[true, true, true, true, true, true, false, false, false, false, false, false, false, false, false, false, false, false, false, false]) 5 rfl (by kernel_rfl) (by kernel_rfl) (by kernel_rfl) rfl rfl rfl rfl (Yld.nilCheck rfl rfl) (fun w hI => hI.pick (is := [0, 3, 4, 5]) (by decide) rfl) ?_
    refine AnyJ.take (fuel := 13) (listed' := #[true, true, true, true, true, true, true, false, false, false, false, false, false, false, false, false, false, false, false, false]) 6 rfl (by kernel_rfl) (by kernel_rfl) (by kernel_rfl) rfl rfl rfl rfl (Yld.fieldAddr fa_108_4 rfl rfl) (fun w hI => hI.pick (is := [0, 3, 4, 5]) (by decide) rfl) ?_
    refine AnyJ.take (fuel := 12) (listed' := #[true, true, true, true, true, true, true, true, false, false, false, false, false, false, false, false, false, false, false, false]) 7 rfl (by kernel_rfl) (by kernel_rfl) (by kernel_rfl) rfl rfl rfl rfl (Yld.load1 rfl Tryd.underlying106 rfl rfl (fun w hI => Inv.cell1 hI (i := 0) rfl rfl)) (fun w hI => hI.pick (is := [0, 3, 4, 5]) (by decide) rfl) ?_
    refine AnyJ.take (fuel := 11) (listed' := #[true, true, true, true, true, true, true, true, true, false, false, false, false, false, false, false, false, false, false, false]) 8 rfl (by kernel_rfl) (by kernel_rfl) (by kernel_rfl) rfl rfl rfl rfl (Yld.move rfl rfl) (fun w hI => hI.pick (is := [0, 3, 4, 5]) (by decide) rfl) ?_
    refine AnyJ.take (fuel := 10) (listed' := #[true, true, true, true, true, true, true, true, true, true, false, false, false, false, false, false, false, false, false, false]) 9 rfl (by kernel_rfl) (by kernel_rfl) (by kernel_rfl) rfl rfl rfl rfl (Yld.nilCheck rfl rfl) (fun w hI => hI.pick (is := [0, 3, 4, 5]) (by decide) rfl) ?_
    refine AnyJ.take (fuel := 9) (listed' := #[true, true, true, true, true, true, true, true, true, true, true, false, false, false, false, false, false, false, false, false]) 10 rfl (by kernel_rfl) (by kernel_rfl) (by kernel_rfl) rfl rfl rfl rfl (Yld.fieldAddr fa_108_3 rfl rfl) (fun w hI => hI.pick (is := [0, 3, 4, 5]) (by decide) rfl) ?_
    refine AnyJ.take (fuel := 8) (listed' := #[true, true, true, true, true, true, true, true, true, true, true, true, false, false, false, false, false, false, false, false]) 11 rfl (by kernel_rfl) (by kernel_rfl) (by kernel_rfl) rfl rfl rfl rfl (Yld.load1 rfl Tryd.underlying3 rfl rfl (fun w hI => Inv.cell1 hI (i := 0) rfl rfl)) (fun w hI => hI.pick (is := [0, 3, 4, 5]) (by decide) rfl) ?_
    refine AnyJ.one (fuel := 7) 12 (by kernel_rfl) ?_
    refine StepJ.op (listed' := #[true, true, true, true, true, true, true, true, true, true, true, true, true, false, false, false, false, false, false, false]) rfl rfl rfl ?_
    refine OpJ.call (rhPack_spec G (cut255 x.name) hpn (x.typ) x.cls x.ttl x.len httl hd b.start (.slice p b.buf.length c) b.buf b.buf p c r b.m (by omega) hbig hb.small) has_62 rfl rfl rfl rfl rfl [1, 2] [0, 3, 4, 5] (by decide) rfl rfl (fun w hI => ⟨Inv.whole hI (i := 4) rfl, hI.apart (i := 4) rfl (is := [1, 2]) (by decide) rfl hd (by simp [Res.ats]), hge.call hI (is := [1, 2]) rfl⟩) ?_
    rintro _ _ hpost
    rw [hp] at hpost
    obtain ⟨u1, u2, a34, rfl, rfl⟩ := hpost
    refine ⟨fun w hI => hI.pick (is := [2, 3, 4, 5]) (by decide) rfl, ?_⟩
    refine AnyJ.take (fuel := 6) (listed' := #[true, true, true, true, true, true, true, true, true, true, true, true, true, true, false, false, false, false, false, false]) 13 rfl (by kernel_rfl) (by kernel_rfl) (by kernel_rfl) rfl rfl rfl rfl (Yld.move rfl rfl) (fun w hI => hI.pick (is := [2, 3, 4, 5]) (by decide) rfl) ?_
    refine AnyJ.take (fuel := 5) (listed' := #[true, true, true, true, true, true, true, true, true, true, true, true, true, true, true, false, false, false, false, false]) 14 rfl (by kernel_rfl) (by kernel_rfl) (by kernel_rfl) rfl rfl rfl rfl (Yld.extract rfl rfl rfl) (fun w hI => hI.pick (is := [2, 3, 4, 5]) (by decide) rfl) ?_
    refine AnyJ.take (fuel := 4) (listed' := #[true, true, true, true, true, true, true, true, true, true, true, true, true, true, true, true, false, false, false, false]) 15 rfl (by kernel_rfl) (by kernel_rfl) (by kernel_rfl) rfl rfl rfl rfl (Yld.extract rfl rfl rfl) (fun w hI => hI.pick (is := [2, 3, 4, 5]) (by decide) rfl) ?_
    refine AnyJ.take (fuel := 3) (listed' := #[true, true, true, true, true, true, true, true, true, true, true, true, true, true, true, true, true, false, false, false]) 16 rfl (by kernel_rfl) (by kernel_rfl) (by kernel_rfl) rfl rfl rfl rfl (Yld.extract rfl rfl rfl) (fun w hI => hI.pick (is := [2, 3, 4, 5]) (by decide) rfl) ?_
    refine AnyJ.take (fuel := 2) (listed' := #[true, true, true, true, true, true, true, true, true, true, true, true, true, true, true, true, true, true, false, false]) 17 rfl (by kernel_rfl) (by kernel_rfl) (by kernel_rfl) rfl rfl rfl rfl (Yld.assign rfl rfl) (fun w hI => hI.pick (is := [2, 3, 4, 5]) (by decide) rfl) ?_
    refine AnyJ.take (fuel := 1) (listed' := #[true, true, true, true, true, true, true, true, true, true, true, true, true, true, true, true, true, true, true, false]) 18 rfl (by kernel_rfl) (by kernel_rfl) (by kernel_rfl) rfl rfl rfl rfl (Yld.assign rfl rfl) (fun w hI => hI.pick (is := [2, 3, 4, 5]) (by decide) rfl) ?_
    refine AnyJ.take (fuel := 0) (listed' := #[true, true, true, true, true, true, true, true, true, true, true, true, true, true, true, true, true, true, true, true]) 19 rfl (by kernel_rfl) (by kernel_rfl) (by kernel_rfl) rfl rfl rfl rfl (Yld.assign rfl rfl) (fun w hI => hI.pick (is := [2, 3, 4, 5]) (by decide) rfl) ?_
    refine AnyJ.done (by kernel_rfl) ?_
    refine ExJ.thenN ?_
    refine CodeJ.seq ?_
    refine CodeJ.seq ?_
    refine CodeJ.region ?_
    refine OpsJ.yld rfl rfl rfl (Yld.move rfl rfl) ?_
    refine OpsJ.yld rfl rfl rfl (Yld.ifaceNeNil rfl Tryd.underlying67 rfl rfl) ?_
    refine OpsJ.nil ?_
    refine ExJ.thenN ?_
    refine CodeJ.condT rfl ?_
    refine CodeJ.seq ?_
    refine CodeJ.region ?_
    refine OpsJ.yld rfl rfl rfl (Yld.move rfl rfl) ?_
    refine OpsJ.yld rfl rfl rfl (Yld.build places_129 zero_129 rfl rfl rfl) ?_
    refine OpsJ.op rfl ?_
    refine OpJ.box rfl rfl rfl rfl fun ne hne => ?_
    refine OpsJ.yld rfl rfl rfl (Yld.makeInterface rfl Tryd.underlying127 rfl rfl) ?_
    refine OpsJ.yld rfl rfl rfl (Yld.assign rfl rfl) ?_
    refine OpsJ.nil ?_
    refine ExJ.thenN ?_
    refine CodeJ.ret ?_
    refine ExJ.thenR ?_
    exact ExJ.ret1 Tryd.results28 rfl ⟨.inr (.inr ⟨rfl, _, rfl⟩), p, c, rfl⟩ fun w hI => hI.pick (is := [3, 1, 2, 6]) (by decide) rfl
  | ok ys m1 =>
    obtain ⟨hpok, hblen⟩ := hbody ⟨ys, m1, hp⟩
    have hys := packN_len hp
    have hm1 : ∀ x ∈ m1, x.2 < 65536 := by
      have := packN_small (b.buf.length - b.start) r.isSome (cut255 x.name) b.m hb.small
      rw [hp] at this
      exact this
    have hrel : (b.buf ++ ys ++ rh10 (x.typ) x.cls x.ttl x.len).length - b.start = b.rel + ys.length + 10 := by
      simp only [List.length_append, rh10_len, Bd.rel]
      omega
    cases hq : unknownPk (b.rel + ys.length + 10) r.isSome x m1 with
    | err m2 =>
      have heff : unknownAdder.eff x r.isSome b = ({ b with m := m2 }, 3) := by simp only [unknownAdder, recAdder, recF, hp, hq]
      simp only [unknownPk] at hq
      rw [heff]
      refine CodeJ.seq ?_
      refine CodeJ.region ?_
      refine OpsJ.op rfl ?_
      refine OpJ.box rfl rfl rfl rfl fun hd hhd => ?_
      refine OpsJ.op rfl ?_
      refine OpJ.box rfl rfl rfl rfl fun rb hrb => ?_
      refine OpsJ.yld rfl rfl rfl (Yld.assign rfl rfl) ?_
      refine OpsJ.nil ?_
      refine ExJ.thenN ?_
      refine CodeJ.seq ?_
      refine CodeJ.seq ?_
      refine CodeJ.region ?_
      refine OpsJ.yld rfl rfl rfl (Yld.move rfl rfl) ?_
      refine OpsJ.op rfl ?_
      refine OpJ.call (checkRes_ok b bb p c r h3 h5) has_60 rfl rfl rfl rfl rfl [2, 3, 4] [0, 1, 5] (by decide) rfl rfl (fun _ _ => trivial) ?_
      rintro _ _ ⟨rfl, rfl⟩
      refine OpsJ.yld rfl rfl rfl (Yld.assign rfl rfl) ?_
      refine OpsJ.nil ?_
      refine ExJ.thenN ?_
      refine CodeJ.seq ?_
      refine CodeJ.region ?_
      refine OpsJ.yld rfl rfl rfl (Yld.move rfl rfl) ?_
      refine OpsJ.yld rfl rfl rfl (Yld.ifaceNeNil rfl Tryd.underlying67 rfl rfl) ?_
      refine OpsJ.nil ?_
      refine ExJ.thenN ?_
      refine CodeJ.condF rfl ?_
      refine CodeJ.skip ?_
      refine ExJ.thenN ?_
      refine CodeJ.seq ?_
      refine CodeJ.region ?_
      refine OpsJ.op rfl ?_
      refine OpJ.call (unknownType_spec rb x.typ (.slice pv x.data.length cv)) has_61 rfl rfl rfl rfl rfl [] [0, 1, 2, 3, 4, 5] (by decide) rfl rfl (fun w hI => Inv.whole hI (i := 3) rfl) ?_
      rintro _ _ ⟨rfl, rfl⟩
      refine OpsJ.yld rfl rfl rfl (Yld.fieldAddr fa_65_1 rfl rfl) ?_
      refine OpsJ.op rfl ?_
      refine OpJ.store1 (i := 4) rfl rfl rfl rfl rfl sz_62 rfl (by show (0 + 256 + 1).ble (rhCs (cut255 x.name) x.typ x.cls x.ttl x.len).toArray.size = true; rw [List.size_toArray, hrl]; rfl) ?_
      refine OpsJ.congrH (congrArg (fun z => List.set _ 4 (Res.blk hd z _)) (rh_setT (cut255 x.name) (by omega) x.typ x.cls x.ttl x.len (x.typ))) ?_
      refine OpsJ.nil ?_
      refine ExJ.thenN ?_
      refine CodeJ.seq ?_
      refine CodeJ.any (fuel := 20) (listed := #[false, false, false, false, false, false, false, false, false, false, false, false, false, false, false, false, false, false, false, false]) [0, 3, 4, 5] rfl follows_mixed rfl rfl ?_
      refine AnyJ.take (fuel := 19) (listed' := #[true, false, false, false, false, false, false, false, false, false, false, false, false, false, false, false, false, false, false, false]) 0 rfl (by kernel_rfl) (by kernel_rfl) (by kernel_rfl) rfl rfl rfl rfl (Yld.move rfl rfl) (fun w hI => hI.pick (is := [0, 3, 4, 5]) (by decide) rfl) ?_
      refine AnyJ.take (fuel := 18) (listed' := #[true, true, false, false, false, false, false, false, false, false, false, false, false, false, false, false, false, false, false, false]) 1 rfl (by kernel_rfl) (by kernel_rfl) (by kernel_rfl) rfl rfl rfl rfl (Yld.nilCheck rfl rfl) (fun w hI => hI.pick (is := [0, 3, 4, 5]) (by decide) rfl) ?_
      refine AnyJ.take (fuel := 17) (listed' := #[true, true, true, false, false, false, false, false, false, false, false, false, false, false, false, false, false, false, false, false]) 2 rfl (by kernel_rfl) (by kernel_rfl) (by kernel_rfl) rfl rfl rfl rfl (Yld.fieldAddr fa_108_0 rfl rfl) (fun w hI => hI.pick (is := [0, 3, 4, 5]) (by decide) rfl) ?_
      refine AnyJ.take (fuel := 16) (listed' := #[true, true, true, true, false, false, false, false, false, false, false, false, false, false, false, false, false, false, false, false]) 3 rfl (by kernel_rfl) (by kernel_rfl) (by kernel_rfl) rfl rfl rfl rfl (Yld.load1 rfl Tryd.underlying26 rfl rfl (fun w hI => Inv.cell1 hI (i := 0) rfl rfl)) (fun w hI => hI.pick (is := [0, 3, 4, 5]) (by decide) rfl) ?_
      refine AnyJ.take (fuel := 15) (listed' := #[true, true, true, true, true, false, false, false, false, false, false, false, false, false, false, false, false, false, false, false]) 4 rfl (by kernel_rfl) (by kernel_rfl) (by kernel_rfl) rfl rfl rfl rfl (Yld.move rfl rfl) (fun w hI => hI.pick (is := [0, 3, 4, 5]) (by decide) rfl) ?_
      refine AnyJ.take (fuel := 14) (listed' := #[true, true, true, true, true, true, false, false, false, false, false, false, false, false, false, false, false, false, false, false]) 5 rfl (by kernel_rfl) (by kernel_rfl) (by kernel_rfl) rfl rfl rfl rfl (Yld.nilCheck rfl rfl) (fun w hI => hI.pick (is := [0, 3, 4, 5]) (by decide) rfl) ?_
      refine AnyJ.take (fuel := 13) (listed' := #[true, true, true, true, true, true, true, false, false, false, false, false, false, false, false, false, false, false, false, false]) 6 rfl (by kernel_rfl) (by kernel_rfl) (by kernel_rfl) rfl rfl rfl rfl (Yld.fieldAddr fa_108_4 rfl rfl) (fun w hI => hI.pick (is := [0, 3, 4, 5]) (by decide) rfl) ?_
      refine AnyJ.take (fuel := 12) (listed' := #[true, true, true, true, true, true, true, true, false, false, false, false, false, false, false, false, false, false, false, false]) 7 rfl (by kernel_rfl) (by kernel_rfl) (by kernel_rfl) rfl rfl rfl rfl (Yld.load1 rfl Tryd.underlying106 rfl rfl (fun w hI => Inv.cell1 hI (i := 0) rfl rfl)) (fun w hI => hI.pick (is := [0, 3, 4, 5]) (by decide) rfl) ?_
      refine AnyJ.take (fuel := 11) (listed' := #[true, true, true, true, true, true, true, true, true, false, false, false, false, false, false, false, false, false, false, false]) 8 rfl (by kernel_rfl) (by kernel_rfl) (by kernel_rfl) rfl rfl rfl rfl (Yld.move rfl rfl) (fun w hI => hI.pick (is := [0, 3, 4, 5]) (by decide) rfl) ?_
      refine AnyJ.take (fuel := 10) (listed' := #[true, true, true, true, true, true, true, true, true, true, false, false, false, false, false, false, false, false, false, false]) 9 rfl (by kernel_rfl) (by kernel_rfl) (by kernel_rfl) rfl rfl rfl rfl (Yld.nilCheck rfl rfl) (fun w hI => hI.pick (is := [0, 3, 4, 5]) (by decide) rfl) ?_
      refine AnyJ.take (fuel := 9) (listed' := #[true, true, true, true, true, true, true, true, true, true, true, false, false, false, false, false, false, false, false, false]) 10 rfl (by kernel_rfl) (by kernel_rfl) (by kernel_rfl) rfl rfl rfl rfl (Yld.fieldAddr fa_108_3 rfl rfl) (fun w hI => hI.pick (is := [0, 3, 4, 5]) (by decide) rfl) ?_
      refine AnyJ.take (fuel := 8) (listed' := #[true, true, true, true, true, true, true, true, true, true, true, true, false, false, false, false, false, false, false, false]) 11 rfl (by kernel_rfl) (by kernel_rfl) (by kernel_rfl) rfl rfl rfl rfl (Yld.load1 rfl Tryd.underlying3 rfl rfl (fun w hI => Inv.cell1 hI (i := 0) rfl rfl)) (fun w hI => hI.pick (is := [0, 3, 4, 5]) (by decide) rfl) ?_
      refine AnyJ.one (fuel := 7) 12 (by kernel_rfl) ?_
      refine StepJ.op (listed' := #[true, true, true, true, true, true, true, true, true, true, true, true, true, false, false, false, false, false, false, false]) rfl rfl rfl ?_
      refine OpJ.call (rhPack_spec G (cut255 x.name) hpn (x.typ) x.cls x.ttl x.len httl hd b.start (.slice p b.buf.length c) b.buf b.buf p c r b.m (by omega) hbig hb.small) has_62 rfl rfl rfl rfl rfl [1, 2] [0, 3, 4, 5] (by decide) rfl rfl (fun w hI => ⟨Inv.whole hI (i := 4) rfl, hI.apart (i := 4) rfl (is := [1, 2]) (by decide) rfl hd (by simp [Res.ats]), hge.call hI (is := [1, 2]) rfl⟩) ?_
      rintro _ _ hpost
      rw [hp] at hpost
      obtain ⟨p34, c34, rfl, rfl⟩ := hpost
      refine ⟨fun w hI => hI.pick (is := [2, 3, 4, 5]) (by decide) rfl, ?_⟩
      refine AnyJ.take (fuel := 6) (listed' := #[true, true, true, true, true, true, true, true, true, true, true, true, true, true, false, false, false, false, false, false]) 13 rfl (by kernel_rfl) (by kernel_rfl) (by kernel_rfl) rfl rfl rfl rfl (Yld.move rfl rfl) (fun w hI => hI.pick (is := [2, 3, 4, 5]) (by decide) rfl) ?_
      refine AnyJ.take (fuel := 5) (listed' := #[true, true, true, true, true, true, true, true, true, true, true, true, true, true, true, false, false, false, false, false]) 14 rfl (by kernel_rfl) (by kernel_rfl) (by kernel_rfl) rfl rfl rfl rfl (Yld.extract rfl rfl rfl) (fun w hI => hI.pick (is := [2, 3, 4, 5]) (by decide) rfl) ?_
      refine AnyJ.take (fuel := 4) (listed' := #[true, true, true, true, true, true, true, true, true, true, true, true, true, true, true, true, false, false, false, false]) 15 rfl (by kernel_rfl) (by kernel_rfl) (by kernel_rfl) rfl rfl rfl rfl (Yld.extract rfl rfl rfl) (fun w hI => hI.pick (is := [2, 3, 4, 5]) (by decide) rfl) ?_
      refine AnyJ.take (fuel := 3) (listed' := #[true, true, true, true, true, true, true, true, true, true, true, true, true, true, true, true, true, false, false, false]) 16 rfl (by kernel_rfl) (by kernel_rfl) (by kernel_rfl) rfl rfl rfl rfl (Yld.extract rfl rfl rfl) (fun w hI => hI.pick (is := [2, 3, 4, 5]) (by decide) rfl) ?_
      refine AnyJ.take (fuel := 2) (listed' := #[true, true, true, true, true, true, true, true, true, true, true, true, true, true, true, true, true, true, false, false]) 17 rfl (by kernel_rfl) (by kernel_rfl) (by kernel_rfl) rfl rfl rfl rfl (Yld.assign rfl rfl) (fun w hI => hI.pick (is := [2, 3, 4, 5]) (by decide) rfl) ?_
      refine AnyJ.take (fuel := 1) (listed' := #[true, true, true, true, true, true, true, true, true, true, true, true, true, true, true, true, true, true, true, false]) 18 rfl (by kernel_rfl) (by kernel_rfl) (by kernel_rfl) rfl rfl rfl rfl (Yld.assign rfl rfl) (fun w hI => hI.pick (is := [2, 3, 4, 5]) (by decide) rfl) ?_
      refine AnyJ.take (fuel := 0) (listed' := #[true, true, true, true, true, true, true, true, true, true, true, true, true, true, true, true, true, true, true, true]) 19 rfl (by kernel_rfl) (by kernel_rfl) (by kernel_rfl) rfl rfl rfl rfl (Yld.assign rfl rfl) (fun w hI => hI.pick (is := [2, 3, 4, 5]) (by decide) rfl) ?_
      refine AnyJ.done (by kernel_rfl) ?_
      refine ExJ.thenN ?_
      refine CodeJ.seq ?_
      refine CodeJ.seq ?_
      refine CodeJ.region ?_
      refine OpsJ.yld rfl rfl rfl (Yld.move rfl rfl) ?_
      refine OpsJ.yld rfl rfl rfl (Yld.ifaceNeNil rfl Tryd.underlying67 rfl rfl) ?_
      refine OpsJ.nil ?_
      refine ExJ.thenN ?_
      refine CodeJ.condF rfl ?_
      refine CodeJ.skip ?_
      refine ExJ.thenN ?_
      refine CodeJ.seq ?_
      refine CodeJ.region ?_
      refine OpsJ.yld rfl rfl rfl (Yld.move rfl rfl) ?_
      refine OpsJ.yld rfl rfl rfl (Yld.lenSlice rfl rfl rfl Tryd.underlying26 rfl) ?_
      refine OpsJ.yld rfl rfl rfl (Yld.assign rfl rfl) ?_
      refine OpsJ.nil ?_
      refine ExJ.thenN ?_
      refine CodeJ.seq ?_
      refine CodeJ.seq ?_
      refine CodeJ.any (fuel := 15) (listed := #[false, false, false, false, false, false, false, false, false, false, false, false, false, false, false]) [2, 3, 4] rfl follows_mixed rfl rfl ?_
      refine AnyJ.take (fuel := 14) (listed' := #[true, false, false, false, false, false, false, false, false, false, false, false, false, false, false]) 0 rfl (by kernel_rfl) (by kernel_rfl) (by kernel_rfl) rfl rfl rfl rfl (Yld.move rfl rfl) (fun w hI => hI.pick (is := [2, 3, 4]) (by decide) rfl) ?_
      refine AnyJ.take (fuel := 13) (listed' := #[true, true, false, false, false, false, false, false, false, false, false, false, false, false, false]) 1 rfl (by kernel_rfl) (by kernel_rfl) (by kernel_rfl) rfl rfl rfl rfl (Yld.move rfl rfl) (fun w hI => hI.pick (is := [2, 3, 4]) (by decide) rfl) ?_
      refine AnyJ.take (fuel := 12) (listed' := #[true, true, true, false, false, false, false, false, false, false, false, false, false, false, false]) 2 rfl (by kernel_rfl) (by kernel_rfl) (by kernel_rfl) rfl rfl rfl rfl (Yld.nilCheck rfl rfl) (fun w hI => hI.pick (is := [2, 3, 4]) (by decide) rfl) ?_
      refine AnyJ.take (fuel := 11) (listed' := #[true, true, true, true, false, false, false, false, false, false, false, false, false, false, false]) 3 rfl (by kernel_rfl) (by kernel_rfl) (by kernel_rfl) rfl rfl rfl rfl (Yld.fieldAddr fa_108_4 rfl rfl) (fun w hI => hI.pick (is := [2, 3, 4]) (by decide) rfl) ?_
      refine AnyJ.take (fuel := 10) (listed' := #[true, true, true, true, true, false, false, false, false, false, false, false, false, false, false]) 4 rfl (by kernel_rfl) (by kernel_rfl) (by kernel_rfl) rfl rfl rfl rfl (Yld.load1 rfl Tryd.underlying106 rfl rfl (fun w hI => Inv.cell1 hI (i := 0) rfl rfl)) (fun w hI => hI.pick (is := [2, 3, 4]) (by decide) rfl) ?_
      refine AnyJ.take (fuel := 9) (listed' := #[true, true, true, true, true, true, false, false, false, false, false, false, false, false, false]) 5 rfl (by kernel_rfl) (by kernel_rfl) (by kernel_rfl) rfl rfl rfl rfl (Yld.move rfl rfl) (fun w hI => hI.pick (is := [2, 3, 4]) (by decide) rfl) ?_
      refine AnyJ.take (fuel := 8) (listed' := #[true, true, true, true, true, true, true, false, false, false, false, false, false, false, false]) 6 rfl (by kernel_rfl) (by kernel_rfl) (by kernel_rfl) rfl rfl rfl rfl (Yld.nilCheck rfl rfl) (fun w hI => hI.pick (is := [2, 3, 4]) (by decide) rfl) ?_
      refine AnyJ.take (fuel := 7) (listed' := #[true, true, true, true, true, true, true, true, false, false, false, false, false, false, false]) 7 rfl (by kernel_rfl) (by kernel_rfl) (by kernel_rfl) rfl rfl rfl rfl (Yld.fieldAddr fa_108_3 rfl rfl) (fun w hI => hI.pick (is := [2, 3, 4]) (by decide) rfl) ?_
      refine AnyJ.take (fuel := 6) (listed' := #[true, true, true, true, true, true, true, true, true, false, false, false, false, false, false]) 8 rfl (by kernel_rfl) (by kernel_rfl) (by kernel_rfl) rfl rfl rfl rfl (Yld.load1 rfl Tryd.underlying3 rfl rfl (fun w hI => Inv.cell1 hI (i := 0) rfl rfl)) (fun w hI => hI.pick (is := [2, 3, 4]) (by decide) rfl) ?_
      refine AnyJ.one (fuel := 5) 9 (by kernel_rfl) ?_
      refine StepJ.op (listed' := #[true, true, true, true, true, true, true, true, true, true, false, false, false, false, false]) rfl rfl rfl ?_
      refine OpJ.call (unknownPack_spec G x.typ x.data hpok pv cv q bsq hqq hqb rb b.start (.slice p b.buf.length c) b.buf (b.buf ++ ys ++ rh10 (x.typ) x.cls x.ttl x.len) p34 c34 r m1 (by simp; omega) (by simp [rh10_len]; omega) hm1) has_63 rfl rfl rfl rfl rfl [0, 1, 5] [2, 3, 4] (by decide) rfl rfl (fun w hI => ⟨Inv.whole hI (i := 3) rfl, hI.apart (i := 3) rfl (is := [0, 1, 5]) (by decide) rfl rb (by simp [Res.ats]), hge.call hI (is := [0, 1, 5]) rfl, hI.roGet (i := 5) rfl⟩) ?_
      rintro _ _ hpost
      obtain ⟨H0, hpost, rfl⟩ := hpost
      rw [hrel] at hpost
      rw [hq] at hpost
      obtain ⟨u56, t56, e56, rfl, rfl⟩ := hpost
      refine ⟨fun w hI => hI.pick (is := [3, 4, 5]) (by decide) rfl, ?_⟩
      refine AnyJ.take (fuel := 4) (listed' := #[true, true, true, true, true, true, true, true, true, true, true, false, false, false, false]) 10 rfl (by kernel_rfl) (by kernel_rfl) (by kernel_rfl) rfl rfl rfl rfl (Yld.move rfl rfl) (fun w hI => hI.pick (is := [3, 4, 5]) (by decide) rfl) ?_
      refine AnyJ.take (fuel := 3) (listed' := #[true, true, true, true, true, true, true, true, true, true, true, true, false, false, false]) 11 rfl (by kernel_rfl) (by kernel_rfl) (by kernel_rfl) rfl rfl rfl rfl (Yld.extract rfl rfl rfl) (fun w hI => hI.pick (is := [3, 4, 5]) (by decide) rfl) ?_
      refine AnyJ.take (fuel := 2) (listed' := #[true, true, true, true, true, true, true, true, true, true, true, true, true, false, false]) 12 rfl (by kernel_rfl) (by kernel_rfl) (by kernel_rfl) rfl rfl rfl rfl (Yld.extract rfl rfl rfl) (fun w hI => hI.pick (is := [3, 4, 5]) (by decide) rfl) ?_
      refine AnyJ.take (fuel := 1) (listed' := #[true, true, true, true, true, true, true, true, true, true, true, true, true, true, false]) 13 rfl (by kernel_rfl) (by kernel_rfl) (by kernel_rfl) rfl rfl rfl rfl (Yld.assign rfl rfl) (fun w hI => hI.pick (is := [3, 4, 5]) (by decide) rfl) ?_
      refine AnyJ.take (fuel := 0) (listed' := #[true, true, true, true, true, true, true, true, true, true, true, true, true, true, true]) 14 rfl (by kernel_rfl) (by kernel_rfl) (by kernel_rfl) rfl rfl rfl rfl (Yld.assign rfl rfl) (fun w hI => hI.pick (is := [3, 4, 5]) (by decide) rfl) ?_
      refine AnyJ.done (by kernel_rfl) ?_
      refine ExJ.thenN ?_
      refine CodeJ.seq ?_
      refine CodeJ.region ?_
      refine OpsJ.yld rfl rfl rfl (Yld.move rfl rfl) ?_
      refine OpsJ.yld rfl rfl rfl (Yld.ifaceNeNil rfl Tryd.underlying67 rfl rfl) ?_
      refine OpsJ.nil ?_
      refine ExJ.thenN ?_
      refine CodeJ.condT rfl ?_
      refine CodeJ.seq ?_
      refine CodeJ.region ?_
      refine OpsJ.yld rfl rfl rfl (Yld.move rfl rfl) ?_
      refine OpsJ.yld rfl rfl rfl (Yld.build places_129 zero_129 rfl rfl rfl) ?_
      refine OpsJ.op rfl ?_
      refine OpJ.box rfl rfl rfl rfl fun ne hne => ?_
      refine OpsJ.yld rfl rfl rfl (Yld.makeInterface rfl Tryd.underlying127 rfl rfl) ?_
      refine OpsJ.yld rfl rfl rfl (Yld.assign rfl rfl) ?_
      refine OpsJ.nil ?_
      refine ExJ.thenN ?_
      refine CodeJ.ret ?_
      refine ExJ.thenR ?_
      exact ExJ.ret1 Tryd.results28 rfl ⟨.inr (.inr ⟨rfl, _, rfl⟩), p, c, rfl⟩ fun w hI => hI.pick (is := [4, 1, 2, 3]) (by decide) rfl
    | ok zs m2 =>
      have hzl := hblen _ _ _ _ hq
      have heff : unknownAdder.eff x r.isSome b = (({ b with buf := b.buf ++ ys ++ rh10 (x.typ) x.cls x.ttl zs.length ++ zs, m := m2 } : Bd).incr, 0) := by simp only [unknownAdder, recAdder, recF, hp, hq]
      simp only [unknownPk] at hq
      rw [heff]
      refine CodeJ.seq ?_
      refine CodeJ.region ?_
      refine OpsJ.op rfl ?_
      refine OpJ.box rfl rfl rfl rfl fun hd hhd => ?_
      refine OpsJ.op rfl ?_
      refine OpJ.box rfl rfl rfl rfl fun rb hrb => ?_
      refine OpsJ.yld rfl rfl rfl (Yld.assign rfl rfl) ?_
      refine OpsJ.nil ?_
      refine ExJ.thenN ?_
      refine CodeJ.seq ?_
      refine CodeJ.seq ?_
      refine CodeJ.region ?_
      refine OpsJ.yld rfl rfl rfl (Yld.move rfl rfl) ?_
      refine OpsJ.op rfl ?_
      refine OpJ.call (checkRes_ok b bb p c r h3 h5) has_60 rfl rfl rfl rfl rfl [2, 3, 4] [0, 1, 5] (by decide) rfl rfl (fun _ _ => trivial) ?_
      rintro _ _ ⟨rfl, rfl⟩
      refine OpsJ.yld rfl rfl rfl (Yld.assign rfl rfl) ?_
      refine OpsJ.nil ?_
      refine ExJ.thenN ?_
      refine CodeJ.seq ?_
      refine CodeJ.region ?_
      refine OpsJ.yld rfl rfl rfl (Yld.move rfl rfl) ?_
      refine OpsJ.yld rfl rfl rfl (Yld.ifaceNeNil rfl Tryd.underlying67 rfl rfl) ?_
      refine OpsJ.nil ?_
      refine ExJ.thenN ?_
      refine CodeJ.condF rfl ?_
      refine CodeJ.skip ?_
      refine ExJ.thenN ?_
      refine CodeJ.seq ?_
      refine CodeJ.region ?_
      refine OpsJ.op rfl ?_
      refine OpJ.call (unknownType_spec rb x.typ (.slice pv x.data.length cv)) has_61 rfl rfl rfl rfl rfl [] [0, 1, 2, 3, 4, 5] (by decide) rfl rfl (fun w hI => Inv.whole hI (i := 3) rfl) ?_
      rintro _ _ ⟨rfl, rfl⟩
      refine OpsJ.yld rfl rfl rfl (Yld.fieldAddr fa_65_1 rfl rfl) ?_
      refine OpsJ.op rfl ?_
      refine OpJ.store1 (i := 4) rfl rfl rfl rfl rfl sz_62 rfl (by show (0 + 256 + 1).ble (rhCs (cut255 x.name) x.typ x.cls x.ttl x.len).toArray.size = true; rw [List.size_toArray, hrl]; rfl) ?_
      refine OpsJ.congrH (congrArg (fun z => List.set _ 4 (Res.blk hd z _)) (rh_setT (cut255 x.name) (by omega) x.typ x.cls x.ttl x.len (x.typ))) ?_
      refine OpsJ.nil ?_
      refine ExJ.thenN ?_
      refine CodeJ.seq ?_
      refine CodeJ.any (fuel := 20) (listed := #[false, false, false, false, false, false, false, false, false, false, false, false, false, false, false, false, false, false, false, false]) [0, 3, 4, 5] rfl follows_mixed rfl rfl ?_
      refine AnyJ.take (fuel := 19) (listed' := #[true, false, false, false, false, false, false, false, false, false, false, false, false, false, false, false, false, false, false, false]) 0 rfl (by kernel_rfl) (by kernel_rfl) (by kernel_rfl) rfl rfl rfl rfl (Yld.move rfl rfl) (fun w hI => hI.pick (is := [0, 3, 4, 5]) (by decide) rfl) ?_
      refine AnyJ.take (fuel := 18) (listed' := #[true, true, false, false, false, false, false, false, false, false, false, false, false, false, false, false, false, false, false, false]) 1 rfl (by kernel_rfl) (by kernel_rfl) (by kernel_rfl) rfl rfl rfl rfl (Yld.nilCheck rfl rfl) (fun w hI => hI.pick (is := [0, 3, 4, 5]) (by decide) rfl) ?_
      refine AnyJ.take (fuel := 17) (listed' := #[true, true, true, false, false, false, false, false, false, false, false, false, false, false, false, false, false, false, false, false]) 2 rfl (by kernel_rfl) (by kernel_rfl) (by kernel_rfl) rfl rfl rfl rfl (Yld.fieldAddr fa_108_0 rfl rfl) (fun w hI => hI.pick (is := [0, 3, 4, 5]) (by decide) rfl) ?_
      refine AnyJ.take (fuel := 16) (listed' := #[true, true, true, true, false, false, false, false, false, false, false, false, false, false, false, false, false, false, false, false]) 3 rfl (by kernel_rfl) (by kernel_rfl) (by kernel_rfl) rfl rfl rfl rfl (Yld.load1 rfl Tryd.underlying26 rfl rfl (fun w hI => Inv.cell1 hI (i := 0) rfl rfl)) (fun w hI => hI.pick (is := [0, 3, 4, 5]) (by decide) rfl) ?_
      refine AnyJ.take (fuel := 15) (listed' := #[true, true, true, true, true, false, false, false, false, false, false, false, false, false, false, false, false, false, false, false]) 4 rfl (by kernel_rfl) (by kernel_rfl) (by kernel_rfl) rfl rfl rfl rfl (Yld.move rfl rfl) (fun w hI => hI.pick (is := [0, 3, 4, 5]) (by decide) rfl) ?_
      refine AnyJ.take (fuel := 14) (listed' := #[true, true, true, true, true, true, false, false, false, false, false, false, false, false, false, false, false, false, false, false]) 5 rfl (by kernel_rfl) (by kernel_rfl) (by kernel_rfl) rfl rfl rfl rfl (Yld.nilCheck rfl rfl) (fun w hI => hI.pick (is := [0, 3, 4, 5]) (by decide) rfl) ?_
      refine AnyJ.take (fuel := 13) (listed' := #[true, true, true, true, true, true, true, false, false, false, false, false, false, false, false, false, false, false, false, false]) 6 rfl (by kernel_rfl) (by kernel_rfl) (by kernel_rfl) rfl rfl rfl rfl (Yld.fieldAddr fa_108_4 rfl rfl) (fun w hI => hI.pick (is := [0, 3, 4, 5]) (by decide) rfl) ?_
      refine AnyJ.take (fuel := 12) (listed' := #[true, true, true, true, true, true, true, true, false, false, false, false, false, false, false, false, false, false, false, false]) 7 rfl (by kernel_rfl) (by kernel_rfl) (by kernel_rfl) rfl rfl rfl rfl (Yld.load1 rfl Tryd.underlying106 rfl rfl (fun w hI => Inv.cell1 hI (i := 0) rfl rfl)) (fun w hI => hI.pick (is := [0, 3, 4, 5]) (by decide) rfl) ?_
      refine AnyJ.take (fuel := 11) (listed' := #[true, true, true, true, true, true, true, true, true, false, false, false, false, false, false, false, false, false, false, false]) 8 rfl (by kernel_rfl) (by kernel_rfl) (by kernel_rfl) rfl rfl rfl rfl (Yld.move rfl rfl) (fun w hI => hI.pick (is := [0, 3, 4, 5]) (by decide) rfl) ?_
      refine AnyJ.take (fuel := 10) (listed' := #[true, true, true, true, true, true, true, true, true, true, false, false, false, false, false, false, false, false, false, false]) 9 rfl (by kernel_rfl) (by kernel_rfl) (by kernel_rfl) rfl rfl rfl rfl (Yld.nilCheck rfl rfl) (fun w hI => hI.pick (is := [0, 3, 4, 5]) (by decide) rfl) ?_
      refine AnyJ.take (fuel := 9) (listed' := #[true, true, true, true, true, true, true, true, true, true, true, false, false, false, false, false, false, false, false, false]) 10 rfl (by kernel_rfl) (by kernel_rfl) (by kernel_rfl) rfl rfl rfl rfl (Yld.fieldAddr fa_108_3 rfl rfl) (fun w hI => hI.pick (is := [0, 3, 4, 5]) (by decide) rfl) ?_
      refine AnyJ.take (fuel := 8) (listed' := #[true, true, true, true, true, true, true, true, true, true, true, true, false, false, false, false, false, false, false, false]) 11 rfl (by kernel_rfl) (by kernel_rfl) (by kernel_rfl) rfl rfl rfl rfl (Yld.load1 rfl Tryd.underlying3 rfl rfl (fun w hI => Inv.cell1 hI (i := 0) rfl rfl)) (fun w hI => hI.pick (is := [0, 3, 4, 5]) (by decide) rfl) ?_
      refine AnyJ.one (fuel := 7) 12 (by kernel_rfl) ?_
      refine StepJ.op (listed' := #[true, true, true, true, true, true, true, true, true, true, true, true, true, false, false, false, false, false, false, false]) rfl rfl rfl ?_
      refine OpJ.call (rhPack_spec G (cut255 x.name) hpn (x.typ) x.cls x.ttl x.len httl hd b.start (.slice p b.buf.length c) b.buf b.buf p c r b.m (by omega) hbig hb.small) has_62 rfl rfl rfl rfl rfl [1, 2] [0, 3, 4, 5] (by decide) rfl rfl (fun w hI => ⟨Inv.whole hI (i := 4) rfl, hI.apart (i := 4) rfl (is := [1, 2]) (by decide) rfl hd (by simp [Res.ats]), hge.call hI (is := [1, 2]) rfl⟩) ?_
      rintro _ _ hpost
      rw [hp] at hpost
      obtain ⟨p34, c34, rfl, rfl⟩ := hpost
      refine ⟨fun w hI => hI.pick (is := [2, 3, 4, 5]) (by decide) rfl, ?_⟩
      refine AnyJ.take (fuel := 6) (listed' := #[true, true, true, true, true, true, true, true, true, true, true, true, true, true, false, false, false, false, false, false]) 13 rfl (by kernel_rfl) (by kernel_rfl) (by kernel_rfl) rfl rfl rfl rfl (Yld.move rfl rfl) (fun w hI => hI.pick (is := [2, 3, 4, 5]) (by decide) rfl) ?_
      refine AnyJ.take (fuel := 5) (listed' := #[true, true, true, true, true, true, true, true, true, true, true, true, true, true, true, false, false, false, false, false]) 14 rfl (by kernel_rfl) (by kernel_rfl) (by kernel_rfl) rfl rfl rfl rfl (Yld.extract rfl rfl rfl) (fun w hI => hI.pick (is := [2, 3, 4, 5]) (by decide) rfl) ?_
      refine AnyJ.take (fuel := 4) (listed' := #[true, true, true, true, true, true, true, true, true, true, true, true, true, true, true, true, false, false, false, false]) 15 rfl (by kernel_rfl) (by kernel_rfl) (by kernel_rfl) rfl rfl rfl rfl (Yld.extract rfl rfl rfl) (fun w hI => hI.pick (is := [2, 3, 4, 5]) (by decide) rfl) ?_
      refine AnyJ.take (fuel := 3) (listed' := #[true, true, true, true, true, true, true, true, true, true, true, true, true, true, true, true, true, false, false, false]) 16 rfl (by kernel_rfl) (by kernel_rfl) (by kernel_rfl) rfl rfl rfl rfl (Yld.extract rfl rfl rfl) (fun w hI => hI.pick (is := [2, 3, 4, 5]) (by decide) rfl) ?_
      refine AnyJ.take (fuel := 2) (listed' := #[true, true, true, true, true, true, true, true, true, true, true, true, true, true, true, true, true, true, false, false]) 17 rfl (by kernel_rfl) (by kernel_rfl) (by kernel_rfl) rfl rfl rfl rfl (Yld.assign rfl rfl) (fun w hI => hI.pick (is := [2, 3, 4, 5]) (by decide) rfl) ?_
      refine AnyJ.take (fuel := 1) (listed' := #[true, true, true, true, true, true, true, true, true, true, true, true, true, true, true, true, true, true, true, false]) 18 rfl (by kernel_rfl) (by kernel_rfl) (by kernel_rfl) rfl rfl rfl rfl (Yld.assign rfl rfl) (fun w hI => hI.pick (is := [2, 3, 4, 5]) (by decide) rfl) ?_
      refine AnyJ.take (fuel := 0) (listed' := #[true, true, true, true, true, true, true, true, true, true, true, true, true, true, true, true, true, true, true, true]) 19 rfl (by kernel_rfl) (by kernel_rfl) (by kernel_rfl) rfl rfl rfl rfl (Yld.assign rfl rfl) (fun w hI => hI.pick (is := [2, 3, 4, 5]) (by decide) rfl) ?_
      refine AnyJ.done (by kernel_rfl) ?_
      refine ExJ.thenN ?_
      refine CodeJ.seq ?_
      refine CodeJ.seq ?_
      refine CodeJ.region ?_
      refine OpsJ.yld rfl rfl rfl (Yld.move rfl rfl) ?_
      refine OpsJ.yld rfl rfl rfl (Yld.ifaceNeNil rfl Tryd.underlying67 rfl rfl) ?_
      refine OpsJ.nil ?_
      refine ExJ.thenN ?_
      refine CodeJ.condF rfl ?_
      refine CodeJ.skip ?_
      refine ExJ.thenN ?_
      refine CodeJ.seq ?_
      refine CodeJ.region ?_
      refine OpsJ.yld rfl rfl rfl (Yld.move rfl rfl) ?_
      refine OpsJ.yld rfl rfl rfl (Yld.lenSlice rfl rfl rfl Tryd.underlying26 rfl) ?_
      refine OpsJ.yld rfl rfl rfl (Yld.assign rfl rfl) ?_
      refine OpsJ.nil ?_
      refine ExJ.thenN ?_
      refine CodeJ.seq ?_
      refine CodeJ.seq ?_
      refine CodeJ.any (fuel := 15) (listed := #[false, false, false, false, false, false, false, false, false, false, false, false, false, false, false]) [2, 3, 4] rfl follows_mixed rfl rfl ?_
      refine AnyJ.take (fuel := 14) (listed' := #[true, false, false, false, false, false, false, false, false, false, false, false, false, false, false]) 0 rfl (by kernel_rfl) (by kernel_rfl) (by kernel_rfl) rfl rfl rfl rfl (Yld.move rfl rfl) (fun w hI => hI.pick (is := [2, 3, 4]) (by decide) rfl) ?_
      refine AnyJ.take (fuel := 13) (listed' := #[true, true, false, false, false, false, false, false, false, false, false, false, false, false, false]) 1 rfl (by kernel_rfl) (by kernel_rfl) (by kernel_rfl) rfl rfl rfl rfl (Yld.move rfl rfl) (fun w hI => hI.pick (is := [2, 3, 4]) (by decide) rfl) ?_
      refine AnyJ.take (fuel := 12) (listed' := #[true, true, true, false, false, false, false, false, false, false, false, false, false, false, false]) 2 rfl (by kernel_rfl) (by kernel_rfl) (by kernel_rfl) rfl rfl rfl rfl (Yld.nilCheck rfl rfl) (fun w hI => hI.pick (is := [2, 3, 4]) (by decide) rfl) ?_
      refine AnyJ.take (fuel := 11) (listed' := #[true, true, true, true, false, false, false, false, false, false, false, false, false, false, false]) 3 rfl (by kernel_rfl) (by kernel_rfl) (by kernel_rfl) rfl rfl rfl rfl (Yld.fieldAddr fa_108_4 rfl rfl) (fun w hI => hI.pick (is := [2, 3, 4]) (by decide) rfl) ?_
      refine AnyJ.take (fuel := 10) (listed' := #[true, true, true, true, true, false, false, false, false, false, false, false, false, false, false]) 4 rfl (by kernel_rfl) (by kernel_rfl) (by kernel_rfl) rfl rfl rfl rfl (Yld.load1 rfl Tryd.underlying106 rfl rfl (fun w hI => Inv.cell1 hI (i := 0) rfl rfl)) (fun w hI => hI.pick (is := [2, 3, 4]) (by decide) rfl) ?_
      refine AnyJ.take (fuel := 9) (listed' := #[true, true, true, true, true, true, false, false, false, false, false, false, false, false, false]) 5 rfl (by kernel_rfl) (by kernel_rfl) (by kernel_rfl) rfl rfl rfl rfl (Yld.move rfl rfl) (fun w hI => hI.pick (is := [2, 3, 4]) (by decide) rfl) ?_
      refine AnyJ.take (fuel := 8) (listed' := #[true, true, true, true, true, true, true, false, false, false, false, false, false, false, false]) 6 rfl (by kernel_rfl) (by kernel_rfl) (by kernel_rfl) rfl rfl rfl rfl (Yld.nilCheck rfl rfl) (fun w hI => hI.pick (is := [2, 3, 4]) (by decide) rfl) ?_
      refine AnyJ.take (fuel := 7) (listed' := #[true, true, true, true, true, true, true, true, false, false, false, false, false, false, false]) 7 rfl (by kernel_rfl) (by kernel_rfl) (by kernel_rfl) rfl rfl rfl rfl (Yld.fieldAddr fa_108_3 rfl rfl) (fun w hI => hI.pick (is := [2, 3, 4]) (by decide) rfl) ?_
      refine AnyJ.take (fuel := 6) (listed' := #[true, true, true, true, true, true, true, true, true, false, false, false, false, false, false]) 8 rfl (by kernel_rfl) (by kernel_rfl) (by kernel_rfl) rfl rfl rfl rfl (Yld.load1 rfl Tryd.underlying3 rfl rfl (fun w hI => Inv.cell1 hI (i := 0) rfl rfl)) (fun w hI => hI.pick (is := [2, 3, 4]) (by decide) rfl) ?_
      refine AnyJ.one (fuel := 5) 9 (by kernel_rfl) ?_
      refine StepJ.op (listed' := #[true, true, true, true, true, true, true, true, true, true, false, false, false, false, false]) rfl rfl rfl ?_
      refine OpJ.call (unknownPack_spec G x.typ x.data hpok pv cv q bsq hqq hqb rb b.start (.slice p b.buf.length c) b.buf (b.buf ++ ys ++ rh10 (x.typ) x.cls x.ttl x.len) p34 c34 r m1 (by simp; omega) (by simp [rh10_len]; omega) hm1) has_63 rfl rfl rfl rfl rfl [0, 1, 5] [2, 3, 4] (by decide) rfl rfl (fun w hI => ⟨Inv.whole hI (i := 3) rfl, hI.apart (i := 3) rfl (is := [0, 1, 5]) (by decide) rfl rb (by simp [Res.ats]), hge.call hI (is := [0, 1, 5]) rfl, hI.roGet (i := 5) rfl⟩) ?_
      rintro _ _ hpost
      obtain ⟨H0, hpost, rfl⟩ := hpost
      rw [hrel] at hpost
      rw [hq] at hpost
      obtain ⟨p56, c56, rfl, rfl⟩ := hpost
      refine ⟨fun w hI => hI.pick (is := [3, 4, 5]) (by decide) rfl, ?_⟩
      refine AnyJ.take (fuel := 4) (listed' := #[true, true, true, true, true, true, true, true, true, true, true, false, false, false, false]) 10 rfl (by kernel_rfl) (by kernel_rfl) (by kernel_rfl) rfl rfl rfl rfl (Yld.move rfl rfl) (fun w hI => hI.pick (is := [3, 4, 5]) (by decide) rfl) ?_
      refine AnyJ.take (fuel := 3) (listed' := #[true, true, true, true, true, true, true, true, true, true, true, true, false, false, false]) 11 rfl (by kernel_rfl) (by kernel_rfl) (by kernel_rfl) rfl rfl rfl rfl (Yld.extract rfl rfl rfl) (fun w hI => hI.pick (is := [3, 4, 5]) (by decide) rfl) ?_
      refine AnyJ.take (fuel := 2) (listed' := #[true, true, true, true, true, true, true, true, true, true, true, true, true, false, false]) 12 rfl (by kernel_rfl) (by kernel_rfl) (by kernel_rfl) rfl rfl rfl rfl (Yld.extract rfl rfl rfl) (fun w hI => hI.pick (is := [3, 4, 5]) (by decide) rfl) ?_
      refine AnyJ.take (fuel := 1) (listed' := #[true, true, true, true, true, true, true, true, true, true, true, true, true, true, false]) 13 rfl (by kernel_rfl) (by kernel_rfl) (by kernel_rfl) rfl rfl rfl rfl (Yld.assign rfl rfl) (fun w hI => hI.pick (is := [3, 4, 5]) (by decide) rfl) ?_
      refine AnyJ.take (fuel := 0) (listed' := #[true, true, true, true, true, true, true, true, true, true, true, true, true, true, true]) 14 rfl (by kernel_rfl) (by kernel_rfl) (by kernel_rfl) rfl rfl rfl rfl (Yld.assign rfl rfl) (fun w hI => hI.pick (is := [3, 4, 5]) (by decide) rfl) ?_
      refine AnyJ.done (by kernel_rfl) ?_
      refine ExJ.thenN ?_
      refine CodeJ.seq ?_
      refine CodeJ.region ?_
      refine OpsJ.yld rfl rfl rfl (Yld.move rfl rfl) ?_
      refine OpsJ.yld rfl rfl rfl (Yld.ifaceNeNil rfl Tryd.underlying67 rfl rfl) ?_
      refine OpsJ.nil ?_
      refine ExJ.thenN ?_
      refine CodeJ.condF rfl ?_
      refine CodeJ.skip ?_
      refine ExJ.thenN ?_
      refine CodeJ.seq ?_
      refine CodeJ.seq ?_
      refine CodeJ.turnH (fun w hI => hI.sl2 (i := 0) rfl) ?_
      obtain ⟨A, hA⟩ : ∃ A, A = b.buf ++ ys ++ be16 (x.typ) ++ be16 x.cls ++ b4 x.ttl := ⟨_, rfl⟩
      have hA1 : b.buf ++ ys ++ rh10 (x.typ) x.cls x.ttl x.len ++ zs = A ++ be16 x.len ++ zs := by simp [hA, rh10]
      have hA2 : b.buf.length + ys.length + 8 = A.length := by simp [hA, be16_len, b4_len]; omega
      have hA3 : (b.buf ++ ys ++ rh10 (x.typ) x.cls x.ttl x.len).length = A.length + 2 := by simp [hA, rh10_len, be16_len, b4_len]; omega
      have hA4 : b.buf ++ ys ++ rh10 (x.typ) x.cls x.ttl zs.length ++ zs = A ++ be16 zs.length ++ zs := by simp [hA, rh10]
      have hA5 : (A ++ be16 x.len ++ zs).length = (A ++ be16 zs.length ++ zs).length := by simp [be16_len]
      rw [hA4]
      simp only [hA1, hA2, hA3]
      refine CodeJ.region ?_
      refine OpsJ.yld rfl rfl rfl (Yld.move rfl rfl) ?_
      refine OpsJ.yld rfl rfl rfl (Yld.move rfl rfl) ?_
      refine OpsJ.yld rfl rfl rfl (Yld.move rfl rfl) ?_
      refine OpsJ.op rfl ?_
      refine OpJ.call (fixLen_spec hd _ (by rw [List.size_toArray]; exact rhCs_len _ (by omega) _ _ _ _) A zs x.len p56 c56 hzl (by simp only [List.length_append, be16_len]; omega)) has_64 rfl rfl rfl rfl rfl [5, 0] [1, 2, 3, 4] (by decide) rfl rfl (fun _ _ => trivial) ?_
      rintro _ _ ⟨rfl, cs68, rfl⟩
      simp only [hA5]
      refine OpsJ.yld rfl rfl rfl (Yld.assign rfl rfl) ?_
      refine OpsJ.nil ?_
      refine ExJ.thenN ?_
      refine CodeJ.seq ?_
      refine CodeJ.region ?_
      refine OpsJ.yld rfl rfl rfl (Yld.move rfl rfl) ?_
      refine OpsJ.yld rfl rfl rfl (Yld.ifaceNeNil rfl Tryd.underlying67 rfl rfl) ?_
      refine OpsJ.nil ?_
      refine ExJ.thenN ?_
      refine CodeJ.condF rfl ?_
      refine CodeJ.skip ?_
      refine ExJ.thenN ?_
      refine CodeJ.seq ?_
      refine CodeJ.seq ?_
      refine CodeJ.region ?_
      refine OpsJ.yld rfl rfl rfl (Yld.move rfl rfl) ?_
      refine OpsJ.op rfl ?_
      refine OpJ.call (incr_spec G b bb p c r h3 h5 hcnt) has_65 rfl rfl rfl rfl rfl [4] [0, 1, 2, 3, 5] (by decide) rfl rfl (fun w hI => hge.call hI (is := [4]) rfl) ?_
      rintro _ _ ⟨rfl, rfl⟩
      refine OpsJ.yld rfl rfl rfl (Yld.assign rfl rfl) ?_
      refine OpsJ.nil ?_
      refine ExJ.thenN ?_
      refine CodeJ.seq ?_
      refine CodeJ.region ?_
      refine OpsJ.yld rfl rfl rfl (Yld.move rfl rfl) ?_
      refine OpsJ.yld rfl rfl rfl (Yld.ifaceNeNil rfl Tryd.underlying67 rfl rfl) ?_
      refine OpsJ.nil ?_
      refine ExJ.thenN ?_
      refine CodeJ.condF rfl ?_
      refine CodeJ.skip ?_
      refine ExJ.thenN ?_
      refine CodeJ.seq ?_
      refine CodeJ.region ?_
      refine OpsJ.yld rfl rfl rfl (Yld.move rfl rfl) ?_
      refine OpsJ.yld rfl rfl rfl (Yld.move rfl rfl) ?_
      refine OpsJ.yld rfl rfl rfl (Yld.nilCheck rfl rfl) ?_
      refine OpsJ.yld rfl rfl rfl (Yld.fieldAddr fa_108_0 rfl rfl) ?_
      refine OpsJ.op rfl ?_
      refine OpJ.store1 (i := 0) rfl rfl rfl rfl rfl sz_26 rfl rfl ?_
      refine OpsJ.nil ?_
      refine ExJ.thenN ?_
      refine CodeJ.seq ?_
      refine CodeJ.region ?_
      refine OpsJ.yld rfl rfl rfl (Yld.assign rfl rfl) ?_
      refine OpsJ.nil ?_
      refine ExJ.thenN ?_
      refine CodeJ.ret ?_
      exact ExJ.ret1 Tryd.results28 rfl ⟨.inl ⟨rfl, rfl⟩, p56, c56, rfl⟩ fun w hI => hI.pick (is := [0, 2, 3, 4]) (by decide) rfl

theorem unknown_meets : unknownAdder.Meets 27 := by
  intro G x on b bb p c r hok hb hr
  refine Spec.of Tryd.func27 rfl Tryd.ntmps27 rfl fun w0 hR => ?_
  obtain ⟨hge, w1, hrec, hkeep, hnew⟩ := hR
  have hwf : x.wf := hok.2.2.2.2.1
  have hrl : (rhCs (cut255 x.name) x.typ x.cls x.ttl x.len).length = 260 := rhCs_len _ (cut255_len x.name) _ _ _ _
  refine CodeJ.seq ?_
  refine CodeJ.region ?_
  refine OpsJ.op rfl ?_
  refine OpJ.box rfl rfl rfl rfl fun hd hhd => ?_
  refine OpsJ.op rfl ?_
  refine OpJ.box rfl rfl rfl rfl fun rc hrc => ?_
  refine OpsJ.yld rfl rfl rfl (Yld.assign rfl rfl) ?_
  refine OpsJ.nil ?_
  refine ExJ.thenN ?_
  refine CodeJ.seq ?_
  refine CodeJ.any (fuel := 6) (listed := #[false, false, false, false, false, false]) [0, 1] rfl follows_mixed rfl rfl ?_
  refine AnyJ.take (fuel := 5) (listed' := #[true, false, false, false, false, false]) 0 rfl (by kernel_rfl) (by kernel_rfl) (by kernel_rfl) rfl rfl rfl rfl (Yld.move rfl rfl) (fun w hI => hI.pick (is := [0, 1]) (by decide) rfl) ?_
  refine AnyJ.take (fuel := 4) (listed' := #[true, true, false, false, false, false]) 1 rfl (by kernel_rfl) (by kernel_rfl) (by kernel_rfl) rfl rfl rfl rfl (Yld.loadN (vs := rhCs (cut255 x.name) x.typ x.cls x.ttl x.len) rfl Tryd.underlying65 rfl (by rw [hrl]; exact sz_65) rfl (fun w hI => Inv.whole hI (i := 1) rfl)) (fun w hI => hI.pick (is := [0, 1]) (by decide) rfl) ?_
  refine AnyJ.take (fuel := 3) (listed' := #[true, true, true, false, false, false]) 2 rfl (by kernel_rfl) (by kernel_rfl) (by kernel_rfl) rfl rfl rfl rfl (Yld.loadN (vs := x.cells) rfl Tryd.underlying30 rfl sz_30 rfl (fun w hI => Inv.whole hI (i := 0) rfl)) (fun w hI => hI.pick (is := [0, 1]) (by decide) rfl) ?_
  refine AnyJ.one (fuel := 2) 3 (by kernel_rfl) ?_
  refine StepJ.op (listed' := #[true, true, true, true, false, false]) rfl rfl rfl ?_
  refine OpJ.call (unknownOf_spec x hwf) has_29 rfl rfl rfl rfl rfl [] [0, 1, 2, 3, 4] (by decide) rfl rfl (fun w hI => hI.recOk hrec hkeep hnew) ?_
  rintro _ _ ⟨pv, cv, q, bsq, hqq, rfl, rfl, hqb⟩
  refine ⟨fun w hI => hI.pick (is := [1, 2]) (by decide) rfl, ?_⟩
  refine AnyJ.one (fuel := 1) 4 (by kernel_rfl) ?_
  refine StepJ.op (listed' := #[true, true, true, true, true, false]) rfl rfl rfl ?_
  refine OpJ.call (unknownResource_spec G x on b bb p c r pv cv q bsq hqq hqb hok hb hr) has_28 rfl rfl rfl rfl rfl [3, 4, 5, 0] [1, 2] (by decide) rfl rfl (fun w hI => hge.call hI (is := [3, 4, 5, 0]) rfl) ?_
  rintro _ _ ⟨he11, p11, c11, rfl⟩
  refine ⟨fun w hI => hI.pick (is := [4, 5]) (by decide) rfl, ?_⟩
  refine AnyJ.take (fuel := 0) (listed' := #[true, true, true, true, true, true]) 5 rfl (by kernel_rfl) (by kernel_rfl) (by kernel_rfl) rfl rfl rfl rfl (Yld.assign rfl rfl) (fun w hI => hI.pick (is := [4, 5]) (by decide) rfl) ?_
  refine AnyJ.done (by kernel_rfl) ?_
  refine ExJ.thenN ?_
  refine CodeJ.ret ?_
  exact ExJ.ret1 Tryd.results27 rfl ⟨he11, p11, c11, rfl⟩ fun w hI => hI.pick (is := [0, 1, 2]) (by decide) rfl

theorem buildUnknown_spec (G : GEnv) (h : Hd) (hw : h.wf) (pre : List UInt8) (bufV stepsV : Value) (ss : List StepD) (hn : ss.length ≤ 1099511627776) (hpre : pre.length ≤ 140737488355328) (hok : RunOk unknownAdder ss false (newB pre h)) :
    Spec Tryd.prog 15 [bufV, .agg (hdCs h).toArray, stepsV] [] (RunIn G bufV pre stepsV ss) (RunPost (runF unknownAdder ss false (newB pre h)).1.fin (runF unknownAdder ss false (newB pre h)).2) := by
  refine Spec.of Tryd.func15 rfl Tryd.ntmps15 rfl fun w0 hR => ?_
  obtain ⟨hge, hbuf, hrow, hrec⟩ := hR
  refine CodeJ.seq ?_
  refine CodeJ.region ?_
  refine OpsJ.op rfl ?_
  refine OpJ.box rfl rfl rfl rfl fun hd hhd => ?_
  refine OpsJ.op rfl ?_
  refine OpJ.alloc rfl rfl rfl zero_50 fun res hres => ?_
  refine OpsJ.nil ?_
  refine ExJ.thenN ?_
  refine CodeJ.seq ?_
  refine CodeJ.region ?_
  refine OpsJ.yld rfl rfl rfl (Yld.move rfl rfl) ?_
  refine OpsJ.yld rfl rfl rfl (Yld.loadN (vs := hdCs h) rfl Tryd.underlying24 rfl sz_24 rfl (fun w hI => Inv.whole hI (i := 1) rfl)) ?_
  refine OpsJ.yld rfl rfl rfl (Yld.move rfl rfl) ?_
  refine OpsJ.op rfl ?_
  refine OpJ.call (run_spec unknownAdder 27 has_27 unknown_meets G h hw pre bufV stepsV ss hn hpre hok) has_26 rfl rfl rfl rfl rfl [] [0, 1] (by decide) rfl rfl (fun w hI => ⟨hge.call hI (is := []) rfl, hbuf.keep hI.keep (by simp [fp]), hrow.keep hI.keep (by simp [fp]), fun s hs => (hrec s hs).keep0 hI.keep⟩) ?_
  rintro _ _ ⟨p1, c1, p2, c2, rfl, rfl⟩
  refine OpsJ.op rfl ?_
  refine OpJ.storeW (i := 2) rfl rfl rfl rfl sz_50 rfl rfl rfl ?_
  refine OpsJ.nil ?_
  refine ExJ.thenN ?_
  refine CodeJ.ret ?_
  exact ExJ.retC (vs := [.slice p1 _ c1, .slice p2 _ c2, .int .i64 0]) Tryd.results15 rfl Tryd.underlying50 rfl sz_50 (fun w hI => Inv.cells hI (i := 2) rfl rfl (Nat.le_of_ble_eq_true rfl)) ⟨p1, c1, p2, c2, rfl, rfl⟩ fun w hI => hI.pick (is := [0, 1]) (by decide) rfl
end Go.Proofs.YtefncaiooanbeaaDoor
