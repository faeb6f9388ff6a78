/-
  Contracts: NewBuilder.
-/
import Derived.Test.YtdiememgbnplkaaDoorDnsH
namespace Go.Proofs.YtdiememgbnplkaaDoor
open Go
set_option maxRecDepth 100000

theorem CodeJ.nilB {P : Program} {Q : Exit → Act → World → Prop} {n : Nat} {w0 : World} {S : List Nat} {L : List (Nat × Value)} {H : List Res} {code : Code} {T : TypeId} {i c : Nat} {bs : List UInt8} (hi : H[i]? = some (ownB T (.slice none bs.length c) bs))
    (h : bs = [] → c = 0 → CodeJ P Q n w0 S code L H) : CodeJ P Q n w0 S code L H := fun a w hE hI => by
  have hr := (hI.hs _ (List.mem_of_getElem? hi)).1
  rcases hr with ⟨h0, h1, _⟩ | ⟨b, cap, cs, hv, _⟩
  · injection h0 with _ _ hc
    exact h (List.length_eq_zero_iff.1 h1) hc a w hE hI
  · injection hv with h1 _ _
    cases h1

def zero12 : List UInt8 := [0, 0, 0, 0, 0, 0, 0, 0, 0, 0, 0, 0]
def newB (pre : List UInt8) (h : Hd) : Bd := ⟨pre ++ zero12, pre.length, 1, h.id, h.bits, 0, 0, 0, 0, []⟩

theorem newBuilder_spec (pre : List UInt8) (p : Option Addr) (c : Nat) (h : Hd) (hw : h.wf) (hl : pre.length ≤ 158329674399744) :
    Spec Tryd.prog 37 [.slice p pre.length c, .agg (hdCs h).toArray] [ownB 5 (.slice p pre.length c) pre] (fun _ => True)
      (fun x H' => ∃ p' c', x = .agg (bdCs (newB pre h) p' c' none) ∧ H' = [ownB 5 (.slice p' (newB pre h).buf.length c') (newB pre h).buf]) := by
  refine Spec.of Tryd.func37 rfl Tryd.ntmps37 rfl fun w0 _ => ?_
  cases p with
  | none =>
    refine CodeJ.nilB (i := 0) rfl fun hp hc => ?_
    subst hp hc
    refine CodeJ.seq ?_
    refine CodeJ.region ?_
    refine OpsJ.op rfl ?_
    refine OpJ.box rfl rfl rfl rfl fun hd hhd => ?_
    refine OpsJ.op rfl ?_
    refine OpJ.alloc rfl rfl rfl zero_89 fun res hres => ?_
    refine OpsJ.nil ?_
    refine ExJ.thenN ?_
    refine CodeJ.seq ?_
    refine CodeJ.seq ?_
    refine CodeJ.region ?_
    refine OpsJ.yld rfl rfl rfl (Yld.move rfl rfl) ?_
    refine OpsJ.yld rfl rfl rfl (Yld.sliceEqNil rfl Tryd.underlying29 rfl) ?_
    refine OpsJ.nil ?_
    refine ExJ.thenN ?_
    refine CodeJ.condT rfl ?_
    refine CodeJ.region ?_
    refine OpsJ.op rfl ?_
    refine OpJ.makeB (c := 512) elt_29 rfl rfl rfl rfl rfl (by decide) fun msg hmsg => ?_
    refine OpsJ.yld rfl rfl rfl (Yld.assign rfl rfl) ?_
    refine OpsJ.nil ?_
    refine ExJ.thenN ?_
    refine CodeJ.seq ?_
    refine CodeJ.region ?_
    refine OpsJ.yld rfl rfl rfl (Yld.move rfl rfl) ?_
    refine OpsJ.yld rfl rfl rfl (Yld.move rfl rfl) ?_
    refine OpsJ.yld rfl rfl rfl (Yld.lenSlice rfl rfl rfl Tryd.underlying29 rfl) ?_
    refine OpsJ.yld rfl rfl rfl (Yld.build places_89 zero_89 rfl rfl rfl) ?_
    refine OpsJ.op rfl ?_
    refine OpJ.alloc rfl rfl rfl zero_89 fun bd hbd => ?_
    refine OpsJ.op rfl ?_
    refine OpJ.storeW (i := 0) rfl rfl rfl rfl sz_89 rfl rfl rfl ?_
    refine OpsJ.congrH (H' := [.blk bd (bdCs ⟨([] : List UInt8), ([] : List UInt8).length, 0, 0, 0, 0, 0, 0, 0, []⟩ (some ⟨msg, 0, none⟩) 512 none) 89, _, _, _, _]) rfl ?_
    refine OpsJ.nil ?_
    refine ExJ.thenN ?_
    refine CodeJ.seq ?_
    refine CodeJ.region ?_
    refine OpsJ.op rfl ?_
    refine OpJ.call (headerPack_spec h hw hd) has_57 rfl rfl rfl rfl rfl [] [0, 1, 2, 3, 4] (by decide) rfl rfl (fun w hI => Inv.whole hI (i := 3) rfl) ?_
    rintro _ _ ⟨rfl, rfl⟩
    refine OpsJ.yld rfl rfl rfl (Yld.move rfl rfl) ?_
    refine OpsJ.yld rfl rfl rfl (Yld.extract rfl rfl rfl) ?_
    refine OpsJ.yld rfl rfl rfl (Yld.extract rfl rfl rfl) ?_
    refine OpsJ.yld rfl rfl rfl (Yld.fieldAddr fa_89_2 rfl rfl) ?_
    refine OpsJ.yld rfl rfl rfl (Yld.fieldAddr fa_86_0 rfl rfl) ?_
    refine OpsJ.op rfl ?_
    refine OpJ.store1 (i := 0) rfl rfl rfl rfl rfl sz_22 rfl rfl ?_
    refine OpsJ.yld rfl rfl rfl (Yld.fieldAddr fa_89_2 rfl rfl) ?_
    refine OpsJ.yld rfl rfl rfl (Yld.fieldAddr fa_86_1 rfl rfl) ?_
    refine OpsJ.op rfl ?_
    refine OpJ.store1 (i := 0) rfl rfl rfl rfl rfl sz_22 rfl rfl ?_
    refine OpsJ.congrH (H' := [.blk bd (bdCs ⟨([] : List UInt8), ([] : List UInt8).length, 0, h.id, h.bits, 0, 0, 0, 0, []⟩ (some ⟨msg, 0, none⟩) 512 none) 89, _, _, _, _]) rfl ?_
    refine OpsJ.nil ?_
    refine ExJ.thenN ?_
    refine CodeJ.seq ?_
    refine CodeJ.region ?_
    refine OpsJ.op rfl ?_
    refine OpJ.alloc rfl rfl rfl zero_126 fun arr harr => ?_
    refine OpsJ.nil ?_
    refine ExJ.thenN ?_
    refine CodeJ.seq ?_
    refine CodeJ.any (fuel := 6) (listed := #[false, false, false, false, false, false]) [0] rfl follows_mixed rfl rfl ?_
    refine AnyJ.take (fuel := 5) (listed' := #[true, false, false, false, false, false]) 0 rfl (by kernel_rfl) (by kernel_rfl) (by kernel_rfl) rfl rfl rfl rfl (Yld.fieldAddr fa_89_0 rfl rfl) (fun w hI => hI.pick (is := [0]) (by decide) rfl) ?_
    refine AnyJ.take (fuel := 4) (listed' := #[true, false, true, false, false, false]) 2 rfl (by kernel_rfl) (by kernel_rfl) (by kernel_rfl) rfl rfl rfl rfl (Yld.sliceArrAll rfl Tryd.underlying126 sz_5 rfl) (fun w hI => hI.pick (is := [0]) (by decide) rfl) ?_
    refine AnyJ.one (fuel := 3) 1 (by kernel_rfl) ?_
    refine StepJ.op (listed' := #[true, true, true, false, false, false]) rfl rfl rfl ?_
    refine OpJ.yld rfl rfl (Yld.load1 rfl Tryd.underlying29 rfl rfl (fun w hI => Inv.cell1 hI (i := 1) rfl rfl)) ?_
    refine ⟨fun w hI => hI.pick (is := [0]) (by decide) rfl, ?_⟩
    refine AnyJ.one (fuel := 2) 3 (by kernel_rfl) ?_
    refine StepJ.op (listed' := #[true, true, true, true, false, false]) rfl rfl rfl ?_
    refine OpJ.appendO (i := 2) (bs := []) (news := zero12) elt_29 rfl rfl rfl rfl rfl rfl (fun w hI => Bytes.src (.inr ⟨arr, 0 + 0, 12, rfl, Inv.cells hI (i := 0) rfl rfl (Nat.le_of_ble_eq_true rfl)⟩) Tryd.underlying29) (by simp [zero12]) fun p25 c25 => ?_
    refine ⟨fun w hI => hI.pick (is := [0]) (by decide) rfl, ?_⟩
    refine AnyJ.take (fuel := 1) (listed' := #[true, true, true, true, true, false]) 4 rfl (by kernel_rfl) (by kernel_rfl) (by kernel_rfl) rfl rfl rfl rfl (Yld.fieldAddr fa_89_0 rfl rfl) (fun w hI => hI.pick (is := [0]) (by decide) rfl) ?_
    refine AnyJ.one (fuel := 0) 5 (by kernel_rfl) ?_
    refine StepJ.op (listed' := #[true, true, true, true, true, true]) rfl rfl rfl ?_
    refine OpJ.store1 (i := 1) rfl rfl rfl rfl rfl sz_29 rfl rfl ?_
    refine ⟨fun w hI => hI.pick (is := [0]) (by decide) rfl, ?_⟩
    refine AnyJ.done (by kernel_rfl) ?_
    refine ExJ.thenN ?_
    refine CodeJ.seq ?_
    refine CodeJ.region ?_
    refine OpsJ.yld rfl rfl rfl (Yld.fieldAddr fa_89_1 rfl rfl) ?_
    refine OpsJ.op rfl ?_
    refine OpJ.store1 (i := 1) rfl rfl rfl rfl rfl sz_84 rfl rfl ?_
    refine OpsJ.congrH (H' := [_, .blk bd (bdCs (newB [] h) p25 c25 none) 89, _, _, _, _]) rfl ?_
    refine OpsJ.nil ?_
    refine ExJ.thenN ?_
    refine CodeJ.seq ?_
    refine CodeJ.region ?_
    refine OpsJ.yld rfl rfl rfl (Yld.loadN (vs := (bdCs (newB [] h) p25 c25 none).toList) rfl Tryd.underlying89 rfl sz_89 rfl (fun w hI => Inv.cells hI (i := 1) rfl (off := 0) rfl (Nat.le_of_ble_eq_true rfl))) ?_
    refine OpsJ.op rfl ?_
    refine OpJ.storeW (i := 3) rfl rfl rfl rfl sz_89 rfl rfl rfl ?_
    refine OpsJ.nil ?_
    refine ExJ.thenN ?_
    refine CodeJ.ret ?_
    refine ExJ.retC (vs := (bdCs (newB [] h) p25 c25 none).toList) Tryd.results37 rfl Tryd.underlying89 rfl sz_89 (fun w hI => Inv.cells hI (i := 3) rfl rfl (Nat.le_of_ble_eq_true rfl)) ⟨p25, c25, rfl, rfl⟩ fun w hI => hI.pick (is := [2]) (by decide) rfl
  | some a =>
    refine CodeJ.seq ?_
    refine CodeJ.region ?_
    refine OpsJ.op rfl ?_
    refine OpJ.box rfl rfl rfl rfl fun hd hhd => ?_
    refine OpsJ.op rfl ?_
    refine OpJ.alloc rfl rfl rfl zero_89 fun res hres => ?_
    refine OpsJ.nil ?_
    refine ExJ.thenN ?_
    refine CodeJ.seq ?_
    refine CodeJ.seq ?_
    refine CodeJ.region ?_
    refine OpsJ.yld rfl rfl rfl (Yld.move rfl rfl) ?_
    refine OpsJ.yld rfl rfl rfl (Yld.sliceEqNil rfl Tryd.underlying29 rfl) ?_
    refine OpsJ.nil ?_
    refine ExJ.thenN ?_
    refine CodeJ.condF rfl ?_
    refine CodeJ.skip ?_
    refine ExJ.thenN ?_
    refine CodeJ.seq ?_
    refine CodeJ.region ?_
    refine OpsJ.yld rfl rfl rfl (Yld.move rfl rfl) ?_
    refine OpsJ.yld rfl rfl rfl (Yld.move rfl rfl) ?_
    refine OpsJ.yld rfl rfl rfl (Yld.lenSlice rfl rfl rfl Tryd.underlying29 rfl) ?_
    refine OpsJ.yld rfl rfl rfl (Yld.build places_89 zero_89 rfl rfl rfl) ?_
    refine OpsJ.op rfl ?_
    refine OpJ.alloc rfl rfl rfl zero_89 fun bd hbd => ?_
    refine OpsJ.op rfl ?_
    refine OpJ.storeW (i := 0) rfl rfl rfl rfl sz_89 rfl rfl rfl ?_
    refine OpsJ.congrH (H' := [.blk bd (bdCs ⟨pre, pre.length, 0, 0, 0, 0, 0, 0, 0, []⟩ (some a) c none) 89, _, _, _]) rfl ?_
    refine OpsJ.nil ?_
    refine ExJ.thenN ?_
    refine CodeJ.seq ?_
    refine CodeJ.region ?_
    refine OpsJ.op rfl ?_
    refine OpJ.call (headerPack_spec h hw hd) has_57 rfl rfl rfl rfl rfl [] [0, 1, 2, 3] (by decide) rfl rfl (fun w hI => Inv.whole hI (i := 2) rfl) ?_
    rintro _ _ ⟨rfl, rfl⟩
    refine OpsJ.yld rfl rfl rfl (Yld.move rfl rfl) ?_
    refine OpsJ.yld rfl rfl rfl (Yld.extract rfl rfl rfl) ?_
    refine OpsJ.yld rfl rfl rfl (Yld.extract rfl rfl rfl) ?_
    refine OpsJ.yld rfl rfl rfl (Yld.fieldAddr fa_89_2 rfl rfl) ?_
    refine OpsJ.yld rfl rfl rfl (Yld.fieldAddr fa_86_0 rfl rfl) ?_
    refine OpsJ.op rfl ?_
    refine OpJ.store1 (i := 0) rfl rfl rfl rfl rfl sz_22 rfl rfl ?_
    refine OpsJ.yld rfl rfl rfl (Yld.fieldAddr fa_89_2 rfl rfl) ?_
    refine OpsJ.yld rfl rfl rfl (Yld.fieldAddr fa_86_1 rfl rfl) ?_
    refine OpsJ.op rfl ?_
    refine OpJ.store1 (i := 0) rfl rfl rfl rfl rfl sz_22 rfl rfl ?_
    refine OpsJ.congrH (H' := [.blk bd (bdCs ⟨pre, pre.length, 0, h.id, h.bits, 0, 0, 0, 0, []⟩ (some a) c none) 89, _, _, _]) rfl ?_
    refine OpsJ.nil ?_
    refine ExJ.thenN ?_
    refine CodeJ.seq ?_
    refine CodeJ.region ?_
    refine OpsJ.op rfl ?_
    refine OpJ.alloc rfl rfl rfl zero_126 fun arr harr => ?_
    refine OpsJ.nil ?_
    refine ExJ.thenN ?_
    refine CodeJ.seq ?_
    refine CodeJ.any (fuel := 6) (listed := #[false, false, false, false, false, false]) [0] rfl follows_mixed rfl rfl ?_
    refine AnyJ.take (fuel := 5) (listed' := #[true, false, false, false, false, false]) 0 rfl (by kernel_rfl) (by kernel_rfl) (by kernel_rfl) rfl rfl rfl rfl (Yld.fieldAddr fa_89_0 rfl rfl) (fun w hI => hI.pick (is := [0]) (by decide) rfl) ?_
    refine AnyJ.take (fuel := 4) (listed' := #[true, false, true, false, false, false]) 2 rfl (by kernel_rfl) (by kernel_rfl) (by kernel_rfl) rfl rfl rfl rfl (Yld.sliceArrAll rfl Tryd.underlying126 sz_5 rfl) (fun w hI => hI.pick (is := [0]) (by decide) rfl) ?_
    refine AnyJ.one (fuel := 3) 1 (by kernel_rfl) ?_
    refine StepJ.op (listed' := #[true, true, true, false, false, false]) rfl rfl rfl ?_
    refine OpJ.yld rfl rfl (Yld.load1 rfl Tryd.underlying29 rfl rfl (fun w hI => Inv.cell1 hI (i := 1) rfl rfl)) ?_
    refine ⟨fun w hI => hI.pick (is := [0]) (by decide) rfl, ?_⟩
    refine AnyJ.one (fuel := 2) 3 (by kernel_rfl) ?_
    refine StepJ.op (listed' := #[true, true, true, true, false, false]) rfl rfl rfl ?_
    refine OpJ.appendO (i := 4) (bs := pre) (news := zero12) elt_29 rfl rfl rfl rfl rfl rfl (fun w hI => Bytes.src (.inr ⟨arr, 0 + 0, 12, rfl, Inv.cells hI (i := 0) rfl rfl (Nat.le_of_ble_eq_true rfl)⟩) Tryd.underlying29) (by simp [zero12]; omega) fun p25 c25 => ?_
    refine ⟨fun w hI => hI.pick (is := [0]) (by decide) rfl, ?_⟩
    refine AnyJ.take (fuel := 1) (listed' := #[true, true, true, true, true, false]) 4 rfl (by kernel_rfl) (by kernel_rfl) (by kernel_rfl) rfl rfl rfl rfl (Yld.fieldAddr fa_89_0 rfl rfl) (fun w hI => hI.pick (is := [0]) (by decide) rfl) ?_
    refine AnyJ.one (fuel := 0) 5 (by kernel_rfl) ?_
    refine StepJ.op (listed' := #[true, true, true, true, true, true]) rfl rfl rfl ?_
    refine OpJ.store1 (i := 1) rfl rfl rfl rfl rfl sz_29 rfl rfl ?_
    refine ⟨fun w hI => hI.pick (is := [0]) (by decide) rfl, ?_⟩
    refine AnyJ.done (by kernel_rfl) ?_
    refine ExJ.thenN ?_
    refine CodeJ.seq ?_
    refine CodeJ.region ?_
    refine OpsJ.yld rfl rfl rfl (Yld.fieldAddr fa_89_1 rfl rfl) ?_
    refine OpsJ.op rfl ?_
    refine OpJ.store1 (i := 1) rfl rfl rfl rfl rfl sz_84 rfl rfl ?_
    refine OpsJ.congrH (H' := [_, .blk bd (bdCs (newB pre h) p25 c25 none) 89, _, _, _]) rfl ?_
    refine OpsJ.nil ?_
    refine ExJ.thenN ?_
    refine CodeJ.seq ?_
    refine CodeJ.region ?_
    refine OpsJ.yld rfl rfl rfl (Yld.loadN (vs := (bdCs (newB pre h) p25 c25 none).toList) rfl Tryd.underlying89 rfl sz_89 rfl (fun w hI => Inv.cells hI (i := 1) rfl (off := 0) rfl (Nat.le_of_ble_eq_true rfl))) ?_
    refine OpsJ.op rfl ?_
    refine OpJ.storeW (i := 2) rfl rfl rfl rfl sz_89 rfl rfl rfl ?_
    refine OpsJ.nil ?_
    refine ExJ.thenN ?_
    refine CodeJ.ret ?_
    refine ExJ.retC (vs := (bdCs (newB pre h) p25 c25 none).toList) Tryd.results37 rfl Tryd.underlying89 rfl sz_89 (fun w hI => Inv.cells hI (i := 2) rfl rfl (Nat.le_of_ble_eq_true rfl)) ⟨p25, c25, rfl, rfl⟩ fun w hI => hI.pick (is := [4]) (by decide) rfl
end Go.Proofs.YtdiememgbnplkaaDoor
