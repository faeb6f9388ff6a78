/-
  The walk of laws.FnBitAuthority.
-/
import Derived.Test.YtdiememgbnplkaaDoorBit
namespace Go.Proofs.YtdiememgbnplkaaDoor
open Go
set_option maxRecDepth 100000

theorem bits_on_aa (h : Hd) : ({ h with aa := true } : Hd).bits = ({ h with aa := false } : Hd).bits ||| 1024 := by
  simp only [Hd.bits, flagN, if_true, if_false, Bool.false_eq_true, Nat.or_zero]
  ac_rfl
theorem bits_off_aa (h : Hd) (hk : h.ok = true) : ({ h with aa := false } : Hd).bits &&& 1024 = 0 := by
  simp only [Hd.ok, Bool.and_eq_true, decide_eq_true_eq] at hk
  simp only [Hd.bits]
  repeat' apply and_or0
  all_goals first
    | exact flag_and0 _ _ _ (by decide)
    | exact op_and0 _ (by decide) _ hk.1
    | exact code_and0 _ (by decide) _ hk.2
    | exact Nat.zero_and _
theorem head_aa (h : Hd) (hk : h.ok = true) : ∃ x y : UInt8, (head12 { h with aa := true })[2]? = some x ∧ (head12 { h with aa := false })[2]? = some y ∧ (((x &&& UInt8.ofNat 4).toNat : Int) == 0) = false ∧ (((y &&& UInt8.ofNat 4).toNat : Int) != 0) = false ∧
    (head12 { h with aa := true }).set 2 (x &&& ~~~UInt8.ofNat 4) = head12 { h with aa := false } := by
  have h1 := bits_on_aa h
  have h2 := bits_off_aa h hk
  have h3 : ({ h with aa := false } : Hd).bits / 256 &&& 4 = 0 := by
    have e : ∀ z : Nat, z / 256 = z >>> 8 := fun z => by rw [Nat.shiftRight_eq_div_pow]
    have := congrArg (· >>> 8) h2
    simp only [Nat.shiftRight_and_distrib, Nat.zero_shiftRight] at this
    rw [e]
    exact this
  obtain ⟨k1, k2, k3⟩ := byte_set 4 (by decide) _ h3
  refine ⟨_, _, rfl, rfl, ?_, k2, ?_⟩
  · rw [h1, or_div]
    exact k1
  · simp only [head12, List.set_cons_succ, List.set_cons_zero]
    rw [h1, or_div, k3, ofNat_or]
    simp
    try rfl

theorem fnBitAuthority_spec (G : Nat → Addr) (h : Hd) (hw : h.wf) : Spec Tryd.prog 6 [.agg (hdCs h).toArray] [] (fun w => GE G w []) (fun r H' => r = .bool true ∧ H' = []) := by
  refine Spec.of Tryd.func6 rfl Tryd.ntmps6 rfl fun w0 hge => ?_
  refine CodeJ.seq ?_
  refine CodeJ.region ?_
  refine OpsJ.op rfl ?_
  refine OpJ.box rfl rfl rfl rfl fun hd hhd => ?_
  refine OpsJ.yld rfl rfl rfl (Yld.assign rfl rfl) ?_
  refine OpsJ.nil ?_
  refine ExJ.thenN ?_
  refine CodeJ.seq ?_
  refine CodeJ.seq ?_
  refine CodeJ.region ?_
  refine OpsJ.yld rfl rfl rfl (Yld.loadN (vs := hdCs h) rfl Tryd.underlying24 rfl sz_24 rfl (fun w hI => Inv.whole hI (i := 0) rfl)) ?_
  refine OpsJ.op rfl ?_
  refine OpJ.call (specHead_spec h) has_16 rfl rfl rfl rfl rfl [] [0] (by decide) rfl rfl (fun _ _ => trivial) ?_
  rintro _ _ ⟨rfl, rfl⟩
  refine OpsJ.op rfl ?_
  refine OpJ.call (headOk_spec h) has_15 rfl rfl rfl rfl rfl [] [0] (by decide) rfl rfl (fun _ _ => trivial) ?_
  rintro _ _ ⟨rfl, rfl⟩
  refine OpsJ.yld rfl rfl rfl (Yld.not rfl rfl) ?_
  refine OpsJ.nil ?_
  refine ExJ.thenN ?_
  refine CodeJ.cond rfl (fun c10 => ?_) (fun c10 => ?_)
  · refine CodeJ.seq ?_
    refine CodeJ.region ?_
    refine OpsJ.yld rfl rfl rfl (Yld.assign rfl rfl) ?_
    refine OpsJ.nil ?_
    refine ExJ.thenN ?_
    refine CodeJ.ret ?_
    refine ExJ.thenR ?_
    exact ExJ.ret1 Tryd.results6 rfl ⟨rfl, rfl⟩ fun w hI => hI.pick (is := []) (by decide) rfl
  · have hok : h.ok = true := by simpa using c10
    obtain ⟨x, y, hx, hy, k1, k2, k3⟩ := head_aa h hok
    have e33 : IntKind.u8.wrap ((BitVec.ofInt IntKind.u8.bits (x.toNat : Int) &&& BitVec.ofInt IntKind.u8.bits 4).toNat : Int) = ((x &&& UInt8.ofNat 4).toNat : Int) := and_byte x 4 (by decide)
    have e40 : IntKind.u8.wrap ((BitVec.ofInt IntKind.u8.bits (y.toNat : Int) &&& BitVec.ofInt IntKind.u8.bits 4).toNat : Int) = ((y &&& UInt8.ofNat 4).toNat : Int) := and_byte y 4 (by decide)
    have e46 : IntKind.u8.wrap ((BitVec.ofInt IntKind.u8.bits (x.toNat : Int) &&& ~~~BitVec.ofInt IntKind.u8.bits 4).toNat : Int) = ((x &&& ~~~UInt8.ofNat 4).toNat : Int) := andNot_byte x 4 (by decide)
    refine CodeJ.skip ?_
    refine ExJ.thenN ?_
    refine CodeJ.cutP (fun L H => ∃ on off, L = [(3, .pointer (some ⟨on, 0, none⟩)), (4, .pointer (some ⟨off, 0, none⟩))] ∧ H = [.blk on (hdCs h).toArray 24, .blk off (hdCs h).toArray 24]) ?_ ?_
    · refine CodeJ.any (fuel := 6) (listed := #[false, false, false, false, false, false]) [0] rfl follows_mixed rfl rfl ?_
      refine AnyJ.take (fuel := 5) (listed' := #[true, false, false, false, false, false]) 0 rfl (by kernel_rfl) (by kernel_rfl) (by kernel_rfl) rfl rfl rfl rfl (Yld.loadN (vs := hdCs h) rfl Tryd.underlying24 rfl sz_24 rfl (fun w hI => Inv.whole hI (i := 0) rfl)) (fun w hI => hI.pick (is := [0]) (by decide) rfl) ?_
      refine AnyJ.take (fuel := 4) (listed' := #[true, true, false, false, false, false]) 1 rfl (by kernel_rfl) (by kernel_rfl) (by kernel_rfl) rfl rfl rfl rfl (Yld.loadN (vs := hdCs h) rfl Tryd.underlying24 rfl sz_24 rfl (fun w hI => Inv.whole hI (i := 0) rfl)) (fun w hI => hI.pick (is := [0]) (by decide) rfl) ?_
      refine AnyJ.two (fuel := 3) 2 3 (by kernel_rfl) ?_ ?_
      · refine StepJ.op (listed' := #[true, true, true, false, false, false]) rfl rfl rfl ?_
        refine OpJ.alloc rfl rfl rfl zero_24 fun on hon => ?_
        refine ⟨fun w hI => hI.pick (is := [1]) (by decide) rfl, ?_⟩
        refine AnyJ.one (fuel := 2) 3 (by kernel_rfl) ?_
        refine StepJ.op (listed' := #[true, true, true, true, false, false]) rfl rfl rfl ?_
        refine OpJ.alloc rfl rfl rfl zero_24 fun off hoff => ?_
        refine ⟨fun w hI => hI.pick (is := [2]) (by decide) rfl, ?_⟩
        refine AnyJ.one (fuel := 1) 4 (by kernel_rfl) ?_
        refine StepJ.op (listed' := #[true, true, true, true, true, false]) rfl rfl rfl ?_
        refine OpJ.storeW (i := 1) rfl rfl rfl rfl sz_24 rfl rfl rfl ?_
        refine ⟨fun w hI => hI.pick (is := [2]) (by decide) rfl, ?_⟩
        refine AnyJ.one (fuel := 0) 5 (by kernel_rfl) ?_
        refine StepJ.op (listed' := #[true, true, true, true, true, true]) rfl rfl rfl ?_
        refine OpJ.storeW (i := 0) rfl rfl rfl rfl sz_24 rfl rfl rfl ?_
        refine ⟨fun w hI => hI.pick (is := [2]) (by decide) rfl, ?_⟩
        refine AnyJ.done (by kernel_rfl) ?_
        exact ExJ.meetP ⟨on, off, rfl, rfl⟩ ⟨rfl, rfl, trivial⟩ fun w hI => hI.pick (is := [1, 0]) (by decide) rfl
      · refine StepJ.op (listed' := #[true, true, false, true, false, false]) rfl rfl rfl ?_
        refine OpJ.alloc rfl rfl rfl zero_24 fun off hoff => ?_
        refine ⟨fun w hI => hI.pick (is := [1]) (by decide) rfl, ?_⟩
        refine AnyJ.one (fuel := 2) 2 (by kernel_rfl) ?_
        refine StepJ.op (listed' := #[true, true, true, true, false, false]) rfl rfl rfl ?_
        refine OpJ.alloc rfl rfl rfl zero_24 fun on hon => ?_
        refine ⟨fun w hI => hI.pick (is := [2]) (by decide) rfl, ?_⟩
        refine AnyJ.one (fuel := 1) 4 (by kernel_rfl) ?_
        refine StepJ.op (listed' := #[true, true, true, true, true, false]) rfl rfl rfl ?_
        refine OpJ.storeW (i := 0) rfl rfl rfl rfl sz_24 rfl rfl rfl ?_
        refine ⟨fun w hI => hI.pick (is := [2]) (by decide) rfl, ?_⟩
        refine AnyJ.one (fuel := 0) 5 (by kernel_rfl) ?_
        refine StepJ.op (listed' := #[true, true, true, true, true, true]) rfl rfl rfl ?_
        refine OpJ.storeW (i := 1) rfl rfl rfl rfl sz_24 rfl rfl rfl ?_
        refine ⟨fun w hI => hI.pick (is := [2]) (by decide) rfl, ?_⟩
        refine AnyJ.done (by kernel_rfl) ?_
        exact ExJ.meetP ⟨on, off, rfl, rfl⟩ ⟨rfl, rfl, trivial⟩ fun w hI => hI.pick (is := [0, 1]) (by decide) rfl
    · rintro _ _ ⟨on, off, rfl, rfl⟩
      refine CodeJ.seq ?_
      refine CodeJ.region ?_
      refine OpsJ.yld rfl rfl rfl (Yld.fieldAddr fa_24_3 rfl rfl) ?_
      refine OpsJ.op rfl ?_
      refine OpJ.store1 (i := 0) rfl rfl rfl rfl rfl sz_4 rfl rfl ?_
      refine OpsJ.yld rfl rfl rfl (Yld.fieldAddr fa_24_3 rfl rfl) ?_
      refine OpsJ.op rfl ?_
      refine OpJ.store1 (i := 1) rfl rfl rfl rfl rfl sz_4 rfl rfl ?_
      refine OpsJ.nil ?_
      refine ExJ.thenN ?_
      refine CodeJ.seq ?_
      refine CodeJ.any (fuel := 8) (listed := #[false, false, false, false, false, false, false, false]) [0, 1] rfl follows_mixed rfl rfl ?_
      refine AnyJ.take (fuel := 7) (listed' := #[true, false, false, false, false, false, false, false]) 0 rfl (by kernel_rfl) (by kernel_rfl) (by kernel_rfl) rfl rfl rfl rfl (Yld.loadN (vs := hdCs { h with aa := true }) rfl Tryd.underlying24 rfl sz_24 rfl (fun w hI => Inv.whole hI (i := 0) rfl)) (fun w hI => hI.pick (is := [0, 1]) (by decide) rfl) ?_
      refine AnyJ.take (fuel := 6) (listed' := #[true, false, false, true, false, false, false, false]) 3 rfl (by kernel_rfl) (by kernel_rfl) (by kernel_rfl) rfl rfl rfl rfl (Yld.loadN (vs := hdCs { h with aa := false }) rfl Tryd.underlying24 rfl sz_24 rfl (fun w hI => Inv.whole hI (i := 1) rfl)) (fun w hI => hI.pick (is := [0, 1]) (by decide) rfl) ?_
      refine AnyJ.one (fuel := 5) 1 (by kernel_rfl) ?_
      refine StepJ.op (listed' := #[true, true, false, true, false, false, false, false]) rfl rfl rfl ?_
      refine OpJ.call (buildNil_spec G { h with aa := true } hw) has_13 rfl rfl rfl rfl rfl [] [0, 1] (by decide) rfl rfl (fun w hI => hge.call hI (is := []) rfl) ?_
      rintro _ _ ⟨p1, c1, p2, c2, rfl, rfl⟩
      refine ⟨fun w hI => hI.pick (is := [2, 3]) (by decide) rfl, ?_⟩
      refine AnyJ.take (fuel := 4) (listed' := #[true, true, true, true, false, false, false, false]) 2 rfl (by kernel_rfl) (by kernel_rfl) (by kernel_rfl) rfl rfl rfl rfl (Yld.field rfl Tryd.underlying37 rfl rfl Tryd.underlying29 rfl rfl rfl) (fun w hI => hI.pick (is := [2, 3]) (by decide) rfl) ?_
      refine AnyJ.one (fuel := 3) 4 (by kernel_rfl) ?_
      refine StepJ.op (listed' := #[true, true, true, true, true, false, false, false]) rfl rfl rfl ?_
      refine OpJ.call (buildNil_spec G { h with aa := false } hw) has_13 rfl rfl rfl rfl rfl [] [0, 1, 2, 3] (by decide) rfl rfl (fun w hI => hge.call hI (is := []) rfl) ?_
      rintro _ _ ⟨q1, d1, q2, d2, rfl, rfl⟩
      refine ⟨fun w hI => hI.pick (is := [4, 5]) (by decide) rfl, ?_⟩
      refine AnyJ.take (fuel := 2) (listed' := #[true, true, true, true, true, true, false, false]) 5 rfl (by kernel_rfl) (by kernel_rfl) (by kernel_rfl) rfl rfl rfl rfl (Yld.field rfl Tryd.underlying37 rfl rfl Tryd.underlying29 rfl rfl rfl) (fun w hI => hI.pick (is := [4, 5]) (by decide) rfl) ?_
      refine AnyJ.take (fuel := 1) (listed' := #[true, true, true, true, true, true, true, false]) 6 rfl (by kernel_rfl) (by kernel_rfl) (by kernel_rfl) rfl rfl rfl rfl (Yld.assign rfl rfl) (fun w hI => hI.pick (is := [4, 5]) (by decide) rfl) ?_
      refine AnyJ.take (fuel := 0) (listed' := #[true, true, true, true, true, true, true, true]) 7 rfl (by kernel_rfl) (by kernel_rfl) (by kernel_rfl) rfl rfl rfl rfl (Yld.assign rfl rfl) (fun w hI => hI.pick (is := [4, 5]) (by decide) rfl) ?_
      refine AnyJ.done (by kernel_rfl) ?_
      refine ExJ.thenN ?_
      refine CodeJ.seq ?_
      refine CodeJ.seq ?_
      refine CodeJ.openB (i := 3) rfl (by simp [head12]) fun b1 cs1 hp1 hcs1 hcn1 htk1 => ?_
      subst hp1
      refine CodeJ.openB (i := 1) rfl (by simp [head12]) fun b2 cs2 hp2 hcs2 hcn2 htk2 => ?_
      subst hp2
      have g1 := cell_of_take htk1 hx
      have g2 := cell_of_take htk2 hy
      refine CodeJ.region ?_
      refine OpsJ.yld rfl rfl rfl (Yld.move rfl rfl) ?_
      refine OpsJ.yld rfl rfl rfl (Yld.lenSlice rfl rfl rfl Tryd.underlying29 rfl) ?_
      refine OpsJ.yld rfl rfl rfl (Yld.intBin rfl rfl rfl rfl) ?_
      refine OpsJ.yld rfl rfl rfl (Yld.move rfl rfl) ?_
      refine OpsJ.splitB (s := 24) rfl (fun g24 => ?_) (fun g24 => ?_)
      · exact absurd (show false = true from g24) Bool.false_ne_true
      · refine OpsJ.opT rfl rfl rfl ?_
        refine OpJ.yld rfl rfl (Yld.move rfl rfl) ?_
        refine OpsJ.opT rfl rfl rfl ?_
        refine OpJ.yld rfl rfl (Yld.lenSlice rfl rfl rfl Tryd.underlying29 rfl) ?_
        refine OpsJ.opT rfl rfl rfl ?_
        refine OpJ.yld rfl rfl (Yld.intBin rfl rfl rfl rfl) ?_
        refine OpsJ.yld rfl rfl rfl (Yld.pickF rfl rfl rfl) ?_
        refine OpsJ.yld rfl rfl rfl (Yld.move rfl rfl) ?_
        refine OpsJ.splitB (s := 29) rfl (fun g29 => ?_) (fun g29 => ?_)
        · exact absurd (show false = true from g29) Bool.false_ne_true
        · refine OpsJ.opT rfl rfl rfl ?_
          refine OpJ.yld rfl rfl (Yld.move rfl rfl) ?_
          refine OpsJ.opT rfl rfl rfl ?_
          refine OpJ.yld rfl rfl (Yld.indexAddr (i := 2) rfl Tryd.underlying29 sz_5 rfl rfl (Nat.le_of_ble_eq_true rfl)) ?_
          refine OpsJ.opT rfl rfl rfl ?_
          refine OpJ.yld rfl rfl (Yld.load1 rfl Tryd.underlying5 rfl rfl (fun w hI => Inv.cell1 hI (i := 3) rfl g1)) ?_
          refine OpsJ.opT rfl rfl rfl ?_
          refine OpJ.yld rfl rfl (Yld.intBin rfl rfl rfl rfl) ?_
          rw [e33]
          refine OpsJ.opT rfl rfl rfl ?_
          refine OpJ.yld rfl rfl (Yld.intBin rfl rfl rfl rfl) ?_
          refine OpsJ.yld rfl rfl rfl (Yld.pickF rfl rfl rfl) ?_
          refine OpsJ.yld rfl rfl rfl (Yld.move rfl rfl) ?_
          refine OpsJ.splitB (s := 36) rfl (fun g36 => ?_) (fun g36 => ?_)
          · exact absurd (k1.symm.trans g36) (by decide)
          · refine OpsJ.opT rfl rfl rfl ?_
            refine OpJ.yld rfl rfl (Yld.move rfl rfl) ?_
            refine OpsJ.opT rfl rfl rfl ?_
            refine OpJ.yld rfl rfl (Yld.indexAddr (i := 2) rfl Tryd.underlying29 sz_5 rfl rfl (Nat.le_of_ble_eq_true rfl)) ?_
            refine OpsJ.opT rfl rfl rfl ?_
            refine OpJ.yld rfl rfl (Yld.load1 rfl Tryd.underlying5 rfl rfl (fun w hI => Inv.cell1 hI (i := 1) rfl g2)) ?_
            refine OpsJ.opT rfl rfl rfl ?_
            refine OpJ.yld rfl rfl (Yld.intBin rfl rfl rfl rfl) ?_
            rw [e40]
            refine OpsJ.opT rfl rfl rfl ?_
            refine OpJ.yld rfl rfl (Yld.intBin rfl rfl rfl rfl) ?_
            refine OpsJ.yld rfl rfl rfl (Yld.pickF rfl rfl rfl) ?_
            refine OpsJ.nil ?_
            refine ExJ.thenN ?_
            refine CodeJ.cond rfl (fun c42 => ?_) (fun c42 => ?_)
            · exact absurd (k2.symm.trans c42) (by decide)
            · refine CodeJ.skip ?_
              refine ExJ.thenN ?_
              refine CodeJ.seq ?_
              refine CodeJ.region ?_
              refine OpsJ.yld rfl rfl rfl (Yld.move rfl rfl) ?_
              refine OpsJ.yld rfl rfl rfl (Yld.indexAddr (i := 2) rfl Tryd.underlying29 sz_5 rfl rfl (Nat.le_of_ble_eq_true rfl)) ?_
              refine OpsJ.yld rfl rfl rfl (Yld.load1 rfl Tryd.underlying5 rfl rfl (fun w hI => Inv.cell1 hI (i := 3) rfl g1)) ?_
              refine OpsJ.yld rfl rfl rfl (Yld.intBin rfl rfl rfl rfl) ?_
              rw [e46]
              refine OpsJ.yld rfl rfl rfl (Yld.indexAddr (i := 2) rfl Tryd.underlying29 sz_5 rfl rfl (Nat.le_of_ble_eq_true rfl)) ?_
              refine OpsJ.op rfl ?_
              refine OpJ.store1 (i := 3) rfl rfl rfl rfl rfl sz_5 rfl (by rw [hcs1]; exact Nat.ble_eq_true_of_le (Nat.le_trans (Nat.le_of_ble_eq_true rfl) hcn1)) ?_
              refine OpsJ.nil ?_
              refine ExJ.thenN ?_
              refine CodeJ.seq ?_
              refine CodeJ.region ?_
              refine OpsJ.yld rfl rfl rfl (Yld.move rfl rfl) ?_
              refine OpsJ.yld rfl rfl rfl (Yld.move rfl rfl) ?_
              refine OpsJ.op rfl ?_
              refine OpJ.call (same_spec _ _ (head12 { h with aa := false }) (head12 { h with aa := false })) has_17 rfl rfl rfl rfl rfl [] [0, 1, 2, 3, 4, 5] (by decide) rfl rfl (fun w hI => ⟨by rw [← k3]; exact Inv.bytesBlk (bs := (head12 { h with aa := true }).set 2 (x &&& ~~~UInt8.ofNat 4)) hI (i := 3) rfl (takeB_setCs htk1 (by rw [hcs1]; exact hcn1) 2 (x &&& ~~~UInt8.ofNat 4) (Nat.le_of_ble_eq_true rfl)) (by rw [setCs_size (by rw [hcs1]; exact Nat.le_trans (Nat.le_of_ble_eq_true rfl) hcn1), hcs1]; exact hcn1), Inv.bytesBlk hI (i := 1) rfl htk2 (by rw [hcs2]; exact hcn2)⟩) ?_
              rintro _ _ ⟨rfl, rfl⟩
              refine OpsJ.yld rfl rfl rfl (Yld.assign rfl rfl) ?_
              refine OpsJ.nil ?_
              refine ExJ.thenN ?_
              refine CodeJ.ret ?_
              exact ExJ.ret1 Tryd.results6 rfl ⟨by simp, rfl⟩ fun w hI => hI.pick (is := []) (by decide) rfl
end Go.Proofs.YtdiememgbnplkaaDoor
