/-
  Contracts of the package: headers, and the builder's sections.
-/
import Derived.Test.YtdiememgbnplkaaDoorDnsB
namespace Go.Proofs.YtdiememgbnplkaaDoor
open Go
set_option maxRecDepth 100000

/-! ### headers -/
def hdCs (h : Hd) : List Value := [.int .u16 h.id, .bool h.qr, .int .u16 h.op, .bool h.aa, .bool h.tc, .bool h.rd, .bool h.ra, .bool h.ad, .bool h.cd, .int .u16 h.code]

theorem headerOf_spec (h : Hd) : Spec Tryd.prog 38 [.agg (hdCs h).toArray] [] (fun _ => True) (fun r H' => r = .agg (hdCs h).toArray ∧ H' = []) := by
  refine Spec.of Tryd.func38 rfl Tryd.ntmps38 rfl fun w0 _ => ?_
  refine CodeJ.seq ?_
  refine CodeJ.region ?_
  refine OpsJ.op rfl ?_
  refine OpJ.box rfl rfl rfl rfl fun hd hhd => ?_
  refine OpsJ.op rfl ?_
  refine OpJ.alloc rfl rfl rfl zero_94 fun res hres => ?_
  refine OpsJ.nil ?_
  refine ExJ.thenN ?_
  refine CodeJ.seq ?_
  refine CodeJ.region ?_
  refine OpsJ.yld rfl rfl rfl (Yld.fieldAddr fa_24_0 rfl rfl) ?_
  refine OpsJ.yld rfl rfl rfl (Yld.load1 rfl Tryd.underlying22 rfl rfl (fun w hI => Inv.cell1 hI (i := 1) rfl rfl)) ?_
  refine OpsJ.yld rfl rfl rfl (Yld.fieldAddr fa_24_1 rfl rfl) ?_
  refine OpsJ.yld rfl rfl rfl (Yld.load1 rfl Tryd.underlying4 rfl rfl (fun w hI => Inv.cell1 hI (i := 1) rfl rfl)) ?_
  refine OpsJ.yld rfl rfl rfl (Yld.fieldAddr fa_24_2 rfl rfl) ?_
  refine OpsJ.yld rfl rfl rfl (Yld.load1 rfl Tryd.underlying22 rfl rfl (fun w hI => Inv.cell1 hI (i := 1) rfl rfl)) ?_
  refine OpsJ.yld rfl rfl rfl (Yld.fieldAddr fa_24_3 rfl rfl) ?_
  refine OpsJ.yld rfl rfl rfl (Yld.load1 rfl Tryd.underlying4 rfl rfl (fun w hI => Inv.cell1 hI (i := 1) rfl rfl)) ?_
  refine OpsJ.yld rfl rfl rfl (Yld.fieldAddr fa_24_4 rfl rfl) ?_
  refine OpsJ.yld rfl rfl rfl (Yld.load1 rfl Tryd.underlying4 rfl rfl (fun w hI => Inv.cell1 hI (i := 1) rfl rfl)) ?_
  refine OpsJ.yld rfl rfl rfl (Yld.fieldAddr fa_24_5 rfl rfl) ?_
  refine OpsJ.yld rfl rfl rfl (Yld.load1 rfl Tryd.underlying4 rfl rfl (fun w hI => Inv.cell1 hI (i := 1) rfl rfl)) ?_
  refine OpsJ.yld rfl rfl rfl (Yld.fieldAddr fa_24_6 rfl rfl) ?_
  refine OpsJ.yld rfl rfl rfl (Yld.load1 rfl Tryd.underlying4 rfl rfl (fun w hI => Inv.cell1 hI (i := 1) rfl rfl)) ?_
  refine OpsJ.yld rfl rfl rfl (Yld.fieldAddr fa_24_7 rfl rfl) ?_
  refine OpsJ.yld rfl rfl rfl (Yld.load1 rfl Tryd.underlying4 rfl rfl (fun w hI => Inv.cell1 hI (i := 1) rfl rfl)) ?_
  refine OpsJ.yld rfl rfl rfl (Yld.fieldAddr fa_24_8 rfl rfl) ?_
  refine OpsJ.yld rfl rfl rfl (Yld.load1 rfl Tryd.underlying4 rfl rfl (fun w hI => Inv.cell1 hI (i := 1) rfl rfl)) ?_
  refine OpsJ.yld rfl rfl rfl (Yld.fieldAddr fa_24_9 rfl rfl) ?_
  refine OpsJ.yld rfl rfl rfl (Yld.load1 rfl Tryd.underlying22 rfl rfl (fun w hI => Inv.cell1 hI (i := 1) rfl rfl)) ?_
  refine OpsJ.yld rfl rfl rfl (Yld.buildAll places_94 zero_94 rfl rfl ⟨rfl, rfl, rfl, rfl, rfl, rfl, rfl, rfl, rfl, rfl, trivial⟩ rfl) ?_
  refine OpsJ.op rfl ?_
  refine OpJ.storeW (i := 0) rfl rfl rfl rfl sz_94 rfl rfl rfl ?_
  refine OpsJ.nil ?_
  refine ExJ.thenN ?_
  refine CodeJ.ret ?_
  exact ExJ.retC (vs := hdCs h) Tryd.results38 rfl Tryd.underlying94 rfl sz_94 (fun w hI => Inv.whole hI (i := 0) rfl) ⟨rfl, rfl⟩ fun w hI => hI.pick (is := []) (by decide) rfl

/-- the flags, one behind the other -/
def hB0 (h : Hd) : Nat := h.op * 2048 % 65536 ||| h.code
def hB1 (h : Hd) : Nat := hB0 h ||| flagN h.ra 128
def hB2 (h : Hd) : Nat := hB1 h ||| flagN h.rd 256
def hB3 (h : Hd) : Nat := hB2 h ||| flagN h.tc 512
def hB4 (h : Hd) : Nat := hB3 h ||| flagN h.aa 1024
def hB5 (h : Hd) : Nat := hB4 h ||| flagN h.qr 32768
def hB6 (h : Hd) : Nat := hB5 h ||| flagN h.ad 32
def hB7 (h : Hd) : Nat := hB6 h ||| flagN h.cd 16
theorem u16_orL (x y : Nat) (z : Int) (hz : z = (y : Int)) (hx : x < 65536) (hy : y < 65536) : IntKind.u16.wrap ((BitVec.ofInt IntKind.u16.bits (x : Int) ||| BitVec.ofInt IntKind.u16.bits z).toNat : Int) = ((x ||| y : Nat) : Int) := by
  subst hz
  exact u16_or x y hx hy
theorem hB_bits (h : Hd) : hB7 h = h.bits := by
  simp only [hB7, hB6, hB5, hB4, hB3, hB2, hB1, hB0, Hd.bits]
  ac_rfl
theorem hB_lt (h : Hd) (hw : h.wf) : hB0 h < 65536 ∧ hB1 h < 65536 ∧ hB2 h < 65536 ∧ hB3 h < 65536 ∧ hB4 h < 65536 ∧ hB5 h < 65536 ∧ hB6 h < 65536 := by
  have h0 : hB0 h < 65536 := or_lt _ _ (Nat.mod_lt _ (by decide)) hw.2.2
  have h1 : hB1 h < 65536 := or_lt _ _ h0 (flagN_lt _ _ (by decide))
  have h2 : hB2 h < 65536 := or_lt _ _ h1 (flagN_lt _ _ (by decide))
  have h3 : hB3 h < 65536 := or_lt _ _ h2 (flagN_lt _ _ (by decide))
  have h4 : hB4 h < 65536 := or_lt _ _ h3 (flagN_lt _ _ (by decide))
  have h5 : hB5 h < 65536 := or_lt _ _ h4 (flagN_lt _ _ (by decide))
  exact ⟨h0, h1, h2, h3, h4, h5, or_lt _ _ h5 (flagN_lt _ _ (by decide))⟩
theorem flagN_true (x : Nat) : flagN true x = x := rfl
theorem flagN_false (x y : Nat) : x ||| flagN false y = x := by simp [flagN]
theorem fT {b : Bool} (h : b = true) (x y : Nat) : x ||| flagN b y = x ||| y := by rw [h, flagN_true]
theorem fF {b : Bool} (h : b = false) (x y : Nat) : x ||| flagN b y = x := by rw [h, flagN_false]

theorem headerPack_spec (h : Hd) (hw : h.wf) (bq : Nat) : Spec Tryd.prog 57 [.pointer (some ⟨bq, 0, none⟩)] [] (fun w => Cells w bq 0 (hdCs h)) (fun r H' => r = .tuple #[.int .u16 h.id, .int .u16 h.bits] ∧ H' = []) := by
  refine Spec.of Tryd.func57 rfl Tryd.ntmps57 rfl fun w0 hcs => ?_
  have hbq : bq ∉ fp [] := by simp [fp]
  obtain ⟨l0, l1, l2, l3, l4, l5, l6⟩ := hB_lt h hw
  refine CodeJ.seq ?_
  refine CodeJ.region ?_
  refine OpsJ.yld rfl rfl rfl (Yld.assign rfl rfl) ?_
  refine OpsJ.yld rfl rfl rfl (Yld.assign rfl rfl) ?_
  refine OpsJ.nil ?_
  refine ExJ.thenN ?_
  refine CodeJ.seq ?_
  refine CodeJ.region ?_
  refine OpsJ.yld rfl rfl rfl (Yld.move rfl rfl) ?_
  refine OpsJ.yld rfl rfl rfl (Yld.nilCheck rfl rfl) ?_
  refine OpsJ.yld rfl rfl rfl (Yld.fieldAddr fa_94_0 rfl rfl) ?_
  refine OpsJ.yld rfl rfl rfl (Yld.load1 rfl Tryd.underlying22 rfl rfl (fun w hI => hI.old (hcs.one (k := 0) rfl) hbq)) ?_
  refine OpsJ.yld rfl rfl rfl (Yld.assign rfl rfl) ?_
  refine OpsJ.nil ?_
  refine ExJ.thenN ?_
  refine CodeJ.seq ?_
  refine CodeJ.any (fuel := 11) (listed := #[false, false, false, false, false, false, false, false, false, false, false]) [] rfl follows_mixed rfl rfl ?_
  refine AnyJ.take (fuel := 10) (listed' := #[true, false, false, false, false, false, false, false, false, false, false]) 0 rfl (by kernel_rfl) (by kernel_rfl) (by kernel_rfl) rfl rfl rfl rfl (Yld.move rfl rfl) (fun w hI => hI.pick (is := []) (by decide) rfl) ?_
  refine AnyJ.take (fuel := 9) (listed' := #[true, true, false, false, false, false, false, false, false, false, false]) 1 rfl (by kernel_rfl) (by kernel_rfl) (by kernel_rfl) rfl rfl rfl rfl (Yld.nilCheck rfl rfl) (fun w hI => hI.pick (is := []) (by decide) rfl) ?_
  refine AnyJ.take (fuel := 8) (listed' := #[true, true, true, false, false, false, false, false, false, false, false]) 2 rfl (by kernel_rfl) (by kernel_rfl) (by kernel_rfl) rfl rfl rfl rfl (Yld.fieldAddr fa_94_2 rfl rfl) (fun w hI => hI.pick (is := []) (by decide) rfl) ?_
  refine AnyJ.take (fuel := 7) (listed' := #[true, true, true, true, false, false, false, false, false, false, false]) 3 rfl (by kernel_rfl) (by kernel_rfl) (by kernel_rfl) rfl rfl rfl rfl (Yld.load1 rfl Tryd.underlying91 rfl rfl (fun w hI => hI.old (hcs.one (k := 2) rfl) hbq)) (fun w hI => hI.pick (is := []) (by decide) rfl) ?_
  refine AnyJ.take (fuel := 6) (listed' := #[true, true, true, true, true, false, false, false, false, false, false]) 4 rfl (by kernel_rfl) (by kernel_rfl) (by kernel_rfl) rfl rfl rfl rfl (Yld.shl rfl rfl rfl (by decide)) (fun w hI => hI.pick (is := []) (by decide) rfl) ?_
  rw [u16_shl11]
  refine AnyJ.take (fuel := 5) (listed' := #[true, true, true, true, true, true, false, false, false, false, false]) 5 rfl (by kernel_rfl) (by kernel_rfl) (by kernel_rfl) rfl rfl rfl rfl (Yld.move rfl rfl) (fun w hI => hI.pick (is := []) (by decide) rfl) ?_
  refine AnyJ.take (fuel := 4) (listed' := #[true, true, true, true, true, true, true, false, false, false, false]) 6 rfl (by kernel_rfl) (by kernel_rfl) (by kernel_rfl) rfl rfl rfl rfl (Yld.nilCheck rfl rfl) (fun w hI => hI.pick (is := []) (by decide) rfl) ?_
  refine AnyJ.take (fuel := 3) (listed' := #[true, true, true, true, true, true, true, true, false, false, false]) 7 rfl (by kernel_rfl) (by kernel_rfl) (by kernel_rfl) rfl rfl rfl rfl (Yld.fieldAddr fa_94_9 rfl rfl) (fun w hI => hI.pick (is := []) (by decide) rfl) ?_
  refine AnyJ.take (fuel := 2) (listed' := #[true, true, true, true, true, true, true, true, true, false, false]) 8 rfl (by kernel_rfl) (by kernel_rfl) (by kernel_rfl) rfl rfl rfl rfl (Yld.load1 rfl Tryd.underlying92 rfl rfl (fun w hI => hI.old (hcs.one (k := 9) rfl) hbq)) (fun w hI => hI.pick (is := []) (by decide) rfl) ?_
  refine AnyJ.take (fuel := 1) (listed' := #[true, true, true, true, true, true, true, true, true, true, false]) 9 rfl (by kernel_rfl) (by kernel_rfl) (by kernel_rfl) rfl rfl rfl rfl (Yld.intBin rfl rfl rfl rfl) (fun w hI => hI.pick (is := []) (by decide) rfl) ?_
  rw [u16_or _ _ (Nat.mod_lt _ (by decide)) hw.2.2]
  refine AnyJ.take (fuel := 0) (listed' := #[true, true, true, true, true, true, true, true, true, true, true]) 10 rfl (by kernel_rfl) (by kernel_rfl) (by kernel_rfl) rfl rfl rfl rfl (Yld.assign rfl rfl) (fun w hI => hI.pick (is := []) (by decide) rfl) ?_
  refine AnyJ.done (by kernel_rfl) ?_
  refine ExJ.thenN ?_
  refine CodeJ.cutP (fun L H => L = [(0, .pointer (some ⟨bq, 0, none⟩)), (2, .int .u16 h.id), (3, .int .u16 (hB1 h))] ∧ H = []) ?_ ?_
  · refine CodeJ.seq ?_
    refine CodeJ.region ?_
    refine OpsJ.yld rfl rfl rfl (Yld.move rfl rfl) ?_
    refine OpsJ.yld rfl rfl rfl (Yld.nilCheck rfl rfl) ?_
    refine OpsJ.yld rfl rfl rfl (Yld.fieldAddr fa_94_6 rfl rfl) ?_
    refine OpsJ.yld rfl rfl rfl (Yld.load1 rfl Tryd.underlying4 rfl rfl (fun w hI => hI.old (hcs.one (k := 6) rfl) hbq)) ?_
    refine OpsJ.nil ?_
    refine ExJ.thenN ?_
    refine CodeJ.cond rfl (fun c21 => ?_) (fun c21 => ?_)
    · refine CodeJ.region ?_
      refine OpsJ.yld rfl rfl rfl (Yld.move rfl rfl) ?_
      refine OpsJ.yld rfl rfl rfl (Yld.intBin rfl rfl rfl rfl) ?_
      rw [u16_orL _ 128 128 rfl (by exact l0) (by decide)]
      refine OpsJ.yld rfl rfl rfl (Yld.assign rfl rfl) ?_
      refine OpsJ.nil ?_
      exact ExJ.meetP ⟨rfl, rfl⟩ ⟨rfl, rfl, by show _ = some (Value.int .u16 (hB1 h : Nat)); rw [show hB1 h = hB0 h ||| 128 from fT c21 _ _]; rfl, trivial⟩ fun w hI => hI
    · refine CodeJ.skip ?_
      exact ExJ.meetP ⟨rfl, rfl⟩ ⟨rfl, rfl, by show _ = some (Value.int .u16 (hB1 h : Nat)); rw [show hB1 h = hB0 h from fF c21 _ _]; rfl, trivial⟩ fun w hI => hI
  · rintro _ _ ⟨rfl, rfl⟩
    refine CodeJ.cutP (fun L H => L = [(0, .pointer (some ⟨bq, 0, none⟩)), (2, .int .u16 h.id), (3, .int .u16 (hB2 h))] ∧ H = []) ?_ ?_
    · refine CodeJ.seq ?_
      refine CodeJ.region ?_
      refine OpsJ.yld rfl rfl rfl (Yld.move rfl rfl) ?_
      refine OpsJ.yld rfl rfl rfl (Yld.nilCheck rfl rfl) ?_
      refine OpsJ.yld rfl rfl rfl (Yld.fieldAddr fa_94_5 rfl rfl) ?_
      refine OpsJ.yld rfl rfl rfl (Yld.load1 rfl Tryd.underlying4 rfl rfl (fun w hI => hI.old (hcs.one (k := 5) rfl) hbq)) ?_
      refine OpsJ.nil ?_
      refine ExJ.thenN ?_
      refine CodeJ.cond rfl (fun c27 => ?_) (fun c27 => ?_)
      · refine CodeJ.region ?_
        refine OpsJ.yld rfl rfl rfl (Yld.move rfl rfl) ?_
        refine OpsJ.yld rfl rfl rfl (Yld.intBin rfl rfl rfl rfl) ?_
        rw [u16_orL _ 256 256 rfl (by exact l1) (by decide)]
        refine OpsJ.yld rfl rfl rfl (Yld.assign rfl rfl) ?_
        refine OpsJ.nil ?_
        exact ExJ.meetP ⟨rfl, rfl⟩ ⟨rfl, rfl, by show _ = some (Value.int .u16 (hB2 h : Nat)); rw [show hB2 h = hB1 h ||| 256 from fT c27 _ _]; rfl, trivial⟩ fun w hI => hI
      · refine CodeJ.skip ?_
        exact ExJ.meetP ⟨rfl, rfl⟩ ⟨rfl, rfl, by show _ = some (Value.int .u16 (hB2 h : Nat)); rw [show hB2 h = hB1 h from fF c27 _ _]; rfl, trivial⟩ fun w hI => hI
    · rintro _ _ ⟨rfl, rfl⟩
      refine CodeJ.cutP (fun L H => L = [(0, .pointer (some ⟨bq, 0, none⟩)), (2, .int .u16 h.id), (3, .int .u16 (hB3 h))] ∧ H = []) ?_ ?_
      · refine CodeJ.seq ?_
        refine CodeJ.region ?_
        refine OpsJ.yld rfl rfl rfl (Yld.move rfl rfl) ?_
        refine OpsJ.yld rfl rfl rfl (Yld.nilCheck rfl rfl) ?_
        refine OpsJ.yld rfl rfl rfl (Yld.fieldAddr fa_94_4 rfl rfl) ?_
        refine OpsJ.yld rfl rfl rfl (Yld.load1 rfl Tryd.underlying4 rfl rfl (fun w hI => hI.old (hcs.one (k := 4) rfl) hbq)) ?_
        refine OpsJ.nil ?_
        refine ExJ.thenN ?_
        refine CodeJ.cond rfl (fun c33 => ?_) (fun c33 => ?_)
        · refine CodeJ.region ?_
          refine OpsJ.yld rfl rfl rfl (Yld.move rfl rfl) ?_
          refine OpsJ.yld rfl rfl rfl (Yld.intBin rfl rfl rfl rfl) ?_
          rw [u16_orL _ 512 512 rfl (by exact l2) (by decide)]
          refine OpsJ.yld rfl rfl rfl (Yld.assign rfl rfl) ?_
          refine OpsJ.nil ?_
          exact ExJ.meetP ⟨rfl, rfl⟩ ⟨rfl, rfl, by show _ = some (Value.int .u16 (hB3 h : Nat)); rw [show hB3 h = hB2 h ||| 512 from fT c33 _ _]; rfl, trivial⟩ fun w hI => hI
        · refine CodeJ.skip ?_
          exact ExJ.meetP ⟨rfl, rfl⟩ ⟨rfl, rfl, by show _ = some (Value.int .u16 (hB3 h : Nat)); rw [show hB3 h = hB2 h from fF c33 _ _]; rfl, trivial⟩ fun w hI => hI
      · rintro _ _ ⟨rfl, rfl⟩
        refine CodeJ.cutP (fun L H => L = [(0, .pointer (some ⟨bq, 0, none⟩)), (2, .int .u16 h.id), (3, .int .u16 (hB4 h))] ∧ H = []) ?_ ?_
        · refine CodeJ.seq ?_
          refine CodeJ.region ?_
          refine OpsJ.yld rfl rfl rfl (Yld.move rfl rfl) ?_
          refine OpsJ.yld rfl rfl rfl (Yld.nilCheck rfl rfl) ?_
          refine OpsJ.yld rfl rfl rfl (Yld.fieldAddr fa_94_3 rfl rfl) ?_
          refine OpsJ.yld rfl rfl rfl (Yld.load1 rfl Tryd.underlying4 rfl rfl (fun w hI => hI.old (hcs.one (k := 3) rfl) hbq)) ?_
          refine OpsJ.nil ?_
          refine ExJ.thenN ?_
          refine CodeJ.cond rfl (fun c39 => ?_) (fun c39 => ?_)
          · refine CodeJ.region ?_
            refine OpsJ.yld rfl rfl rfl (Yld.move rfl rfl) ?_
            refine OpsJ.yld rfl rfl rfl (Yld.intBin rfl rfl rfl rfl) ?_
            rw [u16_orL _ 1024 1024 rfl (by exact l3) (by decide)]
            refine OpsJ.yld rfl rfl rfl (Yld.assign rfl rfl) ?_
            refine OpsJ.nil ?_
            exact ExJ.meetP ⟨rfl, rfl⟩ ⟨rfl, rfl, by show _ = some (Value.int .u16 (hB4 h : Nat)); rw [show hB4 h = hB3 h ||| 1024 from fT c39 _ _]; rfl, trivial⟩ fun w hI => hI
          · refine CodeJ.skip ?_
            exact ExJ.meetP ⟨rfl, rfl⟩ ⟨rfl, rfl, by show _ = some (Value.int .u16 (hB4 h : Nat)); rw [show hB4 h = hB3 h from fF c39 _ _]; rfl, trivial⟩ fun w hI => hI
        · rintro _ _ ⟨rfl, rfl⟩
          refine CodeJ.cutP (fun L H => L = [(0, .pointer (some ⟨bq, 0, none⟩)), (2, .int .u16 h.id), (3, .int .u16 (hB5 h))] ∧ H = []) ?_ ?_
          · refine CodeJ.seq ?_
            refine CodeJ.region ?_
            refine OpsJ.yld rfl rfl rfl (Yld.move rfl rfl) ?_
            refine OpsJ.yld rfl rfl rfl (Yld.nilCheck rfl rfl) ?_
            refine OpsJ.yld rfl rfl rfl (Yld.fieldAddr fa_94_1 rfl rfl) ?_
            refine OpsJ.yld rfl rfl rfl (Yld.load1 rfl Tryd.underlying4 rfl rfl (fun w hI => hI.old (hcs.one (k := 1) rfl) hbq)) ?_
            refine OpsJ.nil ?_
            refine ExJ.thenN ?_
            refine CodeJ.cond rfl (fun c45 => ?_) (fun c45 => ?_)
            · refine CodeJ.region ?_
              refine OpsJ.yld rfl rfl rfl (Yld.move rfl rfl) ?_
              refine OpsJ.yld rfl rfl rfl (Yld.intBin rfl rfl rfl rfl) ?_
              rw [u16_orL _ 32768 32768 rfl (by exact l4) (by decide)]
              refine OpsJ.yld rfl rfl rfl (Yld.assign rfl rfl) ?_
              refine OpsJ.nil ?_
              exact ExJ.meetP ⟨rfl, rfl⟩ ⟨rfl, rfl, by show _ = some (Value.int .u16 (hB5 h : Nat)); rw [show hB5 h = hB4 h ||| 32768 from fT c45 _ _]; rfl, trivial⟩ fun w hI => hI
            · refine CodeJ.skip ?_
              exact ExJ.meetP ⟨rfl, rfl⟩ ⟨rfl, rfl, by show _ = some (Value.int .u16 (hB5 h : Nat)); rw [show hB5 h = hB4 h from fF c45 _ _]; rfl, trivial⟩ fun w hI => hI
          · rintro _ _ ⟨rfl, rfl⟩
            refine CodeJ.cutP (fun L H => L = [(0, .pointer (some ⟨bq, 0, none⟩)), (2, .int .u16 h.id), (3, .int .u16 (hB6 h))] ∧ H = []) ?_ ?_
            · refine CodeJ.seq ?_
              refine CodeJ.region ?_
              refine OpsJ.yld rfl rfl rfl (Yld.move rfl rfl) ?_
              refine OpsJ.yld rfl rfl rfl (Yld.nilCheck rfl rfl) ?_
              refine OpsJ.yld rfl rfl rfl (Yld.fieldAddr fa_94_7 rfl rfl) ?_
              refine OpsJ.yld rfl rfl rfl (Yld.load1 rfl Tryd.underlying4 rfl rfl (fun w hI => hI.old (hcs.one (k := 7) rfl) hbq)) ?_
              refine OpsJ.nil ?_
              refine ExJ.thenN ?_
              refine CodeJ.cond rfl (fun c51 => ?_) (fun c51 => ?_)
              · refine CodeJ.region ?_
                refine OpsJ.yld rfl rfl rfl (Yld.move rfl rfl) ?_
                refine OpsJ.yld rfl rfl rfl (Yld.intBin rfl rfl rfl rfl) ?_
                rw [u16_orL _ 32 32 rfl (by exact l5) (by decide)]
                refine OpsJ.yld rfl rfl rfl (Yld.assign rfl rfl) ?_
                refine OpsJ.nil ?_
                exact ExJ.meetP ⟨rfl, rfl⟩ ⟨rfl, rfl, by show _ = some (Value.int .u16 (hB6 h : Nat)); rw [show hB6 h = hB5 h ||| 32 from fT c51 _ _]; rfl, trivial⟩ fun w hI => hI
              · refine CodeJ.skip ?_
                exact ExJ.meetP ⟨rfl, rfl⟩ ⟨rfl, rfl, by show _ = some (Value.int .u16 (hB6 h : Nat)); rw [show hB6 h = hB5 h from fF c51 _ _]; rfl, trivial⟩ fun w hI => hI
            · rintro _ _ ⟨rfl, rfl⟩
              refine CodeJ.seq ?_
              refine CodeJ.seq ?_
              refine CodeJ.region ?_
              refine OpsJ.yld rfl rfl rfl (Yld.move rfl rfl) ?_
              refine OpsJ.yld rfl rfl rfl (Yld.nilCheck rfl rfl) ?_
              refine OpsJ.yld rfl rfl rfl (Yld.fieldAddr fa_94_8 rfl rfl) ?_
              refine OpsJ.yld rfl rfl rfl (Yld.load1 rfl Tryd.underlying4 rfl rfl (fun w hI => hI.old (hcs.one (k := 8) rfl) hbq)) ?_
              refine OpsJ.nil ?_
              refine ExJ.thenN ?_
              refine CodeJ.cond rfl (fun c57 => ?_) (fun c57 => ?_)
              · refine CodeJ.region ?_
                refine OpsJ.yld rfl rfl rfl (Yld.move rfl rfl) ?_
                refine OpsJ.yld rfl rfl rfl (Yld.intBin rfl rfl rfl rfl) ?_
                rw [u16_orL _ 16 16 rfl (by exact l6) (by decide)]
                refine OpsJ.yld rfl rfl rfl (Yld.assign rfl rfl) ?_
                refine OpsJ.nil ?_
                refine ExJ.thenN ?_
                refine CodeJ.ret ?_
                refine ExJ.ret2 Tryd.results57 rfl rfl ⟨?_, rfl⟩ fun w hI => hI
                rw [← hB_bits, show hB7 h = hB6 h ||| 16 from fT c57 _ _]
              · refine CodeJ.skip ?_
                refine ExJ.thenN ?_
                refine CodeJ.ret ?_
                refine ExJ.ret2 Tryd.results57 rfl rfl ⟨?_, rfl⟩ fun w hI => hI
                rw [← hB_bits, show hB7 h = hB6 h from fF c57 _ _]
end Go.Proofs.YtdiememgbnplkaaDoor
