/-
  Contracts of the reference's reader: names that stand whole; the sizes of pairs.
-/
import Derived.Test.YtamobccbioafmaaDoorHRdT
import Derived.Test.YtamobccbioafmaaDoorHPairL
namespace Go.Proofs.YtamobccbioafmaaDoor
open Go
set_option maxRecDepth 100000
theorem rdTarget (rb db off c k0 at0 E : Nat) (hd t : List UInt8) (hh : hd.length = 12) (LS : List (List UInt8)) (w0_ : Bool) (hrd0 : RdN t k0 at0 at0 LS E true) (hc : (hd ++ t).length ≤ c) (hbig : (hd ++ t).length ≤ 1000000000000000000) (hts : (txt LS).length ≤ 1000000) :
    Spec Tryd.prog 94 [.pointer (some ⟨rb, 0, none⟩)] [rdB rb (.slice (some ⟨db, off, none⟩) (hd ++ t).length c) at0 w0_] (fun w1 => Cells w1 db off (bytesV (hd ++ t)) ∧ db ≠ rb)
      (fun y H' => y = strV (nameTxt LS) ∧ H' = [rdB rb (.slice (some ⟨db, off, none⟩) (hd ++ t).length c) E w0_]) := by
  refine Spec.of Tryd.func94 rfl Tryd.ntmps94 rfl fun w0 hR => ?_
  obtain ⟨hcs, hne⟩ := hR
  have hout : db ∉ fp [rdB rb (.slice (some ⟨db, off, none⟩) (hd ++ t).length c) at0 w0_] := by simpa [fp, rdB, Res.ats] using hne
  refine CodeJ.seq ?_
  refine CodeJ.region ?_
  refine OpsJ.yld rfl rfl rfl (Yld.assign rfl rfl) ?_
  refine OpsJ.nil ?_
  refine ExJ.thenN ?_
  refine CodeJ.seq ?_
  refine CodeJ.region ?_
  refine OpsJ.yld rfl rfl rfl (Yld.move rfl rfl) ?_
  refine OpsJ.yld rfl rfl rfl (Yld.nilCheck rfl rfl) ?_
  refine OpsJ.yld rfl rfl rfl (Yld.fieldAddr fa_101_3 rfl rfl) ?_
  refine OpsJ.yld rfl rfl rfl (Yld.load1 rfl Tryd.underlying4 rfl rfl (fun w hI => Inv.cell1 hI (i := 0) rfl rfl)) ?_
  refine OpsJ.yld rfl rfl rfl (Yld.assign rfl rfl) ?_
  refine OpsJ.nil ?_
  refine ExJ.thenN ?_
  refine CodeJ.seq ?_
  refine CodeJ.region ?_
  refine OpsJ.yld rfl rfl rfl (Yld.move rfl rfl) ?_
  refine OpsJ.yld rfl rfl rfl (Yld.nilCheck rfl rfl) ?_
  refine OpsJ.yld rfl rfl rfl (Yld.fieldAddr fa_101_3 rfl rfl) ?_
  refine OpsJ.op rfl ?_
  refine OpJ.store1 (i := 0) rfl rfl rfl rfl rfl sz_4 rfl rfl ?_
  refine OpsJ.nil ?_
  refine ExJ.thenN ?_
  refine CodeJ.seq ?_
  refine CodeJ.region ?_
  refine OpsJ.yld rfl rfl rfl (Yld.move rfl rfl) ?_
  refine OpsJ.op rfl ?_
  refine OpJ.call (rdName rb db off c k0 at0 E hd t hh LS true true hrd0 hc hbig hts) has_45 rfl rfl rfl rfl rfl [0] [] (by decide) rfl rfl (fun w hI => ⟨hI.old hcs hout, hne⟩) ?_
  rintro _ _ ⟨rfl, rfl⟩
  refine OpsJ.yld rfl rfl rfl (Yld.assign rfl rfl) ?_
  refine OpsJ.nil ?_
  refine ExJ.thenN ?_
  refine CodeJ.seq ?_
  refine CodeJ.region ?_
  refine OpsJ.yld rfl rfl rfl (Yld.move rfl rfl) ?_
  refine OpsJ.yld rfl rfl rfl (Yld.move rfl rfl) ?_
  refine OpsJ.yld rfl rfl rfl (Yld.nilCheck rfl rfl) ?_
  refine OpsJ.yld rfl rfl rfl (Yld.fieldAddr fa_101_2 rfl rfl) ?_
  refine OpsJ.yld rfl rfl rfl (Yld.load1 rfl Tryd.underlying4 rfl rfl (fun w hI => Inv.cell1 hI (i := 0) rfl rfl)) ?_
  refine OpsJ.yld rfl rfl rfl (Yld.move rfl rfl) ?_
  refine OpsJ.splitB (s := 19) rfl (fun g19 => ?_) (fun g19 => ?_)
  · exact absurd g19 (by decide)
  · refine OpsJ.opT rfl rfl rfl ?_
    refine OpJ.yld rfl rfl (Yld.move rfl rfl) ?_
    refine OpsJ.opT rfl rfl rfl ?_
    refine OpJ.yld rfl rfl (Yld.nilCheck rfl rfl) ?_
    refine OpsJ.opT rfl rfl rfl ?_
    refine OpJ.yld rfl rfl (Yld.fieldAddr fa_101_3 rfl rfl) ?_
    refine OpsJ.opT rfl rfl rfl ?_
    refine OpJ.yld rfl rfl (Yld.load1 rfl Tryd.underlying4 rfl rfl (fun w hI => Inv.cell1 hI (i := 0) rfl rfl)) ?_
    refine OpsJ.opT rfl rfl rfl ?_
    refine OpJ.yld rfl rfl (Yld.not rfl rfl) ?_
    refine OpsJ.yld rfl rfl rfl (Yld.pickF rfl rfl rfl) ?_
    refine OpsJ.yld rfl rfl rfl (Yld.nilCheck rfl rfl) ?_
    refine OpsJ.yld rfl rfl rfl (Yld.fieldAddr fa_101_2 rfl rfl) ?_
    refine OpsJ.op rfl ?_
    refine OpJ.store1 (i := 0) rfl rfl rfl rfl rfl sz_4 rfl rfl ?_
    refine OpsJ.nil ?_
    refine ExJ.thenN ?_
    refine CodeJ.seq ?_
    refine CodeJ.region ?_
    refine OpsJ.yld rfl rfl rfl (Yld.move rfl rfl) ?_
    refine OpsJ.yld rfl rfl rfl (Yld.move rfl rfl) ?_
    refine OpsJ.yld rfl rfl rfl (Yld.nilCheck rfl rfl) ?_
    refine OpsJ.yld rfl rfl rfl (Yld.fieldAddr fa_101_3 rfl rfl) ?_
    refine OpsJ.op rfl ?_
    refine OpJ.store1 (i := 0) rfl rfl rfl rfl rfl sz_4 rfl rfl ?_
    refine OpsJ.nil ?_
    refine ExJ.thenN ?_
    refine CodeJ.seq ?_
    refine CodeJ.region ?_
    refine OpsJ.yld rfl rfl rfl (Yld.move rfl rfl) ?_
    refine OpsJ.yld rfl rfl rfl (Yld.assign rfl rfl) ?_
    refine OpsJ.nil ?_
    refine ExJ.thenN ?_
    refine CodeJ.ret ?_
    exact ExJ.ret1 Tryd.results94 rfl ⟨rfl, rfl⟩ fun w hI => hI
end Go.Proofs.YtamobccbioafmaaDoor
