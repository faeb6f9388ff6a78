/-
  Contracts: Finish, NewBuilder.
-/
import Derived.Test.YtdiememgbnplkaaDoorDnsG
namespace Go.Proofs.YtdiememgbnplkaaDoor
open Go
set_option maxRecDepth 100000

/-- the message at the end: its header is written over the bytes that were kept for it -/
def Bd.fin (b : Bd) : List UInt8 := b.buf.take b.start ++ hd12 b.id b.bits b.q b.an b.au b.ad ++ b.buf.drop (b.start + 12)
theorem hd12_len (id bits q an au ad : Nat) : (hd12 id bits q an au ad).length = 12 := rfl
theorem Bd.fin_len (b : Bd) (h : b.start + 12 ≤ b.buf.length) : b.fin.length = b.buf.length := by
  simp [Bd.fin, hd12_len]
  omega
theorem take_setCs (cs : Array Value) (bs ws : List UInt8) (k : Nat) (h : cs.toList.take bs.length = bytesV bs) (hk : k + ws.length ≤ bs.length) (hc : bs.length ≤ cs.size) :
    (setCs cs k (bytesV ws)).toList.take bs.length = bytesV (bs.take k ++ ws ++ bs.drop (k + ws.length)) := by
  have e1 : cs.toList.take k = bytesV (bs.take k) := by
    have : (cs.toList.take bs.length).take k = (bytesV bs).take k := by rw [h]
    rw [List.take_take, Nat.min_eq_left (by omega)] at this
    rw [this]
    simp [bytesV]
  have e2 : (cs.toList.drop (k + ws.length)).take (bs.length - (k + ws.length)) = bytesV (bs.drop (k + ws.length)) := by
    have : (cs.toList.take bs.length).drop (k + ws.length) = (bytesV bs).drop (k + ws.length) := by rw [h]
    rw [List.drop_take] at this
    rw [this]
    simp [bytesV]
  simp only [setCs, bytesV_len]
  rw [e1]
  have hl : (bytesV (bs.take k) ++ bytesV ws).length = k + ws.length := by simp [bytesV_len]; omega
  rw [List.take_append, hl, e2, List.take_of_length_le (by omega)]
  simp [bytesV]

theorem finish_spec (b : Bd) (bb : Nat) (p : Option Addr) (c : Nat) (r : Option Nat) (h1 : 1 ≤ b.sec) (hst : b.start + 12 ≤ b.buf.length) :
    Spec Tryd.prog 48 [.pointer (some ⟨bb, 0, none⟩)] (bdR b bb p c r) (fun _ => True) (fun x H' => ∃ p' c', x = .tuple #[.slice p' b.fin.length c', .nilIface] ∧ H' = [ownB 5 (.slice p' b.fin.length c') b.fin]) := by
  refine Spec.of Tryd.func48 rfl Tryd.ntmps48 rfl fun w0 _ => ?_
  have hfl := b.fin_len hst
  refine CodeJ.openB (i := 1) rfl (fun h => by rw [h] at hst; simp at hst) fun b' cs hp hcs hcn htk => ?_
  subst hp
  refine CodeJ.seq ?_
  refine CodeJ.region ?_
  refine OpsJ.yld rfl rfl rfl (Yld.assign rfl rfl) ?_
  refine OpsJ.yld rfl rfl rfl (Yld.assign rfl rfl) ?_
  refine OpsJ.nil ?_
  refine ExJ.thenN ?_
  refine CodeJ.seq ?_
  refine CodeJ.seq ?_
  refine CodeJ.region ?_
  refine OpsJ.yld rfl rfl rfl (Yld.move rfl rfl) ?_
  refine OpsJ.yld rfl rfl rfl (Yld.nilCheck rfl rfl) ?_
  refine OpsJ.yld rfl rfl rfl (Yld.fieldAddr fa_89_1 rfl rfl) ?_
  refine OpsJ.yld rfl rfl rfl (Yld.load1 rfl Tryd.underlying84 rfl rfl (fun w hI => Inv.cell1 hI (i := 0) rfl rfl)) ?_
  refine OpsJ.yld rfl rfl rfl (Yld.intBin rfl rfl rfl rfl) ?_
  refine OpsJ.nil ?_
  refine ExJ.thenN ?_
  refine CodeJ.condP rfl (fun c8 => ?_) (fun c8 => ?_)
  · exact absurd c8 (by show ¬ ((b.sec : Int) < 1); omega)
  · refine CodeJ.skip ?_
    refine ExJ.thenN ?_
    refine CodeJ.seq ?_
    refine CodeJ.region ?_
    refine OpsJ.yld rfl rfl rfl (Yld.move rfl rfl) ?_
    refine OpsJ.yld rfl rfl rfl (Yld.nilCheck rfl rfl) ?_
    refine OpsJ.yld rfl rfl rfl (Yld.fieldAddr fa_89_1 rfl rfl) ?_
    refine OpsJ.op rfl ?_
    refine OpJ.store1 (i := 0) rfl rfl rfl rfl rfl sz_84 rfl rfl ?_
    refine OpsJ.nil ?_
    refine ExJ.thenN ?_
    refine CodeJ.seq ?_
    refine CodeJ.any (fuel := 17) (listed := #[false, false, false, false, false, false, false, false, false, false, false, false, false, false, false, false, false]) [0] rfl follows_mixed rfl rfl ?_
    refine AnyJ.take (fuel := 16) (listed' := #[true, false, false, false, false, false, false, false, false, false, false, false, false, false, false, false, false]) 0 rfl (by kernel_rfl) (by kernel_rfl) (by kernel_rfl) rfl rfl rfl rfl (Yld.move rfl rfl) (fun w hI => hI.pick (is := [0]) (by decide) rfl) ?_
    refine AnyJ.take (fuel := 15) (listed' := #[true, true, false, false, false, false, false, false, false, false, false, false, false, false, false, false, false]) 1 rfl (by kernel_rfl) (by kernel_rfl) (by kernel_rfl) rfl rfl rfl rfl (Yld.nilCheck rfl rfl) (fun w hI => hI.pick (is := [0]) (by decide) rfl) ?_
    refine AnyJ.take (fuel := 14) (listed' := #[true, true, true, false, false, false, false, false, false, false, false, false, false, false, false, false, false]) 2 rfl (by kernel_rfl) (by kernel_rfl) (by kernel_rfl) rfl rfl rfl rfl (Yld.fieldAddr fa_89_2 rfl rfl) (fun w hI => hI.pick (is := [0]) (by decide) rfl) ?_
    refine AnyJ.take (fuel := 13) (listed' := #[true, true, true, true, false, false, false, false, false, false, false, false, false, false, false, false, false]) 3 rfl (by kernel_rfl) (by kernel_rfl) (by kernel_rfl) rfl rfl rfl rfl (Yld.move rfl rfl) (fun w hI => hI.pick (is := [0]) (by decide) rfl) ?_
    refine AnyJ.take (fuel := 12) (listed' := #[true, true, true, true, true, false, false, false, false, false, false, false, false, false, false, false, false]) 4 rfl (by kernel_rfl) (by kernel_rfl) (by kernel_rfl) rfl rfl rfl rfl (Yld.nilCheck rfl rfl) (fun w hI => hI.pick (is := [0]) (by decide) rfl) ?_
    refine AnyJ.take (fuel := 11) (listed' := #[true, true, true, true, true, true, false, false, false, false, false, false, false, false, false, false, false]) 5 rfl (by kernel_rfl) (by kernel_rfl) (by kernel_rfl) rfl rfl rfl rfl (Yld.fieldAddr fa_89_0 rfl rfl) (fun w hI => hI.pick (is := [0]) (by decide) rfl) ?_
    refine AnyJ.take (fuel := 10) (listed' := #[true, true, true, true, true, true, true, false, false, false, false, false, false, false, false, false, false]) 6 rfl (by kernel_rfl) (by kernel_rfl) (by kernel_rfl) rfl rfl rfl rfl (Yld.load1 rfl Tryd.underlying29 rfl rfl (fun w hI => Inv.cell1 hI (i := 0) rfl rfl)) (fun w hI => hI.pick (is := [0]) (by decide) rfl) ?_
    refine AnyJ.take (fuel := 9) (listed' := #[true, true, true, true, true, true, true, true, false, false, false, false, false, false, false, false, false]) 7 rfl (by kernel_rfl) (by kernel_rfl) (by kernel_rfl) rfl rfl rfl rfl (Yld.move rfl rfl) (fun w hI => hI.pick (is := [0]) (by decide) rfl) ?_
    refine AnyJ.take (fuel := 8) (listed' := #[true, true, true, true, true, true, true, true, true, false, false, false, false, false, false, false, false]) 8 rfl (by kernel_rfl) (by kernel_rfl) (by kernel_rfl) rfl rfl rfl rfl (Yld.nilCheck rfl rfl) (fun w hI => hI.pick (is := [0]) (by decide) rfl) ?_
    refine AnyJ.take (fuel := 7) (listed' := #[true, true, true, true, true, true, true, true, true, true, false, false, false, false, false, false, false]) 9 rfl (by kernel_rfl) (by kernel_rfl) (by kernel_rfl) rfl rfl rfl rfl (Yld.fieldAddr fa_89_3 rfl rfl) (fun w hI => hI.pick (is := [0]) (by decide) rfl) ?_
    refine AnyJ.take (fuel := 6) (listed' := #[true, true, true, true, true, true, true, true, true, true, true, false, false, false, false, false, false]) 10 rfl (by kernel_rfl) (by kernel_rfl) (by kernel_rfl) rfl rfl rfl rfl (Yld.load1 rfl Tryd.underlying3 rfl rfl (fun w hI => Inv.cell1 hI (i := 0) rfl rfl)) (fun w hI => hI.pick (is := [0]) (by decide) rfl) ?_
    refine AnyJ.take (fuel := 5) (listed' := #[true, true, true, true, true, true, true, true, true, true, true, true, false, false, false, false, false]) 11 rfl (by kernel_rfl) (by kernel_rfl) (by kernel_rfl) rfl rfl rfl rfl (Yld.move rfl rfl) (fun w hI => hI.pick (is := [0]) (by decide) rfl) ?_
    refine AnyJ.take (fuel := 4) (listed' := #[true, true, true, true, true, true, true, true, true, true, true, true, true, false, false, false, false]) 12 rfl (by kernel_rfl) (by kernel_rfl) (by kernel_rfl) rfl rfl rfl rfl (Yld.nilCheck rfl rfl) (fun w hI => hI.pick (is := [0]) (by decide) rfl) ?_
    refine AnyJ.take (fuel := 3) (listed' := #[true, true, true, true, true, true, true, true, true, true, true, true, true, true, false, false, false]) 13 rfl (by kernel_rfl) (by kernel_rfl) (by kernel_rfl) rfl rfl rfl rfl (Yld.fieldAddr fa_89_3 rfl rfl) (fun w hI => hI.pick (is := [0]) (by decide) rfl) ?_
    refine AnyJ.take (fuel := 2) (listed' := #[true, true, true, true, true, true, true, true, true, true, true, true, true, true, true, false, false]) 14 rfl (by kernel_rfl) (by kernel_rfl) (by kernel_rfl) rfl rfl rfl rfl (Yld.load1 rfl Tryd.underlying3 rfl rfl (fun w hI => Inv.cell1 hI (i := 0) rfl rfl)) (fun w hI => hI.pick (is := [0]) (by decide) rfl) ?_
    refine AnyJ.take (fuel := 1) (listed' := #[true, true, true, true, true, true, true, true, true, true, true, true, true, true, true, true, false]) 15 rfl (by kernel_rfl) (by kernel_rfl) (by kernel_rfl) rfl rfl rfl rfl (Yld.sliceSl (lo := b.start) (hi := b.start) rfl Tryd.underlying29 sz_5 rfl rfl rfl (Nat.le_refl _) (by omega) (by omega)) (fun w hI => hI.pick (is := [0]) (by decide) rfl) ?_
    rw [Nat.sub_self]
    refine AnyJ.one (fuel := 0) 16 (by kernel_rfl) ?_
    refine StepJ.op (listed' := #[true, true, true, true, true, true, true, true, true, true, true, true, true, true, true, true, true]) rfl rfl rfl ?_
    refine OpJ.call (headPack_spec b.id b.bits b.q b.an b.au b.ad bb b' (0 + b.start) (c - b.start) cs (by omega) (by omega)) has_62 rfl rfl rfl rfl rfl [1] [0, 2] (by decide) rfl rfl (fun w hI => ⟨Inv.cells hI (i := 0) rfl (off := 2) rfl (Nat.le_of_ble_eq_true rfl), hI.apart (i := 0) rfl (is := [1]) (by decide) rfl bb (by simp [Res.ats])⟩) ?_
    rintro _ _ ⟨rfl, rfl⟩
    refine ⟨fun w hI => hI.pick (is := [1]) (by decide) rfl, ?_⟩
    refine AnyJ.done (by kernel_rfl) ?_
    refine ExJ.thenN ?_
    refine CodeJ.seq ?_
    refine CodeJ.region ?_
    refine OpsJ.yld rfl rfl rfl (Yld.move rfl rfl) ?_
    refine OpsJ.yld rfl rfl rfl (Yld.nilCheck rfl rfl) ?_
    refine OpsJ.yld rfl rfl rfl (Yld.fieldAddr fa_89_0 rfl rfl) ?_
    refine OpsJ.yld rfl rfl rfl (Yld.load1 rfl Tryd.underlying29 rfl rfl (fun w hI => Inv.cell1 hI (i := 1) rfl rfl)) ?_
    refine OpsJ.yld rfl rfl rfl (Yld.assign rfl rfl) ?_
    refine OpsJ.yld rfl rfl rfl (Yld.assign rfl rfl) ?_
    refine OpsJ.nil ?_
    refine ExJ.thenN ?_
    refine CodeJ.ret ?_
    refine ExJ.ret2 Tryd.results48 rfl rfl ⟨some ⟨b', 0, none⟩, c, by rw [hfl]; rfl, rfl⟩ fun w hI => ?_
    have hsz : (setCs cs (0 + b.start) (bytesV (hd12 b.id b.bits b.q b.an b.au b.ad))).size = c := by rw [setCs_sz _ _ _ (by rw [hd12_len]; omega), hcs]
    have htk2 := take_setCs cs b.buf (hd12 b.id b.bits b.q b.an b.au b.ad) (0 + b.start) htk (by rw [hd12_len]; omega) (by omega)
    have hJ := hI.shutB (i := 0) (bs := b.fin) rfl hsz (by omega) (by rw [hfl, htk2]; simp [Bd.fin, hd12_len])
    exact hJ.pick (is := [0]) (by decide) rfl
end Go.Proofs.YtdiememgbnplkaaDoor
