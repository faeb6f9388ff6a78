/-
  How the reference reads SVCB records; what is packed is found there.
-/
import Derived.Test.YtamobccbioafmaaDoorBh
import Derived.Test.YtamobccbioafmaaDoorHRdU
import Derived.Test.YtamobccbioafmaaDoorHKSVCB
namespace Go.Proofs.YtamobccbioafmaaDoor
open Go
set_option maxRecDepth 100000

theorem reads_SVCB : BodyReads svcbK 11 (rawBA svcbK.body) := by
  intro x hd t rb xb db off c at_ e w hh hba hok hfit hwf hc hbig h12 hae hel hlen
  obtain ⟨hraw, he⟩ := hba
  refine Spec.of Tryd.func88 rfl Tryd.ntmps88 rfl fun w0 hR => ?_
  obtain ⟨hcs, hne, hnx⟩ := hR
  have hout : db ∉ fp [rdB rb (.slice (some ⟨db, off, none⟩) (hd ++ t).length c) at_ w, .blk xb (startRec 11 x (svcbK.typ x) (e - at_)).cells.toArray 86] := by simp [fp, rdB, Res.ats]; exact ⟨hne, hnx⟩
  have hml : (hd ++ t).length = 12 + t.length := by rw [List.length_append, hh]
  have hk := okn_SVCB hok
  have hbl : svcbK.body x = be16 (x.n1 % 65536) ++ wire x.host.data.toList ++ pairsW x.pairs := rfl
  have hsz : (pairsW x.pairs).length < 65536 := by
    have := hk.2.2.2
    rw [hbl] at this
    simp only [List.length_append] at this
    omega
  rw [hbl] at hraw he
  have hps : ∀ p ∈ x.pairs, p.key < 65536 ∧ p.data.length < 65536 := fun p hp => ⟨(hfit.pair p hp).1, pairs_lt hsz p hp⟩
  have hr1 : (t.drop (at_ - 12)).take 2 = be16 (x.n1 % 65536) := raw_first (A := be16 (x.n1 % 65536)) (C := wire x.host.data.toList ++ pairsW x.pairs) (by simpa [List.append_assoc] using hraw)
  have hr2 : (t.drop (at_ + 2 - 12)).take (wire x.host.data.toList).length = wire x.host.data.toList := by
    have := raw_mid (A := be16 (x.n1 % 65536)) (B := wire x.host.data.toList) (C := pairsW x.pairs) hraw
    rw [show at_ + 2 - 12 = at_ - 12 + 2 by omega]
    exact this
  have hr3 : (t.drop (at_ + 2 + (wire x.host.data.toList).length - 12)).take (pairsW x.pairs).length = pairsW x.pairs := by
    have := raw_last (A := be16 (x.n1 % 65536) ++ wire x.host.data.toList) (C := pairsW x.pairs) hraw
    rw [List.length_append, be16_len] at this
    rw [show at_ + 2 + (wire x.host.data.toList).length - 12 = at_ - 12 + (2 + (wire x.host.data.toList).length) by omega]
    exact this
  have hel2 : at_ + 2 + (wire x.host.data.toList).length + (pairsW x.pairs).length = e := by
    rw [he]
    simp only [List.length_append, be16_len]
    omega
  obtain ⟨k0, ls, hrd, hhost⟩ := raw_name (a := at_ + 2) (by omega) hk.2.2.1 hr2 (by omega)
  have hnm : strV (nameTxt ls) = .string x.host := by rw [← hhost]; exact congrArg Value.string (str_eta x.host)
  have hts : (txt ls).length ≤ 1000000 := by
    have h1 := nameTxt_txt ls
    rw [← hhost] at h1
    have := (nameOk_pname hk.2.2.1).le
    omega
  refine CodeJ.seq ?_
  refine CodeJ.seq ?_
  refine CodeJ.region ?_
  refine OpsJ.yld rfl rfl rfl (Yld.move rfl rfl) ?_
  refine OpsJ.yld rfl rfl rfl (Yld.nilCheck rfl rfl) ?_
  refine OpsJ.yld rfl rfl rfl (Yld.fieldAddr fa_86_5 rfl rfl) ?_
  refine OpsJ.yld rfl rfl rfl (Yld.load1 rfl Tryd.underlying3 rfl rfl (fun w hI => Inv.cell1 hI (i := 1) rfl rfl)) ?_
  refine OpsJ.nil ?_
  refine ExJ.thenN ?_
  refine CodeJ.block ?_
  refine CodeJ.seq ?_
  refine CodeJ.region ?_
  refine OpsJ.yld rfl rfl rfl (Yld.intBin rfl rfl rfl rfl) ?_
  refine OpsJ.yld rfl rfl rfl (Yld.assign rfl rfl) ?_
  refine OpsJ.nil ?_
  refine ExJ.thenN ?_
  refine CodeJ.condF rfl ?_
  refine CodeJ.seq ?_
  refine CodeJ.region ?_
  refine OpsJ.yld rfl rfl rfl (Yld.intBin rfl rfl rfl rfl) ?_
  refine OpsJ.yld rfl rfl rfl (Yld.assign rfl rfl) ?_
  refine OpsJ.nil ?_
  refine ExJ.thenN ?_
  refine CodeJ.condF rfl ?_
  refine CodeJ.seq ?_
  refine CodeJ.seq ?_
  refine CodeJ.region ?_
  refine OpsJ.yld rfl rfl rfl (Yld.intBin rfl rfl rfl rfl) ?_
  refine OpsJ.yld rfl rfl rfl (Yld.assign rfl rfl) ?_
  refine OpsJ.nil ?_
  refine ExJ.thenN ?_
  refine CodeJ.condF rfl ?_
  refine CodeJ.seq ?_
  refine CodeJ.region ?_
  refine OpsJ.yld rfl rfl rfl (Yld.intBin rfl rfl rfl rfl) ?_
  refine OpsJ.yld rfl rfl rfl (Yld.assign rfl rfl) ?_
  refine OpsJ.nil ?_
  refine ExJ.thenN ?_
  refine CodeJ.condF rfl ?_
  refine CodeJ.region ?_
  refine OpsJ.yld rfl rfl rfl (Yld.intBin rfl rfl rfl rfl) ?_
  refine OpsJ.yld rfl rfl rfl (Yld.assign rfl rfl) ?_
  refine OpsJ.nil ?_
  refine ExJ.thenN ?_
  refine CodeJ.condF rfl ?_
  refine CodeJ.seq ?_
  refine CodeJ.region ?_
  refine OpsJ.yld rfl rfl rfl (Yld.intBin rfl rfl rfl rfl) ?_
  refine OpsJ.yld rfl rfl rfl (Yld.assign rfl rfl) ?_
  refine OpsJ.nil ?_
  refine ExJ.thenN ?_
  refine CodeJ.condF rfl ?_
  refine CodeJ.seq ?_
  refine CodeJ.region ?_
  refine OpsJ.yld rfl rfl rfl (Yld.intBin rfl rfl rfl rfl) ?_
  refine OpsJ.yld rfl rfl rfl (Yld.assign rfl rfl) ?_
  refine OpsJ.nil ?_
  refine ExJ.thenN ?_
  refine CodeJ.condF rfl ?_
  refine CodeJ.seq ?_
  refine CodeJ.region ?_
  refine OpsJ.yld rfl rfl rfl (Yld.intBin rfl rfl rfl rfl) ?_
  refine OpsJ.yld rfl rfl rfl (Yld.assign rfl rfl) ?_
  refine OpsJ.nil ?_
  refine ExJ.thenN ?_
  refine CodeJ.condF rfl ?_
  refine CodeJ.seq ?_
  refine CodeJ.region ?_
  refine OpsJ.yld rfl rfl rfl (Yld.intBin rfl rfl rfl rfl) ?_
  refine OpsJ.yld rfl rfl rfl (Yld.assign rfl rfl) ?_
  refine OpsJ.nil ?_
  refine ExJ.thenN ?_
  refine CodeJ.condF rfl ?_
  refine CodeJ.seq ?_
  refine CodeJ.region ?_
  refine OpsJ.yld rfl rfl rfl (Yld.intBin rfl rfl rfl rfl) ?_
  refine OpsJ.yld rfl rfl rfl (Yld.assign rfl rfl) ?_
  refine OpsJ.nil ?_
  refine ExJ.thenN ?_
  refine CodeJ.condF rfl ?_
  refine CodeJ.seq ?_
  refine CodeJ.seq ?_
  refine CodeJ.region ?_
  refine OpsJ.yld rfl rfl rfl (Yld.intBin rfl rfl rfl rfl) ?_
  refine OpsJ.yld rfl rfl rfl (Yld.assign rfl rfl) ?_
  refine OpsJ.nil ?_
  refine ExJ.thenN ?_
  refine CodeJ.condT rfl ?_
  refine CodeJ.skip ?_
  refine ExJ.thenN ?_
  refine CodeJ.condT rfl ?_
  refine CodeJ.seq ?_
  refine CodeJ.region ?_
  refine OpsJ.yld rfl rfl rfl (Yld.move rfl rfl) ?_
  refine OpsJ.yld rfl rfl rfl (Yld.move rfl rfl) ?_
  refine OpsJ.op rfl ?_
  refine OpJ.call (rdTwo rb db off c at_ (x.n1 % 65536) (hd ++ t) w (by omega) (by rw [msg_drop hh h12]; exact hr1) (by omega) hc hbig) has_44 rfl rfl rfl rfl rfl [0] [1] (by decide) rfl rfl (fun w hI => ⟨hI.old hcs hout, hne⟩) ?_
  rintro _ _ ⟨rfl, rfl⟩
  refine OpsJ.yld rfl rfl rfl (Yld.convInt rfl Tryd.underlying22 Tryd.underlying30 rfl) ?_
  rw [u32_wrap' (x.n1 % 65536) (by omega)]
  refine OpsJ.yld rfl rfl rfl (Yld.nilCheck rfl rfl) ?_
  refine OpsJ.yld rfl rfl rfl (Yld.fieldAddr fa_86_9 rfl rfl) ?_
  refine OpsJ.op rfl ?_
  refine OpJ.store1 (i := 1) rfl rfl rfl rfl rfl sz_30 rfl rfl ?_
  refine OpsJ.nil ?_
  refine ExJ.thenN ?_
  refine CodeJ.seq ?_
  refine CodeJ.region ?_
  refine OpsJ.yld rfl rfl rfl (Yld.move rfl rfl) ?_
  refine OpsJ.yld rfl rfl rfl (Yld.move rfl rfl) ?_
  refine OpsJ.op rfl ?_
  refine OpJ.call (rdTarget rb db off c k0 (at_ + 2) (at_ + 2 + (wire x.host.data.toList).length) hd t hh ls w hrd hc hbig hts) has_94 rfl rfl rfl rfl rfl [0] [1] (by decide) rfl rfl (fun w hI => ⟨hI.old hcs hout, hne⟩) ?_
  rintro _ _ ⟨rfl, rfl⟩
  rw [hnm]
  refine OpsJ.yld rfl rfl rfl (Yld.nilCheck rfl rfl) ?_
  refine OpsJ.yld rfl rfl rfl (Yld.fieldAddr fa_86_7 rfl rfl) ?_
  refine OpsJ.op rfl ?_
  refine OpJ.store1 (i := 1) rfl rfl rfl rfl rfl sz_9 rfl rfl ?_
  refine OpsJ.nil ?_
  refine ExJ.thenN ?_
  refine CodeJ.region ?_
  refine OpsJ.yld rfl rfl rfl (Yld.move rfl rfl) ?_
  refine OpsJ.yld rfl rfl rfl (Yld.move rfl rfl) ?_
  refine OpsJ.yld rfl rfl rfl (Yld.move rfl rfl) ?_
  refine OpsJ.op rfl ?_
  refine OpJ.call (rdPairs rb db off c (at_ + 2 + (wire x.host.data.toList).length) e hd t hh (by omega) x.pairs hps hfit.pairs w hr3 hel2.symm hel hc hbig) has_95 rfl rfl rfl rfl rfl [0] [1] (by decide) rfl rfl (fun w hI => ⟨hI.old hcs hout, hne⟩) ?_
  rintro _ _ ⟨pp, pc, ss, q, bs, hq, rfl, rfl, hqr, hkd⟩
  refine OpsJ.yld rfl rfl rfl (Yld.nilCheck rfl rfl) ?_
  refine OpsJ.yld rfl rfl rfl (Yld.fieldAddr fa_86_15 rfl rfl) ?_
  refine OpsJ.op rfl ?_
  refine OpJ.store1 (i := 2) rfl rfl rfl rfl rfl sz_84 rfl rfl ?_
  refine OpsJ.nil ?_
  refine ExJ.blockN ?_
  refine ExJ.thenN ?_
  refine CodeJ.region ?_
  refine OpsJ.yld rfl rfl rfl (Yld.move rfl rfl) ?_
  refine OpsJ.yld rfl rfl rfl (Yld.move rfl rfl) ?_
  refine OpsJ.yld rfl rfl rfl (Yld.nilCheck rfl rfl) ?_
  refine OpsJ.yld rfl rfl rfl (Yld.fieldAddr fa_101_2 rfl rfl) ?_
  refine OpsJ.yld rfl rfl rfl (Yld.load1 rfl Tryd.underlying4 rfl rfl (fun w hI => Inv.cell1 hI (i := 0) rfl rfl)) ?_
  refine OpsJ.yld rfl rfl rfl (Yld.move rfl rfl) ?_
  refine OpsJ.splitB (s := 190) rfl (fun g190 => ?_) (fun g190 => ?_)
  · exact absurd g190 (by decide)
  · refine OpsJ.opT rfl rfl rfl ?_
    refine OpJ.yld rfl rfl (Yld.move rfl rfl) ?_
    refine OpsJ.opT rfl rfl rfl ?_
    refine OpJ.yld rfl rfl (Yld.nilCheck rfl rfl) ?_
    refine OpsJ.opT rfl rfl rfl ?_
    refine OpJ.yld rfl rfl (Yld.fieldAddr fa_101_1 rfl rfl) ?_
    refine OpsJ.opT rfl rfl rfl ?_
    refine OpJ.yld rfl rfl (Yld.load1 rfl Tryd.underlying3 rfl rfl (fun w hI => Inv.cell1 hI (i := 0) rfl rfl)) ?_
    refine OpsJ.opT rfl rfl rfl ?_
    refine OpJ.yld rfl rfl (Yld.move rfl rfl) ?_
    refine OpsJ.opT rfl rfl rfl ?_
    refine OpJ.yld rfl rfl (Yld.intBin rfl rfl rfl rfl) ?_
    rw [show (((e : Nat) : Int) != ((e : Nat) : Int)) = false by simp]
    refine OpsJ.yld rfl rfl rfl (Yld.pickF rfl rfl rfl) ?_
    refine OpsJ.yld rfl rfl rfl (Yld.nilCheck rfl rfl) ?_
    refine OpsJ.yld rfl rfl rfl (Yld.fieldAddr fa_101_2 rfl rfl) ?_
    refine OpsJ.op rfl ?_
    refine OpJ.store1 (i := 0) rfl rfl rfl rfl rfl sz_4 rfl rfl ?_
    refine OpsJ.nil ?_
    refine ExJ.endN ?_
    have hsl : ss.length = x.pairs.length := by simpa using congrArg List.length hkd
    refine ExJ.retOf (v := .tuple #[]) (fun a w hE hI => by simp [results, Tryd.results88]) ⟨w, { startRec 11 x (svcbK.typ x) (e - at_) with host := x.host, n1 := x.n1 % 65536, pairsV := .slice pp ss.length pc, pairs := ss }, q, bs, hq, rfl, fun w hw => ⟨.inl ⟨none, 0, rfl, rfl⟩, .inl ⟨none, 0, rfl, rfl, rfl⟩, (hqr w hw).1, (hqr w hw).2⟩, ?_⟩ fun w hI => hI.pick (is := [0, 2, 1]) (by decide) rfl
    have hby : svcbBytes { startRec 11 x (svcbK.typ x) (e - at_) with host := x.host, n1 := x.n1 % 65536, pairsV := .slice pp ss.length pc, pairs := ss } = svcbBytes x := by
      show be16 (x.n1 % 65536 % 65536) ++ wire x.host.data.toList ++ pairsW ss = be16 (x.n1 % 65536) ++ wire x.host.data.toList ++ pairsW x.pairs
      rw [Nat.mod_mod, pairsW_kd hkd]
    refine ⟨rfl, ?_, ?_, ⟨hfit.host, by simp [startRec, zRec], by simp [startRec, zRec], by simp [startRec, zRec], by simp [startRec, zRec], by rw [hsl]; exact hfit.pairs, fun p hp => by obtain ⟨q, hq, h1, h2⟩ := kd_mem hkd hp; rw [h1, h2]; exact hfit.pair q hq⟩, rfl⟩
    · have h := hok
      have e2 : svcbK.recOk { startRec 11 x (svcbK.typ x) (e - at_) with host := x.host, n1 := x.n1 % 65536, pairsV := .slice pp ss.length pc, pairs := ss } = (nameOk x.name.data.toList && (ascN ss && (nameOk x.host.data.toList && decide ((svcbBytes { startRec 11 x (svcbK.typ x) (e - at_) with host := x.host, n1 := x.n1 % 65536, pairsV := .slice pp ss.length pc, pairs := ss }).length < 65536)))) := rfl
      rw [e2, hby, ascN_kd hkd]
      exact h
    · have e1 : svcbK.body { startRec 11 x (svcbK.typ x) (e - at_) with host := x.host, n1 := x.n1 % 65536, pairsV := .slice pp ss.length pc, pairs := ss } = svcbK.body x := hby
      unfold Kind.recWire
      rw [e1]
      rfl
end Go.Proofs.YtamobccbioafmaaDoor
