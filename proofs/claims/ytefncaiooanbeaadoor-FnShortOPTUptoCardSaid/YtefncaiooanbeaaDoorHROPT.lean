/-
  How the reference reads OPT records; what is packed is found there.
-/
import Derived.Test.YtefncaiooanbeaaDoorBh
import Derived.Test.YtefncaiooanbeaaDoorHRdU
import Derived.Test.YtefncaiooanbeaaDoorHKOPT
namespace Go.Proofs.YtefncaiooanbeaaDoor
open Go
set_option maxRecDepth 100000

theorem reads_OPT : BodyReads optK 10 (rawBA optK.body) := by
  intro x hd t rb xb db off c at_ e w hh hba hok hfit hwf hc hbig h12 hae hel hlen
  obtain ⟨hraw, he⟩ := hba
  refine Spec.of Tryd.func103 rfl Tryd.ntmps103 rfl fun w0 hR => ?_
  obtain ⟨hcs, hne, hnx⟩ := hR
  have hout : db ∉ fp [rdB rb (.slice (some ⟨db, off, none⟩) (hd ++ t).length c) at_ w, .blk xb (startRec 10 x (optK.typ x) (e - at_)).cells.toArray 83] := by simp [fp, rdB, Res.ats]; exact ⟨hne, hnx⟩
  have hml : (hd ++ t).length = 12 + t.length := by rw [List.length_append, hh]
  have hbl : optK.body x = pairsW x.pairs := rfl
  rw [hbl] at hraw he
  have hps : ∀ p ∈ x.pairs, p.key < 65536 ∧ p.data.length < 65536 := fun p hp => ⟨(hfit.pair p hp).1, pairs_lt (okn_OPT hok).2 p hp⟩
  refine CodeJ.seq ?_
  refine CodeJ.seq ?_
  refine CodeJ.region ?_
  refine OpsJ.yld rfl rfl rfl (Yld.move rfl rfl) ?_
  refine OpsJ.yld rfl rfl rfl (Yld.nilCheck rfl rfl) ?_
  refine OpsJ.yld rfl rfl rfl (Yld.fieldAddr fa_83_5 rfl rfl) ?_
  refine OpsJ.yld rfl rfl rfl (Yld.load1 rfl Tryd.underlying3 rfl rfl (fun w hI => Inv.cell1 hI (i := 1) rfl rfl)) ?_
  refine OpsJ.nil ?_
  refine ExJ.thenN ?_
  refine CodeJ.block ?_
  refine CodeJ.seq ?_
  refine CodeJ.region ?_
  refine OpsJ.yld rfl rfl rfl (Yld.intBin rfl rfl rfl rfl) ?_
  refine OpsJ.yld rfl rfl rfl (Yld.assign rfl rfl) ?_
  refine OpsJ.nil ?_
  refine ExJ.thenN ?_
  refine CodeJ.condF rfl ?_
  refine CodeJ.seq ?_
  refine CodeJ.region ?_
  refine OpsJ.yld rfl rfl rfl (Yld.intBin rfl rfl rfl rfl) ?_
  refine OpsJ.yld rfl rfl rfl (Yld.assign rfl rfl) ?_
  refine OpsJ.nil ?_
  refine ExJ.thenN ?_
  refine CodeJ.condF rfl ?_
  refine CodeJ.seq ?_
  refine CodeJ.seq ?_
  refine CodeJ.region ?_
  refine OpsJ.yld rfl rfl rfl (Yld.intBin rfl rfl rfl rfl) ?_
  refine OpsJ.yld rfl rfl rfl (Yld.assign rfl rfl) ?_
  refine OpsJ.nil ?_
  refine ExJ.thenN ?_
  refine CodeJ.condF rfl ?_
  refine CodeJ.seq ?_
  refine CodeJ.region ?_
  refine OpsJ.yld rfl rfl rfl (Yld.intBin rfl rfl rfl rfl) ?_
  refine OpsJ.yld rfl rfl rfl (Yld.assign rfl rfl) ?_
  refine OpsJ.nil ?_
  refine ExJ.thenN ?_
  refine CodeJ.condF rfl ?_
  refine CodeJ.region ?_
  refine OpsJ.yld rfl rfl rfl (Yld.intBin rfl rfl rfl rfl) ?_
  refine OpsJ.yld rfl rfl rfl (Yld.assign rfl rfl) ?_
  refine OpsJ.nil ?_
  refine ExJ.thenN ?_
  refine CodeJ.condF rfl ?_
  refine CodeJ.seq ?_
  refine CodeJ.region ?_
  refine OpsJ.yld rfl rfl rfl (Yld.intBin rfl rfl rfl rfl) ?_
  refine OpsJ.yld rfl rfl rfl (Yld.assign rfl rfl) ?_
  refine OpsJ.nil ?_
  refine ExJ.thenN ?_
  refine CodeJ.condF rfl ?_
  refine CodeJ.seq ?_
  refine CodeJ.region ?_
  refine OpsJ.yld rfl rfl rfl (Yld.intBin rfl rfl rfl rfl) ?_
  refine OpsJ.yld rfl rfl rfl (Yld.assign rfl rfl) ?_
  refine OpsJ.nil ?_
  refine ExJ.thenN ?_
  refine CodeJ.condF rfl ?_
  refine CodeJ.seq ?_
  refine CodeJ.region ?_
  refine OpsJ.yld rfl rfl rfl (Yld.intBin rfl rfl rfl rfl) ?_
  refine OpsJ.yld rfl rfl rfl (Yld.assign rfl rfl) ?_
  refine OpsJ.nil ?_
  refine ExJ.thenN ?_
  refine CodeJ.condF rfl ?_
  refine CodeJ.seq ?_
  refine CodeJ.region ?_
  refine OpsJ.yld rfl rfl rfl (Yld.intBin rfl rfl rfl rfl) ?_
  refine OpsJ.yld rfl rfl rfl (Yld.assign rfl rfl) ?_
  refine OpsJ.nil ?_
  refine ExJ.thenN ?_
  refine CodeJ.condF rfl ?_
  refine CodeJ.seq ?_
  refine CodeJ.region ?_
  refine OpsJ.yld rfl rfl rfl (Yld.intBin rfl rfl rfl rfl) ?_
  refine OpsJ.yld rfl rfl rfl (Yld.assign rfl rfl) ?_
  refine OpsJ.nil ?_
  refine ExJ.thenN ?_
  refine CodeJ.condT rfl ?_
  refine CodeJ.region ?_
  refine OpsJ.yld rfl rfl rfl (Yld.move rfl rfl) ?_
  refine OpsJ.yld rfl rfl rfl (Yld.move rfl rfl) ?_
  refine OpsJ.yld rfl rfl rfl (Yld.move rfl rfl) ?_
  refine OpsJ.op rfl ?_
  refine OpJ.call (rdPairs rb db off c at_ e hd t hh h12 x.pairs hps hfit.pairs w hraw he hel hc hbig) has_105 rfl rfl rfl rfl rfl [0] [1] (by decide) rfl rfl (fun w hI => ⟨hI.old hcs hout, hne⟩) ?_
  rintro _ _ ⟨pp, pc, ss, q, bs, hq, rfl, rfl, hqr, hkd⟩
  refine OpsJ.yld rfl rfl rfl (Yld.nilCheck rfl rfl) ?_
  refine OpsJ.yld rfl rfl rfl (Yld.fieldAddr fa_83_15 rfl rfl) ?_
  refine OpsJ.op rfl ?_
  refine OpJ.store1 (i := 2) rfl rfl rfl rfl rfl sz_81 rfl rfl ?_
  refine OpsJ.nil ?_
  refine ExJ.blockN ?_
  refine ExJ.thenN ?_
  refine CodeJ.region ?_
  refine OpsJ.yld rfl rfl rfl (Yld.move rfl rfl) ?_
  refine OpsJ.yld rfl rfl rfl (Yld.move rfl rfl) ?_
  refine OpsJ.yld rfl rfl rfl (Yld.nilCheck rfl rfl) ?_
  refine OpsJ.yld rfl rfl rfl (Yld.fieldAddr fa_135_2 rfl rfl) ?_
  refine OpsJ.yld rfl rfl rfl (Yld.load1 rfl Tryd.underlying4 rfl rfl (fun w hI => Inv.cell1 hI (i := 0) rfl rfl)) ?_
  refine OpsJ.yld rfl rfl rfl (Yld.move rfl rfl) ?_
  refine OpsJ.splitB (s := 190) rfl (fun g190 => ?_) (fun g190 => ?_)
  · exact absurd g190 (by decide)
  · refine OpsJ.opT rfl rfl rfl ?_
    refine OpJ.yld rfl rfl (Yld.move rfl rfl) ?_
    refine OpsJ.opT rfl rfl rfl ?_
    refine OpJ.yld rfl rfl (Yld.nilCheck rfl rfl) ?_
    refine OpsJ.opT rfl rfl rfl ?_
    refine OpJ.yld rfl rfl (Yld.fieldAddr fa_135_1 rfl rfl) ?_
    refine OpsJ.opT rfl rfl rfl ?_
    refine OpJ.yld rfl rfl (Yld.load1 rfl Tryd.underlying3 rfl rfl (fun w hI => Inv.cell1 hI (i := 0) rfl rfl)) ?_
    refine OpsJ.opT rfl rfl rfl ?_
    refine OpJ.yld rfl rfl (Yld.move rfl rfl) ?_
    refine OpsJ.opT rfl rfl rfl ?_
    refine OpJ.yld rfl rfl (Yld.intBin rfl rfl rfl rfl) ?_
    rw [show (((e : Nat) : Int) != ((e : Nat) : Int)) = false by simp]
    refine OpsJ.yld rfl rfl rfl (Yld.pickF rfl rfl rfl) ?_
    refine OpsJ.yld rfl rfl rfl (Yld.nilCheck rfl rfl) ?_
    refine OpsJ.yld rfl rfl rfl (Yld.fieldAddr fa_135_2 rfl rfl) ?_
    refine OpsJ.op rfl ?_
    refine OpJ.store1 (i := 0) rfl rfl rfl rfl rfl sz_4 rfl rfl ?_
    refine OpsJ.nil ?_
    refine ExJ.endN ?_
    have hsl : ss.length = x.pairs.length := by simpa using congrArg List.length hkd
    refine ExJ.retOf (v := .tuple #[]) (fun a w hE hI => by simp [results, Tryd.results103]) ⟨w, { startRec 10 x (optK.typ x) (e - at_) with pairsV := .slice pp ss.length pc, pairs := ss }, q, bs, hq, rfl, fun w hw => ⟨.inl ⟨none, 0, rfl, rfl⟩, .inl ⟨none, 0, rfl, rfl, rfl⟩, (hqr w hw).1, (hqr w hw).2⟩, ?_⟩ fun w hI => hI.pick (is := [0, 2, 1]) (by decide) rfl
    have hby : pairsW ss = pairsW x.pairs := pairsW_kd hkd
    refine ⟨rfl, ?_, ?_, ⟨by simp [startRec, zRec], by simp [startRec, zRec], by simp [startRec, zRec], by simp [startRec, zRec], by simp [startRec, zRec], by rw [hsl]; exact hfit.pairs, fun p hp => by obtain ⟨q, hq, h1, h2⟩ := kd_mem hkd hp; rw [h1, h2]; exact hfit.pair q hq⟩, rfl⟩
    · show (nameOk x.name.data.toList && (true && decide ((pairsW ss).length < 65536))) = true
      rw [hby]
      exact hok
    · have e1 : optK.body { startRec 10 x (optK.typ x) (e - at_) with pairsV := .slice pp ss.length pc, pairs := ss } = optK.body x := hby
      unfold Kind.recWire
      rw [e1]
      rfl
end Go.Proofs.YtefncaiooanbeaaDoor
