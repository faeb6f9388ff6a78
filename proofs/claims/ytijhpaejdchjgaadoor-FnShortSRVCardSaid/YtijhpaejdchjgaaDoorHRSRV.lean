/-
  How the reference reads SRV records; what is packed is found there.
-/
import Derived.Test.YtijhpaejdchjgaaDoorBh
import Derived.Test.YtijhpaejdchjgaaDoorHLSRV
namespace Go.Proofs.YtijhpaejdchjgaaDoor
open Go
set_option maxRecDepth 100000

def srvBA : BodyAt := fun t at_ e x => (t.drop (at_ - 12)).take 6 = (be16 (x.n1 % 65536) ++ (be16 (x.n2 % 65536) ++ be16 (x.n3 % 65536))) ∧ ∃ k ls w, RdN t k (at_ + 6) (at_ + 6) ls e w ∧ x.host.data.toList = nameTxt ls ∧ w = true
theorem srvBA_grows : srvBA.Grows := fun _ u _ _ _ ⟨h0, k, ls, w, h1, h2⟩ => ⟨part_app u h0 rfl, k, ls, w, h1.app u, h2⟩
theorem rdTarget (rb db off c k0 at0 E : Nat) (hd t : List UInt8) (hh : hd.length = 12) (LS : List (List UInt8)) (w0_ : Bool) (hrd0 : RdN t k0 at0 at0 LS E true) (hc : (hd ++ t).length ≤ c) (hbig : (hd ++ t).length ≤ 1000000000000000000) (hts : (txt LS).length ≤ 1000000) :
    Spec Tryd.prog 106 [.pointer (some ⟨rb, 0, none⟩)] [rdB rb (.slice (some ⟨db, off, none⟩) (hd ++ t).length c) at0 w0_] (fun w1 => Cells w1 db off (bytesV (hd ++ t)) ∧ db ≠ rb)
      (fun y H' => y = strV (nameTxt LS) ∧ H' = [rdB rb (.slice (some ⟨db, off, none⟩) (hd ++ t).length c) E w0_]) := by
  refine Spec.of Tryd.func106 rfl Tryd.ntmps106 rfl fun w0 hR => ?_
  obtain ⟨hcs, hne⟩ := hR
  have hout : db ∉ fp [rdB rb (.slice (some ⟨db, off, none⟩) (hd ++ t).length c) at0 w0_] := by simpa [fp, rdB, Res.ats] using hne
  refine CodeJ.seq ?_
  refine CodeJ.region ?_
  refine OpsJ.yld rfl rfl rfl (Yld.assign rfl rfl) ?_
  refine OpsJ.nil ?_
  refine ExJ.thenN ?_
  refine CodeJ.seq ?_
  refine CodeJ.region ?_
  refine OpsJ.yld rfl rfl rfl (Yld.move rfl rfl) ?_
  refine OpsJ.yld rfl rfl rfl (Yld.nilCheck rfl rfl) ?_
  refine OpsJ.yld rfl rfl rfl (Yld.fieldAddr fa_91_3 rfl rfl) ?_
  refine OpsJ.yld rfl rfl rfl (Yld.load1 rfl Tryd.underlying4 rfl rfl (fun w hI => Inv.cell1 hI (i := 0) rfl rfl)) ?_
  refine OpsJ.yld rfl rfl rfl (Yld.assign rfl rfl) ?_
  refine OpsJ.nil ?_
  refine ExJ.thenN ?_
  refine CodeJ.seq ?_
  refine CodeJ.region ?_
  refine OpsJ.yld rfl rfl rfl (Yld.move rfl rfl) ?_
  refine OpsJ.yld rfl rfl rfl (Yld.nilCheck rfl rfl) ?_
  refine OpsJ.yld rfl rfl rfl (Yld.fieldAddr fa_91_3 rfl rfl) ?_
  refine OpsJ.op rfl ?_
  refine OpJ.store1 (i := 0) rfl rfl rfl rfl rfl sz_4 rfl rfl ?_
  refine OpsJ.nil ?_
  refine ExJ.thenN ?_
  refine CodeJ.seq ?_
  refine CodeJ.region ?_
  refine OpsJ.yld rfl rfl rfl (Yld.move rfl rfl) ?_
  refine OpsJ.op rfl ?_
  refine OpJ.call (rdName rb db off c k0 at0 E hd t hh LS true true hrd0 hc hbig hts) has_40 rfl rfl rfl rfl rfl [0] [] (by decide) rfl rfl (fun w hI => ⟨hI.old hcs hout, hne⟩) ?_
  rintro _ _ ⟨rfl, rfl⟩
  refine OpsJ.yld rfl rfl rfl (Yld.assign rfl rfl) ?_
  refine OpsJ.nil ?_
  refine ExJ.thenN ?_
  refine CodeJ.seq ?_
  refine CodeJ.region ?_
  refine OpsJ.yld rfl rfl rfl (Yld.move rfl rfl) ?_
  refine OpsJ.yld rfl rfl rfl (Yld.move rfl rfl) ?_
  refine OpsJ.yld rfl rfl rfl (Yld.nilCheck rfl rfl) ?_
  refine OpsJ.yld rfl rfl rfl (Yld.fieldAddr fa_91_2 rfl rfl) ?_
  refine OpsJ.yld rfl rfl rfl (Yld.load1 rfl Tryd.underlying4 rfl rfl (fun w hI => Inv.cell1 hI (i := 0) rfl rfl)) ?_
  refine OpsJ.yld rfl rfl rfl (Yld.move rfl rfl) ?_
  refine OpsJ.splitB (s := 19) rfl (fun g19 => ?_) (fun g19 => ?_)
  · exact absurd g19 (by decide)
  · refine OpsJ.opT rfl rfl rfl ?_
    refine OpJ.yld rfl rfl (Yld.move rfl rfl) ?_
    refine OpsJ.opT rfl rfl rfl ?_
    refine OpJ.yld rfl rfl (Yld.nilCheck rfl rfl) ?_
    refine OpsJ.opT rfl rfl rfl ?_
    refine OpJ.yld rfl rfl (Yld.fieldAddr fa_91_3 rfl rfl) ?_
    refine OpsJ.opT rfl rfl rfl ?_
    refine OpJ.yld rfl rfl (Yld.load1 rfl Tryd.underlying4 rfl rfl (fun w hI => Inv.cell1 hI (i := 0) rfl rfl)) ?_
    refine OpsJ.opT rfl rfl rfl ?_
    refine OpJ.yld rfl rfl (Yld.not rfl rfl) ?_
    refine OpsJ.yld rfl rfl rfl (Yld.pickF rfl rfl rfl) ?_
    refine OpsJ.yld rfl rfl rfl (Yld.nilCheck rfl rfl) ?_
    refine OpsJ.yld rfl rfl rfl (Yld.fieldAddr fa_91_2 rfl rfl) ?_
    refine OpsJ.op rfl ?_
    refine OpJ.store1 (i := 0) rfl rfl rfl rfl rfl sz_4 rfl rfl ?_
    refine OpsJ.nil ?_
    refine ExJ.thenN ?_
    refine CodeJ.seq ?_
    refine CodeJ.region ?_
    refine OpsJ.yld rfl rfl rfl (Yld.move rfl rfl) ?_
    refine OpsJ.yld rfl rfl rfl (Yld.move rfl rfl) ?_
    refine OpsJ.yld rfl rfl rfl (Yld.nilCheck rfl rfl) ?_
    refine OpsJ.yld rfl rfl rfl (Yld.fieldAddr fa_91_3 rfl rfl) ?_
    refine OpsJ.op rfl ?_
    refine OpJ.store1 (i := 0) rfl rfl rfl rfl rfl sz_4 rfl rfl ?_
    refine OpsJ.nil ?_
    refine ExJ.thenN ?_
    refine CodeJ.seq ?_
    refine CodeJ.region ?_
    refine OpsJ.yld rfl rfl rfl (Yld.move rfl rfl) ?_
    refine OpsJ.yld rfl rfl rfl (Yld.assign rfl rfl) ?_
    refine OpsJ.nil ?_
    refine ExJ.thenN ?_
    refine CodeJ.ret ?_
    exact ExJ.ret1 Tryd.results106 rfl ⟨rfl, rfl⟩ fun w hI => hI

theorem reads_SRV : BodyReads srvK 9 srvBA := by
  intro x hd t rb xb db off c at_ e w hh hba hok hfit hwf hc hbig h12 hae hel hlen
  obtain ⟨hnum, k0, ls, W, hrd, hhost, hW⟩ := hba
  refine Spec.of Tryd.func105 rfl Tryd.ntmps105 rfl fun w0 hR => ?_
  obtain ⟨hcs, hne, hnx⟩ := hR
  subst hW
  have hout : db ∉ fp [rdB rb (.slice (some ⟨db, off, none⟩) (hd ++ t).length c) at_ w, .blk xb (startRec 9 x (srvK.typ x) (e - at_)).cells.toArray 68] := by simp [fp, rdB, Res.ats]; exact ⟨hne, hnx⟩
  have hnm : strV (nameTxt ls) = .string x.host := by rw [← hhost]; exact congrArg Value.string (str_eta x.host)
  have hhk := (okn_SRV hok).2.1
  have hlt := hrd.at_lt
  have hml : (hd ++ t).length = 12 + t.length := by rw [List.length_append, hh]
  have hts : (txt ls).length ≤ 1000000 := by
    have h1 := nameTxt_txt ls
    rw [← hhost] at h1
    have := (nameOk_pname hhk).le
    omega
  have hparts : ((hd ++ t).drop at_).take 6 = (be16 (x.n1 % 65536) ++ (be16 (x.n2 % 65536) ++ be16 (x.n3 % 65536))) := by rw [msg_drop hh (by omega)]; exact hnum
  have q0 : ((hd ++ t).drop (at_)).take 2 = be16 (x.n1 % 65536) := by
    have := congrArg (fun l => (List.drop 0 l).take 2) hparts
    simp only [List.drop_take, List.drop_drop, List.take_take] at this
    exact this
  have q1 : ((hd ++ t).drop (at_ + 2)).take 2 = be16 (x.n2 % 65536) := by
    have := congrArg (fun l => (List.drop 2 l).take 2) hparts
    simp only [List.drop_take, List.drop_drop, List.take_take] at this
    exact this
  have q2 : ((hd ++ t).drop (at_ + 2 + 2)).take 2 = be16 (x.n3 % 65536) := by
    have := congrArg (fun l => (List.drop 4 l).take 2) hparts
    simp only [List.drop_take, List.drop_drop, List.take_take] at this
    exact this
  refine CodeJ.seq ?_
  refine CodeJ.seq ?_
  refine CodeJ.region ?_
  refine OpsJ.yld rfl rfl rfl (Yld.move rfl rfl) ?_
  refine OpsJ.yld rfl rfl rfl (Yld.nilCheck rfl rfl) ?_
  refine OpsJ.yld rfl rfl rfl (Yld.fieldAddr fa_68_5 rfl rfl) ?_
  refine OpsJ.yld rfl rfl rfl (Yld.load1 rfl Tryd.underlying3 rfl rfl (fun w hI => Inv.cell1 hI (i := 1) rfl rfl)) ?_
  refine OpsJ.nil ?_
  refine ExJ.thenN ?_
  refine CodeJ.block ?_
  refine CodeJ.seq ?_
  refine CodeJ.region ?_
  refine OpsJ.yld rfl rfl rfl (Yld.intBin rfl rfl rfl rfl) ?_
  refine OpsJ.yld rfl rfl rfl (Yld.assign rfl rfl) ?_
  refine OpsJ.nil ?_
  refine ExJ.thenN ?_
  refine CodeJ.condF rfl ?_
  refine CodeJ.seq ?_
  refine CodeJ.region ?_
  refine OpsJ.yld rfl rfl rfl (Yld.intBin rfl rfl rfl rfl) ?_
  refine OpsJ.yld rfl rfl rfl (Yld.assign rfl rfl) ?_
  refine OpsJ.nil ?_
  refine ExJ.thenN ?_
  refine CodeJ.condF rfl ?_
  refine CodeJ.seq ?_
  refine CodeJ.seq ?_
  refine CodeJ.region ?_
  refine OpsJ.yld rfl rfl rfl (Yld.intBin rfl rfl rfl rfl) ?_
  refine OpsJ.yld rfl rfl rfl (Yld.assign rfl rfl) ?_
  refine OpsJ.nil ?_
  refine ExJ.thenN ?_
  refine CodeJ.condF rfl ?_
  refine CodeJ.seq ?_
  refine CodeJ.region ?_
  refine OpsJ.yld rfl rfl rfl (Yld.intBin rfl rfl rfl rfl) ?_
  refine OpsJ.yld rfl rfl rfl (Yld.assign rfl rfl) ?_
  refine OpsJ.nil ?_
  refine ExJ.thenN ?_
  refine CodeJ.condF rfl ?_
  refine CodeJ.region ?_
  refine OpsJ.yld rfl rfl rfl (Yld.intBin rfl rfl rfl rfl) ?_
  refine OpsJ.yld rfl rfl rfl (Yld.assign rfl rfl) ?_
  refine OpsJ.nil ?_
  refine ExJ.thenN ?_
  refine CodeJ.condF rfl ?_
  refine CodeJ.seq ?_
  refine CodeJ.region ?_
  refine OpsJ.yld rfl rfl rfl (Yld.intBin rfl rfl rfl rfl) ?_
  refine OpsJ.yld rfl rfl rfl (Yld.assign rfl rfl) ?_
  refine OpsJ.nil ?_
  refine ExJ.thenN ?_
  refine CodeJ.condF rfl ?_
  refine CodeJ.seq ?_
  refine CodeJ.region ?_
  refine OpsJ.yld rfl rfl rfl (Yld.intBin rfl rfl rfl rfl) ?_
  refine OpsJ.yld rfl rfl rfl (Yld.assign rfl rfl) ?_
  refine OpsJ.nil ?_
  refine ExJ.thenN ?_
  refine CodeJ.condF rfl ?_
  refine CodeJ.seq ?_
  refine CodeJ.region ?_
  refine OpsJ.yld rfl rfl rfl (Yld.intBin rfl rfl rfl rfl) ?_
  refine OpsJ.yld rfl rfl rfl (Yld.assign rfl rfl) ?_
  refine OpsJ.nil ?_
  refine ExJ.thenN ?_
  refine CodeJ.condF rfl ?_
  refine CodeJ.seq ?_
  refine CodeJ.region ?_
  refine OpsJ.yld rfl rfl rfl (Yld.intBin rfl rfl rfl rfl) ?_
  refine OpsJ.yld rfl rfl rfl (Yld.assign rfl rfl) ?_
  refine OpsJ.nil ?_
  refine ExJ.thenN ?_
  refine CodeJ.condT rfl ?_
  refine CodeJ.seq ?_
  refine CodeJ.region ?_
  refine OpsJ.yld rfl rfl rfl (Yld.move rfl rfl) ?_
  refine OpsJ.yld rfl rfl rfl (Yld.move rfl rfl) ?_
  refine OpsJ.yld rfl rfl rfl (Yld.move rfl rfl) ?_
  refine OpsJ.yld rfl rfl rfl (Yld.move rfl rfl) ?_
  refine OpsJ.op rfl ?_
  refine OpJ.call (rdTwo rb db off c (at_) (x.n1 % 65536) (hd ++ t) w (by omega) q0 (by omega) hc hbig) has_39 rfl rfl rfl rfl rfl [0] [1] (by decide) rfl rfl (fun w hI => ⟨hI.old hcs hout, hne⟩) ?_
  rintro _ _ ⟨rfl, rfl⟩
  refine OpsJ.yld rfl rfl rfl (Yld.convInt rfl Tryd.underlying22 Tryd.underlying38 rfl) ?_
  rw [u32_wrap' (x.n1 % 65536) (by omega)]
  refine OpsJ.yld rfl rfl rfl (Yld.move rfl rfl) ?_
  refine OpsJ.op rfl ?_
  refine OpJ.call (rdTwo rb db off c (at_ + 2) (x.n2 % 65536) (hd ++ t) w (by omega) q1 (by omega) hc hbig) has_39 rfl rfl rfl rfl rfl [0] [1] (by decide) rfl rfl (fun w hI => ⟨hI.old hcs hout, hne⟩) ?_
  rintro _ _ ⟨rfl, rfl⟩
  refine OpsJ.yld rfl rfl rfl (Yld.convInt rfl Tryd.underlying22 Tryd.underlying38 rfl) ?_
  rw [u32_wrap' (x.n2 % 65536) (by omega)]
  refine OpsJ.yld rfl rfl rfl (Yld.move rfl rfl) ?_
  refine OpsJ.op rfl ?_
  refine OpJ.call (rdTwo rb db off c (at_ + 2 + 2) (x.n3 % 65536) (hd ++ t) w (by omega) q2 (by omega) hc hbig) has_39 rfl rfl rfl rfl rfl [0] [1] (by decide) rfl rfl (fun w hI => ⟨hI.old hcs hout, hne⟩) ?_
  rintro _ _ ⟨rfl, rfl⟩
  refine OpsJ.yld rfl rfl rfl (Yld.convInt rfl Tryd.underlying22 Tryd.underlying38 rfl) ?_
  rw [u32_wrap' (x.n3 % 65536) (by omega)]
  refine OpsJ.yld rfl rfl rfl (Yld.nilCheck rfl rfl) ?_
  refine OpsJ.yld rfl rfl rfl (Yld.fieldAddr fa_68_9 rfl rfl) ?_
  refine OpsJ.op rfl ?_
  refine OpJ.store1 (i := 1) rfl rfl rfl rfl rfl sz_38 rfl rfl ?_
  refine OpsJ.yld rfl rfl rfl (Yld.nilCheck rfl rfl) ?_
  refine OpsJ.yld rfl rfl rfl (Yld.fieldAddr fa_68_10 rfl rfl) ?_
  refine OpsJ.op rfl ?_
  refine OpJ.store1 (i := 1) rfl rfl rfl rfl rfl sz_38 rfl rfl ?_
  refine OpsJ.yld rfl rfl rfl (Yld.nilCheck rfl rfl) ?_
  refine OpsJ.yld rfl rfl rfl (Yld.fieldAddr fa_68_11 rfl rfl) ?_
  refine OpsJ.op rfl ?_
  refine OpJ.store1 (i := 1) rfl rfl rfl rfl rfl sz_38 rfl rfl ?_
  refine OpsJ.nil ?_
  refine ExJ.thenN ?_
  refine CodeJ.region ?_
  refine OpsJ.yld rfl rfl rfl (Yld.move rfl rfl) ?_
  refine OpsJ.yld rfl rfl rfl (Yld.move rfl rfl) ?_
  refine OpsJ.op rfl ?_
  refine OpJ.call (rdTarget rb db off c k0 (at_ + 2 + 2 + 2) e hd t hh ls w hrd hc hbig hts) has_106 rfl rfl rfl rfl rfl [0] [1] (by decide) rfl rfl (fun w hI => ⟨hI.old hcs hout, hne⟩) ?_
  rintro _ _ ⟨rfl, rfl⟩
  rw [hnm]
  refine OpsJ.yld rfl rfl rfl (Yld.nilCheck rfl rfl) ?_
  refine OpsJ.yld rfl rfl rfl (Yld.fieldAddr fa_68_7 rfl rfl) ?_
  refine OpsJ.op rfl ?_
  refine OpJ.store1 (i := 1) rfl rfl rfl rfl rfl sz_9 rfl rfl ?_
  refine OpsJ.nil ?_
  refine ExJ.blockN ?_
  refine ExJ.thenN ?_
  refine CodeJ.region ?_
  refine OpsJ.yld rfl rfl rfl (Yld.move rfl rfl) ?_
  refine OpsJ.yld rfl rfl rfl (Yld.move rfl rfl) ?_
  refine OpsJ.yld rfl rfl rfl (Yld.nilCheck rfl rfl) ?_
  refine OpsJ.yld rfl rfl rfl (Yld.fieldAddr fa_91_2 rfl rfl) ?_
  refine OpsJ.yld rfl rfl rfl (Yld.load1 rfl Tryd.underlying4 rfl rfl (fun w hI => Inv.cell1 hI (i := 0) rfl rfl)) ?_
  refine OpsJ.yld rfl rfl rfl (Yld.move rfl rfl) ?_
  refine OpsJ.splitB (s := 190) rfl (fun g190 => ?_) (fun g190 => ?_)
  · exact absurd g190 (by decide)
  · refine OpsJ.opT rfl rfl rfl ?_
    refine OpJ.yld rfl rfl (Yld.move rfl rfl) ?_
    refine OpsJ.opT rfl rfl rfl ?_
    refine OpJ.yld rfl rfl (Yld.nilCheck rfl rfl) ?_
    refine OpsJ.opT rfl rfl rfl ?_
    refine OpJ.yld rfl rfl (Yld.fieldAddr fa_91_1 rfl rfl) ?_
    refine OpsJ.opT rfl rfl rfl ?_
    refine OpJ.yld rfl rfl (Yld.load1 rfl Tryd.underlying3 rfl rfl (fun w hI => Inv.cell1 hI (i := 0) rfl rfl)) ?_
    refine OpsJ.opT rfl rfl rfl ?_
    refine OpJ.yld rfl rfl (Yld.move rfl rfl) ?_
    refine OpsJ.opT rfl rfl rfl ?_
    refine OpJ.yld rfl rfl (Yld.intBin rfl rfl rfl rfl) ?_
    rw [show (((e : Nat) : Int) != ((e : Nat) : Int)) = false by simp]
    refine OpsJ.yld rfl rfl rfl (Yld.pickF rfl rfl rfl) ?_
    refine OpsJ.yld rfl rfl rfl (Yld.nilCheck rfl rfl) ?_
    refine OpsJ.yld rfl rfl rfl (Yld.fieldAddr fa_91_2 rfl rfl) ?_
    refine OpsJ.op rfl ?_
    refine OpJ.store1 (i := 0) rfl rfl rfl rfl rfl sz_4 rfl rfl ?_
    refine OpsJ.nil ?_
    refine ExJ.endN ?_
    refine ExJ.retOf (v := .tuple #[]) (fun a w hE hI => by simp [results, Tryd.results105]) ⟨w, { startRec 9 x (srvK.typ x) (e - at_) with host := x.host, n1 := x.n1 % 65536, n2 := x.n2 % 65536, n3 := x.n3 % 65536 }, fun _ => True, [], fun _ _ _ _ => trivial, rfl, fun w _ => ⟨.inl ⟨none, 0, rfl, rfl⟩, .inl ⟨none, 0, rfl, rfl, rfl⟩, .inl ⟨none, 0, rfl, rfl, rfl⟩, fun p hp => by cases hp⟩, ?_⟩ fun w hI => (hI.roNil (p := fun _ => True) (fun _ => trivial)).pick (is := [1, 2, 0]) (by decide) rfl
    have hby : srvBytes { startRec 9 x (srvK.typ x) (e - at_) with host := x.host, n1 := x.n1 % 65536, n2 := x.n2 % 65536, n3 := x.n3 % 65536 } = srvBytes x := by simp [srvBytes]
    refine ⟨rfl, ?_, ?_, ⟨hfit.host, by simp [startRec, zRec], by simp [startRec, zRec], by simp [startRec, zRec], by simp [startRec, zRec], by simp [startRec, zRec], by simp [startRec, zRec]⟩, rfl⟩
    · have h := hok
      have e2 : srvK.recOk { startRec 9 x (srvK.typ x) (e - at_) with host := x.host, n1 := x.n1 % 65536, n2 := x.n2 % 65536, n3 := x.n3 % 65536 } = (nameOk x.name.data.toList && (nameOk x.host.data.toList && decide ((srvBytes { startRec 9 x (srvK.typ x) (e - at_) with host := x.host, n1 := x.n1 % 65536, n2 := x.n2 % 65536, n3 := x.n3 % 65536 }).length < 65536))) := rfl
      rw [e2, hby]
      exact h
    · have e1 : srvK.body { startRec 9 x (srvK.typ x) (e - at_) with host := x.host, n1 := x.n1 % 65536, n2 := x.n2 % 65536, n3 := x.n3 % 65536 } = srvK.body x := hby
      unfold Kind.recWire
      rw [e1]
      rfl
theorem bodyShort_SRV {x : RecD} (hh : nameOk x.host.data.toList = true) : BodyShort srvK srvBA srvPk x := by
  intro on t m hm
  obtain ⟨zs, m', hp⟩ := packN_ok (12 + t.length + 6) false x.host.data.toList [] hh
  have hb : (t ++ ((be16 (x.n1 % 65536) ++ (be16 (x.n2 % 65536) ++ be16 (x.n3 % 65536))))).length = t.length + 6 := by simp [be16_len]
  have hp' := hp
  rw [show 12 + t.length + 6 = 12 + (t ++ ((be16 (x.n1 % 65536) ++ (be16 (x.n2 % 65536) ++ be16 (x.n3 % 65536))))).length by omega] at hp'
  obtain ⟨⟨k, ls, w, hname, hwt, hrd⟩, hgood⟩ := packN_read (t ++ ((be16 (x.n1 % 65536) ++ (be16 (x.n2 % 65536) ++ be16 (x.n3 % 65536))))) false _ hh [] zs m' hp' (fun y hy => by cases hy)
  have e : t ++ ((be16 (x.n1 % 65536) ++ (be16 (x.n2 % 65536) ++ be16 (x.n3 % 65536))) ++ zs) = t ++ ((be16 (x.n1 % 65536) ++ (be16 (x.n2 % 65536) ++ be16 (x.n3 % 65536)))) ++ zs := by simp [List.append_assoc]
  refine ⟨(be16 (x.n1 % 65536) ++ (be16 (x.n2 % 65536) ++ be16 (x.n3 % 65536))) ++ zs, m, ?_, ⟨?_, k, ls, w, ?_, hname, hwt rfl⟩, ?_, ?_⟩
  · show srvP _ on (x.n1 % 65536) (x.n2 % 65536) (x.n3 % 65536) (cut255 x.host) m = _
    rw [cut_ok hh]
    simp only [srvP, hp]
  · rw [e, List.append_assoc t, show 12 + t.length - 12 = t.length by omega, List.drop_left' rfl]
    rfl
  · rw [e]
    have h2 := hrd
    rw [hb] at h2
    rw [show 12 + (t ++ ((be16 (x.n1 % 65536) ++ (be16 (x.n2 % 65536) ++ be16 (x.n3 % 65536)))) ++ zs).length = 12 + (t.length + 6) + zs.length by rw [List.length_append, hb]; omega, show 12 + t.length + 6 = 12 + (t.length + 6) by omega]
    exact h2
  · intro y hy
    rw [e]
    exact ((hm y hy).app _).app _
  · show ((be16 (x.n1 % 65536) ++ (be16 (x.n2 % 65536) ++ be16 (x.n3 % 65536))) ++ zs).length ≤ ((be16 (x.n1 % 65536) ++ (be16 (x.n2 % 65536) ++ be16 (x.n3 % 65536))) ++ wire x.host.data.toList).length
    have := packN_le_wire hh hp
    simp only [List.length_append]
    omega
theorem recShort_SRV {x : RecD} (hwf : x.wf) (hok : srvK.recOk x = true) : RecShort srvK srvBA srvAdder x := by
  have h := okn_SRV hok
  refine rec_short hwf h.1 rfl (host_pok h.2.1) (fun on base m zs m' hp => ?_) (bodyShort_SRV h.2.1)
  have hp : srvP base on (x.n1 % 65536) (x.n2 % 65536) (x.n3 % 65536) (cut255 x.host) m = .ok zs m' := hp
  rw [cut_ok h.2.1] at hp
  simp only [srvP] at hp
  split at hp
  · next ys _ hq =>
    injection hp with h1 h2
    subst h1
    have h3 := packN_le_wire h.2.1 hq
    have h4 : ((be16 (x.n1 % 65536) ++ (be16 (x.n2 % 65536) ++ be16 (x.n3 % 65536))) ++ wire x.host.data.toList).length < 65536 := h.2.2
    simp only [List.length_append] at h4 ⊢
    omega
  · cases hp
end Go.Proofs.YtijhpaejdchjgaaDoor
