/-
  How the reference reads MX records; what is packed is found there.
-/
import Derived.Test.YtgckgbppbcedaaaDoorBh
import Derived.Test.YtgckgbppbcedaaaDoorHLMX
namespace Go.Proofs.YtgckgbppbcedaaaDoor
open Go
set_option maxRecDepth 100000

def mxBA : BodyAt := fun t at_ e x => (t.drop (at_ - 12)).take 2 = be16 (x.n1 % 65536) ∧ ∃ k ls w, RdN t k (at_ + 2) (at_ + 2) ls e w ∧ x.host.data.toList = nameTxt ls
theorem mxBA_grows : mxBA.Grows := fun _ u _ _ _ ⟨h0, k, ls, w, h1, h2⟩ => ⟨part_app u h0 rfl, k, ls, w, h1.app u, h2⟩

theorem reads_MX : BodyReads mxK 6 mxBA := by
  intro x hd t rb xb db off c at_ e w hh hba hok hfit hwf hc hbig h12 hae hel hlen
  obtain ⟨hnum, k0, ls, W, hrd, hhost⟩ := hba
  refine Spec.of Tryd.func101 rfl Tryd.ntmps101 rfl fun w0 hR => ?_
  obtain ⟨hcs, hne, hnx⟩ := hR
  have hout : db ∉ fp [rdB rb (.slice (some ⟨db, off, none⟩) (hd ++ t).length c) at_ w, .blk xb (startRec 6 x (mxK.typ x) (e - at_)).cells.toArray 82] := by simp [fp, rdB, Res.ats]; exact ⟨hne, hnx⟩
  have hnm : strV (nameTxt ls) = .string x.host := by rw [← hhost]; exact congrArg Value.string (str_eta x.host)
  have hhk := (okn_MX hok).2.1
  have hlt := hrd.at_lt
  have hml : (hd ++ t).length = 12 + t.length := by rw [List.length_append, hh]
  have hts : (txt ls).length ≤ 1000000 := by
    have h1 := nameTxt_txt ls
    rw [← hhost] at h1
    have := (nameOk_pname hhk).le
    omega
  have hparts : ((hd ++ t).drop at_).take 2 = be16 (x.n1 % 65536) := by rw [msg_drop hh (by omega)]; exact hnum
  have q0 : ((hd ++ t).drop at_).take 2 = be16 (x.n1 % 65536) := hparts
  refine CodeJ.seq ?_
  refine CodeJ.seq ?_
  refine CodeJ.region ?_
  refine OpsJ.yld rfl rfl rfl (Yld.move rfl rfl) ?_
  refine OpsJ.yld rfl rfl rfl (Yld.nilCheck rfl rfl) ?_
  refine OpsJ.yld rfl rfl rfl (Yld.fieldAddr fa_82_5 rfl rfl) ?_
  refine OpsJ.yld rfl rfl rfl (Yld.load1 rfl Tryd.underlying3 rfl rfl (fun w hI => Inv.cell1 hI (i := 1) rfl rfl)) ?_
  refine OpsJ.nil ?_
  refine ExJ.thenN ?_
  refine CodeJ.block ?_
  refine CodeJ.seq ?_
  refine CodeJ.region ?_
  refine OpsJ.yld rfl rfl rfl (Yld.intBin rfl rfl rfl rfl) ?_
  refine OpsJ.yld rfl rfl rfl (Yld.assign rfl rfl) ?_
  refine OpsJ.nil ?_
  refine ExJ.thenN ?_
  refine CodeJ.condF rfl ?_
  refine CodeJ.seq ?_
  refine CodeJ.region ?_
  refine OpsJ.yld rfl rfl rfl (Yld.intBin rfl rfl rfl rfl) ?_
  refine OpsJ.yld rfl rfl rfl (Yld.assign rfl rfl) ?_
  refine OpsJ.nil ?_
  refine ExJ.thenN ?_
  refine CodeJ.condF rfl ?_
  refine CodeJ.seq ?_
  refine CodeJ.seq ?_
  refine CodeJ.region ?_
  refine OpsJ.yld rfl rfl rfl (Yld.intBin rfl rfl rfl rfl) ?_
  refine OpsJ.yld rfl rfl rfl (Yld.assign rfl rfl) ?_
  refine OpsJ.nil ?_
  refine ExJ.thenN ?_
  refine CodeJ.condF rfl ?_
  refine CodeJ.seq ?_
  refine CodeJ.region ?_
  refine OpsJ.yld rfl rfl rfl (Yld.intBin rfl rfl rfl rfl) ?_
  refine OpsJ.yld rfl rfl rfl (Yld.assign rfl rfl) ?_
  refine OpsJ.nil ?_
  refine ExJ.thenN ?_
  refine CodeJ.condF rfl ?_
  refine CodeJ.region ?_
  refine OpsJ.yld rfl rfl rfl (Yld.intBin rfl rfl rfl rfl) ?_
  refine OpsJ.yld rfl rfl rfl (Yld.assign rfl rfl) ?_
  refine OpsJ.nil ?_
  refine ExJ.thenN ?_
  refine CodeJ.condF rfl ?_
  refine CodeJ.seq ?_
  refine CodeJ.region ?_
  refine OpsJ.yld rfl rfl rfl (Yld.intBin rfl rfl rfl rfl) ?_
  refine OpsJ.yld rfl rfl rfl (Yld.assign rfl rfl) ?_
  refine OpsJ.nil ?_
  refine ExJ.thenN ?_
  refine CodeJ.condT rfl ?_
  refine CodeJ.seq ?_
  refine CodeJ.region ?_
  refine OpsJ.yld rfl rfl rfl (Yld.move rfl rfl) ?_
  refine OpsJ.yld rfl rfl rfl (Yld.move rfl rfl) ?_
  refine OpsJ.op rfl ?_
  refine OpJ.call (rdTwo rb db off c (at_) (x.n1 % 65536) (hd ++ t) w (by omega) q0 (by omega) hc hbig) has_70 rfl rfl rfl rfl rfl [0] [1] (by decide) rfl rfl (fun w hI => ⟨hI.old hcs hout, hne⟩) ?_
  rintro _ _ ⟨rfl, rfl⟩
  refine OpsJ.yld rfl rfl rfl (Yld.convInt rfl Tryd.underlying22 Tryd.underlying25 rfl) ?_
  rw [u32_wrap' (x.n1 % 65536) (by omega)]
  refine OpsJ.yld rfl rfl rfl (Yld.nilCheck rfl rfl) ?_
  refine OpsJ.yld rfl rfl rfl (Yld.fieldAddr fa_82_9 rfl rfl) ?_
  refine OpsJ.op rfl ?_
  refine OpJ.store1 (i := 1) rfl rfl rfl rfl rfl sz_25 rfl rfl ?_
  refine OpsJ.nil ?_
  refine ExJ.thenN ?_
  refine CodeJ.region ?_
  refine OpsJ.yld rfl rfl rfl (Yld.move rfl rfl) ?_
  refine OpsJ.yld rfl rfl rfl (Yld.move rfl rfl) ?_
  refine OpsJ.op rfl ?_
  refine OpJ.call (rdName rb db off c k0 (at_ + 2) e hd t hh ls w W hrd hc hbig hts) has_71 rfl rfl rfl rfl rfl [0] [1] (by decide) rfl rfl (fun w hI => ⟨hI.old hcs hout, hne⟩) ?_
  rintro _ _ ⟨rfl, rfl⟩
  rw [hnm]
  refine OpsJ.yld rfl rfl rfl (Yld.nilCheck rfl rfl) ?_
  refine OpsJ.yld rfl rfl rfl (Yld.fieldAddr fa_82_7 rfl rfl) ?_
  refine OpsJ.op rfl ?_
  refine OpJ.store1 (i := 1) rfl rfl rfl rfl rfl sz_9 rfl rfl ?_
  refine OpsJ.nil ?_
  refine ExJ.blockN ?_
  refine ExJ.thenN ?_
  refine CodeJ.region ?_
  refine OpsJ.yld rfl rfl rfl (Yld.move rfl rfl) ?_
  refine OpsJ.yld rfl rfl rfl (Yld.move rfl rfl) ?_
  refine OpsJ.yld rfl rfl rfl (Yld.nilCheck rfl rfl) ?_
  refine OpsJ.yld rfl rfl rfl (Yld.fieldAddr fa_134_2 rfl rfl) ?_
  refine OpsJ.yld rfl rfl rfl (Yld.load1 rfl Tryd.underlying4 rfl rfl (fun w hI => Inv.cell1 hI (i := 0) rfl rfl)) ?_
  refine OpsJ.yld rfl rfl rfl (Yld.move rfl rfl) ?_
  refine OpsJ.splitB (s := 190) rfl (fun g190 => ?_) (fun g190 => ?_)
  · exact absurd g190 (by decide)
  · refine OpsJ.opT rfl rfl rfl ?_
    refine OpJ.yld rfl rfl (Yld.move rfl rfl) ?_
    refine OpsJ.opT rfl rfl rfl ?_
    refine OpJ.yld rfl rfl (Yld.nilCheck rfl rfl) ?_
    refine OpsJ.opT rfl rfl rfl ?_
    refine OpJ.yld rfl rfl (Yld.fieldAddr fa_134_1 rfl rfl) ?_
    refine OpsJ.opT rfl rfl rfl ?_
    refine OpJ.yld rfl rfl (Yld.load1 rfl Tryd.underlying3 rfl rfl (fun w hI => Inv.cell1 hI (i := 0) rfl rfl)) ?_
    refine OpsJ.opT rfl rfl rfl ?_
    refine OpJ.yld rfl rfl (Yld.move rfl rfl) ?_
    refine OpsJ.opT rfl rfl rfl ?_
    refine OpJ.yld rfl rfl (Yld.intBin rfl rfl rfl rfl) ?_
    rw [show (((e : Nat) : Int) != ((e : Nat) : Int)) = false by simp]
    refine OpsJ.yld rfl rfl rfl (Yld.pickF rfl rfl rfl) ?_
    refine OpsJ.yld rfl rfl rfl (Yld.nilCheck rfl rfl) ?_
    refine OpsJ.yld rfl rfl rfl (Yld.fieldAddr fa_134_2 rfl rfl) ?_
    refine OpsJ.op rfl ?_
    refine OpJ.store1 (i := 0) rfl rfl rfl rfl rfl sz_4 rfl rfl ?_
    refine OpsJ.nil ?_
    refine ExJ.endN ?_
    refine ExJ.retOf (v := .tuple #[]) (fun a w hE hI => by simp [results, Tryd.results101]) ⟨w && W, { startRec 6 x (mxK.typ x) (e - at_) with host := x.host, n1 := x.n1 % 65536 }, fun _ => True, [], fun _ _ _ _ => trivial, rfl, fun w _ => ⟨.inl ⟨none, 0, rfl, rfl⟩, .inl ⟨none, 0, rfl, rfl, rfl⟩, .inl ⟨none, 0, rfl, rfl, rfl⟩, fun p hp => by cases hp⟩, ?_⟩ fun w hI => (hI.roNil (p := fun _ => True) (fun _ => trivial)).pick (is := [1, 2, 0]) (by decide) rfl
    have hby : mxBytes { startRec 6 x (mxK.typ x) (e - at_) with host := x.host, n1 := x.n1 % 65536 } = mxBytes x := by simp [mxBytes]
    refine ⟨rfl, ?_, ?_, ⟨hfit.host, by simp [startRec, zRec], by simp [startRec, zRec], by simp [startRec, zRec], by simp [startRec, zRec], by simp [startRec, zRec], by simp [startRec, zRec]⟩, rfl⟩
    · have h := hok
      have e2 : mxK.recOk { startRec 6 x (mxK.typ x) (e - at_) with host := x.host, n1 := x.n1 % 65536 } = (nameOk x.name.data.toList && (nameOk x.host.data.toList && decide ((mxBytes { startRec 6 x (mxK.typ x) (e - at_) with host := x.host, n1 := x.n1 % 65536 }).length < 65536))) := rfl
      rw [e2, hby]
      exact h
    · have e1 : mxK.body { startRec 6 x (mxK.typ x) (e - at_) with host := x.host, n1 := x.n1 % 65536 } = mxK.body x := hby
      unfold Kind.recWire
      rw [e1]
      rfl
theorem bodyShort_MX {x : RecD} (hh : nameOk x.host.data.toList = true) : BodyShort mxK mxBA mxPk x := by
  intro on t m hm
  obtain ⟨zs, m', hp⟩ := packN_ok (12 + t.length + 2) on x.host.data.toList m hh
  have hb : (t ++ (be16 (x.n1 % 65536))).length = t.length + 2 := by simp [be16_len]
  have hp' := hp
  rw [show 12 + t.length + 2 = 12 + (t ++ (be16 (x.n1 % 65536))).length by omega] at hp'
  obtain ⟨⟨k, ls, w, hname, hwt, hrd⟩, hgood⟩ := packN_read (t ++ (be16 (x.n1 % 65536))) on _ hh m zs m' hp' (fun y hy => (hm y hy).app _)
  have e : t ++ (be16 (x.n1 % 65536) ++ zs) = t ++ (be16 (x.n1 % 65536)) ++ zs := by simp [List.append_assoc]
  refine ⟨be16 (x.n1 % 65536) ++ zs, m', ?_, ⟨?_, k, ls, w, ?_, hname⟩, ?_, ?_⟩
  · show mxP _ on (x.n1 % 65536) (cut255 x.host) m = _
    rw [cut_ok hh]
    simp only [mxP, hp]
  · rw [e, List.append_assoc t, show 12 + t.length - 12 = t.length by omega, List.drop_left' rfl]
    rfl
  · rw [e]
    have h2 := hrd
    rw [hb] at h2
    rw [show 12 + (t ++ (be16 (x.n1 % 65536)) ++ zs).length = 12 + (t.length + 2) + zs.length by rw [List.length_append, hb]; omega, show 12 + t.length + 2 = 12 + (t.length + 2) by omega]
    exact h2
  · intro y hy
    rw [e]
    exact hgood y hy
  · show (be16 (x.n1 % 65536) ++ zs).length ≤ (be16 (x.n1 % 65536) ++ wire x.host.data.toList).length
    have := packN_le_wire hh hp
    simp only [List.length_append]
    omega
theorem recShort_MX {x : RecD} (hwf : x.wf) (hok : mxK.recOk x = true) : RecShort mxK mxBA mxAdder x := by
  have h := okn_MX hok
  refine rec_short hwf h.1 rfl (host_pok h.2.1) (fun on base m zs m' hp => ?_) (bodyShort_MX h.2.1)
  have hp : mxP base on (x.n1 % 65536) (cut255 x.host) m = .ok zs m' := hp
  rw [cut_ok h.2.1] at hp
  simp only [mxP] at hp
  split at hp
  · next ys _ hq =>
    injection hp with h1 h2
    subst h1
    have h3 := packN_le_wire h.2.1 hq
    have h4 : (be16 (x.n1 % 65536) ++ wire x.host.data.toList).length < 65536 := h.2.2
    simp only [List.length_append] at h4 ⊢
    omega
  · cases hp
end Go.Proofs.YtgckgbppbcedaaaDoor
