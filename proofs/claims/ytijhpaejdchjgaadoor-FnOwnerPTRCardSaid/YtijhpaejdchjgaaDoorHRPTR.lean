/-
  How the reference reads PTR records; what is packed is found there.
-/
import Derived.Test.YtijhpaejdchjgaaDoorBh
import Derived.Test.YtijhpaejdchjgaaDoorHLPTR
namespace Go.Proofs.YtijhpaejdchjgaaDoor
open Go
set_option maxRecDepth 100000

theorem reads_PTR : BodyReads (hostK 12) 5 hostBA := by
  intro x hd t rb xb db off c at_ e w hh hba hok hfit hwf hc hbig h12 hae hel hlen
  obtain ⟨k0, ls, W, hrd, hhost⟩ := hba
  refine Spec.of Tryd.func105 rfl Tryd.ntmps105 rfl fun w0 hR => ?_
  obtain ⟨hcs, hne, hnx⟩ := hR
  have hout : db ∉ fp [rdB rb (.slice (some ⟨db, off, none⟩) (hd ++ t).length c) at_ w, .blk xb (startRec 5 x ((hostK 12).typ x) (e - at_)).cells.toArray 68] := by simp [fp, rdB, Res.ats]; exact ⟨hne, hnx⟩
  have hnm : strV (nameTxt ls) = .string x.host := by rw [← hhost]; exact congrArg Value.string (str_eta x.host)
  have hhk : nameOk x.host.data.toList = true := by
    have := hok
    simp only [Kind.recOk, hostK, Bool.and_eq_true] at this
    exact this.2.1
  have hts : (txt ls).length ≤ 1000000 := by
    have h1 := nameTxt_txt ls
    rw [← hhost] at h1
    have := (nameOk_pname hhk).le
    omega
  refine CodeJ.seq ?_
  refine CodeJ.seq ?_
  refine CodeJ.region ?_
  refine OpsJ.yld rfl rfl rfl (Yld.move rfl rfl) ?_
  refine OpsJ.yld rfl rfl rfl (Yld.nilCheck rfl rfl) ?_
  refine OpsJ.yld rfl rfl rfl (Yld.fieldAddr fa_68_5 rfl rfl) ?_
  refine OpsJ.yld rfl rfl rfl (Yld.load1 rfl Tryd.underlying3 rfl rfl (fun w hI => Inv.cell1 hI (i := 1) rfl rfl)) ?_
  refine OpsJ.nil ?_
  refine ExJ.thenN ?_
  refine CodeJ.block ?_
  refine CodeJ.seq ?_
  refine CodeJ.region ?_
  refine OpsJ.yld rfl rfl rfl (Yld.intBin rfl rfl rfl rfl) ?_
  refine OpsJ.yld rfl rfl rfl (Yld.assign rfl rfl) ?_
  refine OpsJ.nil ?_
  refine ExJ.thenN ?_
  refine CodeJ.condF rfl ?_
  refine CodeJ.seq ?_
  refine CodeJ.region ?_
  refine OpsJ.yld rfl rfl rfl (Yld.intBin rfl rfl rfl rfl) ?_
  refine OpsJ.yld rfl rfl rfl (Yld.assign rfl rfl) ?_
  refine OpsJ.nil ?_
  refine ExJ.thenN ?_
  refine CodeJ.condF rfl ?_
  refine CodeJ.seq ?_
  refine CodeJ.seq ?_
  refine CodeJ.region ?_
  refine OpsJ.yld rfl rfl rfl (Yld.intBin rfl rfl rfl rfl) ?_
  refine OpsJ.yld rfl rfl rfl (Yld.assign rfl rfl) ?_
  refine OpsJ.nil ?_
  refine ExJ.thenN ?_
  refine CodeJ.condF rfl ?_
  refine CodeJ.seq ?_
  refine CodeJ.region ?_
  refine OpsJ.yld rfl rfl rfl (Yld.intBin rfl rfl rfl rfl) ?_
  refine OpsJ.yld rfl rfl rfl (Yld.assign rfl rfl) ?_
  refine OpsJ.nil ?_
  refine ExJ.thenN ?_
  refine CodeJ.condF rfl ?_
  refine CodeJ.region ?_
  refine OpsJ.yld rfl rfl rfl (Yld.intBin rfl rfl rfl rfl) ?_
  refine OpsJ.yld rfl rfl rfl (Yld.assign rfl rfl) ?_
  refine OpsJ.nil ?_
  refine ExJ.thenN ?_
  refine CodeJ.condT rfl ?_
  refine CodeJ.region ?_
  refine OpsJ.yld rfl rfl rfl (Yld.move rfl rfl) ?_
  refine OpsJ.yld rfl rfl rfl (Yld.move rfl rfl) ?_
  refine OpsJ.op rfl ?_
  refine OpJ.call (rdName rb db off c k0 at_ e hd t hh ls w W hrd hc hbig hts) has_40 rfl rfl rfl rfl rfl [0] [1] (by decide) rfl rfl (fun w hI => ⟨hI.old hcs hout, hne⟩) ?_
  rintro _ _ ⟨rfl, rfl⟩
  rw [hnm]
  refine OpsJ.yld rfl rfl rfl (Yld.nilCheck rfl rfl) ?_
  refine OpsJ.yld rfl rfl rfl (Yld.fieldAddr fa_68_7 rfl rfl) ?_
  refine OpsJ.op rfl ?_
  refine OpJ.store1 (i := 1) rfl rfl rfl rfl rfl sz_9 rfl rfl ?_
  refine OpsJ.nil ?_
  refine ExJ.blockN ?_
  refine ExJ.thenN ?_
  refine CodeJ.region ?_
  refine OpsJ.yld rfl rfl rfl (Yld.move rfl rfl) ?_
  refine OpsJ.yld rfl rfl rfl (Yld.move rfl rfl) ?_
  refine OpsJ.yld rfl rfl rfl (Yld.nilCheck rfl rfl) ?_
  refine OpsJ.yld rfl rfl rfl (Yld.fieldAddr fa_91_2 rfl rfl) ?_
  refine OpsJ.yld rfl rfl rfl (Yld.load1 rfl Tryd.underlying4 rfl rfl (fun w hI => Inv.cell1 hI (i := 0) rfl rfl)) ?_
  refine OpsJ.yld rfl rfl rfl (Yld.move rfl rfl) ?_
  refine OpsJ.splitB (s := 190) rfl (fun g190 => ?_) (fun g190 => ?_)
  · exact absurd g190 (by decide)
  · refine OpsJ.opT rfl rfl rfl ?_
    refine OpJ.yld rfl rfl (Yld.move rfl rfl) ?_
    refine OpsJ.opT rfl rfl rfl ?_
    refine OpJ.yld rfl rfl (Yld.nilCheck rfl rfl) ?_
    refine OpsJ.opT rfl rfl rfl ?_
    refine OpJ.yld rfl rfl (Yld.fieldAddr fa_91_1 rfl rfl) ?_
    refine OpsJ.opT rfl rfl rfl ?_
    refine OpJ.yld rfl rfl (Yld.load1 rfl Tryd.underlying3 rfl rfl (fun w hI => Inv.cell1 hI (i := 0) rfl rfl)) ?_
    refine OpsJ.opT rfl rfl rfl ?_
    refine OpJ.yld rfl rfl (Yld.move rfl rfl) ?_
    refine OpsJ.opT rfl rfl rfl ?_
    refine OpJ.yld rfl rfl (Yld.intBin rfl rfl rfl rfl) ?_
    rw [show (((e : Nat) : Int) != ((e : Nat) : Int)) = false by simp]
    refine OpsJ.yld rfl rfl rfl (Yld.pickF rfl rfl rfl) ?_
    refine OpsJ.yld rfl rfl rfl (Yld.nilCheck rfl rfl) ?_
    refine OpsJ.yld rfl rfl rfl (Yld.fieldAddr fa_91_2 rfl rfl) ?_
    refine OpsJ.op rfl ?_
    refine OpJ.store1 (i := 0) rfl rfl rfl rfl rfl sz_4 rfl rfl ?_
    refine OpsJ.nil ?_
    refine ExJ.endN ?_
    refine ExJ.retOf (v := .tuple #[]) (fun a w hE hI => by simp [results, Tryd.results105]) ⟨w && W, { startRec 5 x ((hostK 12).typ x) (e - at_) with host := x.host }, fun _ => True, [], fun _ _ _ _ => trivial, rfl, fun w _ => ⟨.inl ⟨none, 0, rfl, rfl⟩, .inl ⟨none, 0, rfl, rfl, rfl⟩, .inl ⟨none, 0, rfl, rfl, rfl⟩, fun p hp => by cases hp⟩, ?_⟩ fun w hI => (hI.roNil (p := fun _ => True) (fun _ => trivial)).pick (is := [1, 2, 0]) (by decide) rfl
    exact ⟨rfl, hok, rfl, ⟨hfit.host, by simp [startRec, zRec], by simp [startRec, zRec], by simp [startRec, zRec], by simp [startRec, zRec], by simp [startRec, zRec], by simp [startRec, zRec]⟩, rfl⟩
theorem bodyShort_PTR {x : RecD} (hh : nameOk x.host.data.toList = true) : BodyShort (hostK 12) hostBA ptrPk x := by
  intro on t m hm
  obtain ⟨zs, m', hp⟩ := packN_ok (12 + t.length) on x.host.data.toList m hh
  obtain ⟨⟨k, ls, w, hname, _, hrd⟩, hgood⟩ := packN_read t on _ hh m zs m' hp hm
  refine ⟨zs, m', by show packN _ on (cut255 x.host) m = _; rw [cut_ok hh]; exact hp, ⟨k, ls, w, ?_, hname⟩, hgood, packN_le_wire hh hp⟩
  rw [show 12 + (t ++ zs).length = 12 + t.length + zs.length by rw [List.length_append]; omega]
  exact hrd
theorem recShort_PTR {x : RecD} (hwf : x.wf) (hok : (hostK 12).recOk x = true) : RecShort (hostK 12) hostBA ptrAdder x := by
  have h : nameOk x.name.data.toList = true ∧ nameOk x.host.data.toList = true ∧ (wire x.host.data.toList).length < 65536 := by
    simpa [Kind.recOk, hostK, and_assoc] using hok
  refine rec_short hwf h.1 rfl (host_pok h.2.1) (fun on base m zs m' hp => ?_) (bodyShort_PTR h.2.1)
  have hp : packN base on (cut255 x.host) m = .ok zs m' := hp
  rw [cut_ok h.2.1] at hp
  exact Nat.lt_of_le_of_lt (packN_le_wire h.2.1 hp) h.2.2
end Go.Proofs.YtijhpaejdchjgaaDoor
