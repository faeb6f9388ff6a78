/-
  How the reference reads SOA records; what is packed is found there.
-/
import Derived.Test.YtjafnfeamlabbaaDoorBh
import Derived.Test.YtjafnfeamlabbaaDoorHLSOA
namespace Go.Proofs.YtjafnfeamlabbaaDoor
open Go
set_option maxRecDepth 100000

def soaBA : BodyAt := fun t at_ e x => ∃ k1 ls1 w1 a1 k2 ls2 w2 a2, RdN t k1 at_ at_ ls1 a1 w1 ∧ x.host.data.toList = nameTxt ls1 ∧ RdN t k2 a1 a1 ls2 a2 w2 ∧ x.box.data.toList = nameTxt ls2 ∧ e = a2 + 4 + 4 + 4 + 4 + 4 ∧ (t.drop (a2 - 12)).take 20 = nums20 x
theorem soaBA_grows : soaBA.Grows := fun _ u _ _ _ ⟨k1, ls1, w1, a1, k2, ls2, w2, a2, h1, h2, h3, h4, h5, h6⟩ => ⟨k1, ls1, w1, a1, k2, ls2, w2, a2, h1.app u, h2, h3.app u, h4, h5, part_app u h6 rfl⟩
theorem name_short {s : ByteArray} {ls : List (List UInt8)} (h : nameOk s.data.toList = true) (he : s.data.toList = nameTxt ls) : (txt ls).length ≤ 1000000 := by
  have h1 := nameTxt_txt ls
  rw [← he] at h1
  have := (nameOk_pname h).le
  omega
theorem reads_SOA : BodyReads soaK 4 soaBA := by
  intro x hd t rb xb db off c at_ e w hh hba hok hfit hwf hc hbig h12 hae hel hlen
  obtain ⟨k1, ls1, W1, a1, k2, ls2, W2, a2, hrd1, hhost, hrd2, hbox, he, hnums⟩ := hba
  subst he
  refine Spec.of Tryd.func101 rfl Tryd.ntmps101 rfl fun w0 hR => ?_
  obtain ⟨hcs, hne, hnx⟩ := hR
  have hout : db ∉ fp [rdB rb (.slice (some ⟨db, off, none⟩) (hd ++ t).length c) at_ w, .blk xb (startRec 4 x (soaK.typ x) (a2 + 4 + 4 + 4 + 4 + 4 - at_)).cells.toArray 89] := by simp [fp, rdB, Res.ats]; exact ⟨hne, hnx⟩
  have hnm1 : strV (nameTxt ls1) = .string x.host := by rw [← hhost]; exact congrArg Value.string (str_eta x.host)
  have hnm2 : strV (nameTxt ls2) = .string x.box := by rw [← hbox]; exact congrArg Value.string (str_eta x.box)
  have hk := okn_SOA hok
  have hts1 := name_short hk.2.1 hhost
  have hts2 := name_short hk.2.2.1 hbox
  have hl1 := hrd1.at_lt
  have hl2 := hrd2.at_lt
  have hml : (hd ++ t).length = 12 + t.length := by rw [List.length_append, hh]
  have hparts : ((hd ++ t).drop a2).take 20 = nums20 x := by rw [msg_drop hh (by omega)]; exact hnums
  have q0 : ((hd ++ t).drop a2).take 4 = b4 x.n1 := by
    have := congrArg (fun l => l.take 4) hparts
    simp only [List.take_take] at this
    exact this
  have q1 : ((hd ++ t).drop (a2 + 4)).take 4 = b4 x.n2 := by
    have := congrArg (fun l => (List.drop 4 l).take 4) hparts
    simp only [List.drop_take, List.drop_drop, List.take_take] at this
    exact this
  have q2 : ((hd ++ t).drop (a2 + 4 + 4)).take 4 = b4 x.n3 := by
    have := congrArg (fun l => (List.drop 8 l).take 4) hparts
    simp only [List.drop_take, List.drop_drop, List.take_take] at this
    exact this
  have q3 : ((hd ++ t).drop (a2 + 4 + 4 + 4)).take 4 = b4 x.n4 := by
    have := congrArg (fun l => (List.drop 12 l).take 4) hparts
    simp only [List.drop_take, List.drop_drop, List.take_take] at this
    exact this
  have q4 : ((hd ++ t).drop (a2 + 4 + 4 + 4 + 4)).take 4 = b4 x.n5 := by
    have := congrArg (fun l => (List.drop 16 l).take 4) hparts
    simp only [List.drop_take, List.drop_drop, List.take_take] at this
    exact this
  refine CodeJ.seq ?_
  refine CodeJ.seq ?_
  refine CodeJ.region ?_
  refine OpsJ.yld rfl rfl rfl (Yld.move rfl rfl) ?_
  refine OpsJ.yld rfl rfl rfl (Yld.nilCheck rfl rfl) ?_
  refine OpsJ.yld rfl rfl rfl (Yld.fieldAddr fa_89_5 rfl rfl) ?_
  refine OpsJ.yld rfl rfl rfl (Yld.load1 rfl Tryd.underlying3 rfl rfl (fun w hI => Inv.cell1 hI (i := 1) rfl rfl)) ?_
  refine OpsJ.nil ?_
  refine ExJ.thenN ?_
  refine CodeJ.block ?_
  refine CodeJ.seq ?_
  refine CodeJ.region ?_
  refine OpsJ.yld rfl rfl rfl (Yld.intBin rfl rfl rfl rfl) ?_
  refine OpsJ.yld rfl rfl rfl (Yld.assign rfl rfl) ?_
  refine OpsJ.nil ?_
  refine ExJ.thenN ?_
  refine CodeJ.condF rfl ?_
  refine CodeJ.seq ?_
  refine CodeJ.region ?_
  refine OpsJ.yld rfl rfl rfl (Yld.intBin rfl rfl rfl rfl) ?_
  refine OpsJ.yld rfl rfl rfl (Yld.assign rfl rfl) ?_
  refine OpsJ.nil ?_
  refine ExJ.thenN ?_
  refine CodeJ.condF rfl ?_
  refine CodeJ.seq ?_
  refine CodeJ.seq ?_
  refine CodeJ.region ?_
  refine OpsJ.yld rfl rfl rfl (Yld.intBin rfl rfl rfl rfl) ?_
  refine OpsJ.yld rfl rfl rfl (Yld.assign rfl rfl) ?_
  refine OpsJ.nil ?_
  refine ExJ.thenN ?_
  refine CodeJ.condF rfl ?_
  refine CodeJ.seq ?_
  refine CodeJ.region ?_
  refine OpsJ.yld rfl rfl rfl (Yld.intBin rfl rfl rfl rfl) ?_
  refine OpsJ.yld rfl rfl rfl (Yld.assign rfl rfl) ?_
  refine OpsJ.nil ?_
  refine ExJ.thenN ?_
  refine CodeJ.condF rfl ?_
  refine CodeJ.region ?_
  refine OpsJ.yld rfl rfl rfl (Yld.intBin rfl rfl rfl rfl) ?_
  refine OpsJ.yld rfl rfl rfl (Yld.assign rfl rfl) ?_
  refine OpsJ.nil ?_
  refine ExJ.thenN ?_
  refine CodeJ.condF rfl ?_
  refine CodeJ.seq ?_
  refine CodeJ.region ?_
  refine OpsJ.yld rfl rfl rfl (Yld.intBin rfl rfl rfl rfl) ?_
  refine OpsJ.yld rfl rfl rfl (Yld.assign rfl rfl) ?_
  refine OpsJ.nil ?_
  refine ExJ.thenN ?_
  refine CodeJ.condF rfl ?_
  refine CodeJ.seq ?_
  refine CodeJ.region ?_
  refine OpsJ.yld rfl rfl rfl (Yld.intBin rfl rfl rfl rfl) ?_
  refine OpsJ.yld rfl rfl rfl (Yld.assign rfl rfl) ?_
  refine OpsJ.nil ?_
  refine ExJ.thenN ?_
  refine CodeJ.condT rfl ?_
  refine CodeJ.seq ?_
  refine CodeJ.region ?_
  refine OpsJ.yld rfl rfl rfl (Yld.move rfl rfl) ?_
  refine OpsJ.yld rfl rfl rfl (Yld.move rfl rfl) ?_
  refine OpsJ.yld rfl rfl rfl (Yld.move rfl rfl) ?_
  refine OpsJ.op rfl ?_
  refine OpJ.call (rdName rb db off c k1 at_ a1 hd t hh ls1 w W1 hrd1 hc hbig hts1) has_50 rfl rfl rfl rfl rfl [0] [1] (by decide) rfl rfl (fun w hI => ⟨hI.old hcs hout, hne⟩) ?_
  rintro _ _ ⟨rfl, rfl⟩
  rw [hnm1]
  refine OpsJ.yld rfl rfl rfl (Yld.move rfl rfl) ?_
  refine OpsJ.op rfl ?_
  refine OpJ.call (rdName rb db off c k2 a1 a2 hd t hh ls2 (w && W1) W2 hrd2 hc hbig hts2) has_50 rfl rfl rfl rfl rfl [0] [1] (by decide) rfl rfl (fun w hI => ⟨hI.old hcs hout, hne⟩) ?_
  rintro _ _ ⟨rfl, rfl⟩
  rw [hnm2]
  refine OpsJ.yld rfl rfl rfl (Yld.nilCheck rfl rfl) ?_
  refine OpsJ.yld rfl rfl rfl (Yld.fieldAddr fa_89_7 rfl rfl) ?_
  refine OpsJ.op rfl ?_
  refine OpJ.store1' (i := 1) (cs' := ({ startRec 4 x (soaK.typ x) (a2 + 4 + 4 + 4 + 4 + 4 - at_) with host := x.host } : RecD).cells.toArray) rfl rfl rfl rfl rfl sz_9 rfl rfl rfl ?_
  refine OpsJ.yld rfl rfl rfl (Yld.nilCheck rfl rfl) ?_
  refine OpsJ.yld rfl rfl rfl (Yld.fieldAddr fa_89_8 rfl rfl) ?_
  refine OpsJ.op rfl ?_
  refine OpJ.store1' (i := 1) (cs' := ({ startRec 4 x (soaK.typ x) (a2 + 4 + 4 + 4 + 4 + 4 - at_) with host := x.host, box := x.box } : RecD).cells.toArray) rfl rfl rfl rfl rfl sz_9 rfl rfl rfl ?_
  refine OpsJ.nil ?_
  refine ExJ.thenN ?_
  refine CodeJ.region ?_
  refine OpsJ.yld rfl rfl rfl (Yld.move rfl rfl) ?_
  refine OpsJ.yld rfl rfl rfl (Yld.move rfl rfl) ?_
  refine OpsJ.yld rfl rfl rfl (Yld.move rfl rfl) ?_
  refine OpsJ.yld rfl rfl rfl (Yld.move rfl rfl) ?_
  refine OpsJ.yld rfl rfl rfl (Yld.move rfl rfl) ?_
  refine OpsJ.yld rfl rfl rfl (Yld.move rfl rfl) ?_
  refine OpsJ.op rfl ?_
  refine OpJ.call (rdFour rb db off c (a2) x.n1 (hd ++ t) (w && W1 && W2) hwf.n1 q0 (by omega) hc hbig) has_100 rfl rfl rfl rfl rfl [0] [1] (by decide) rfl rfl (fun w hI => ⟨hI.old hcs hout, hne⟩) ?_
  rintro _ _ ⟨rfl, rfl⟩
  refine OpsJ.yld rfl rfl rfl (Yld.move rfl rfl) ?_
  refine OpsJ.op rfl ?_
  refine OpJ.call (rdFour rb db off c (a2 + 4) x.n2 (hd ++ t) (w && W1 && W2) hwf.n2 q1 (by omega) hc hbig) has_100 rfl rfl rfl rfl rfl [0] [1] (by decide) rfl rfl (fun w hI => ⟨hI.old hcs hout, hne⟩) ?_
  rintro _ _ ⟨rfl, rfl⟩
  refine OpsJ.yld rfl rfl rfl (Yld.move rfl rfl) ?_
  refine OpsJ.op rfl ?_
  refine OpJ.call (rdFour rb db off c (a2 + 4 + 4) x.n3 (hd ++ t) (w && W1 && W2) hwf.n3 q2 (by omega) hc hbig) has_100 rfl rfl rfl rfl rfl [0] [1] (by decide) rfl rfl (fun w hI => ⟨hI.old hcs hout, hne⟩) ?_
  rintro _ _ ⟨rfl, rfl⟩
  refine OpsJ.yld rfl rfl rfl (Yld.move rfl rfl) ?_
  refine OpsJ.op rfl ?_
  refine OpJ.call (rdFour rb db off c (a2 + 4 + 4 + 4) x.n4 (hd ++ t) (w && W1 && W2) hwf.n4 q3 (by omega) hc hbig) has_100 rfl rfl rfl rfl rfl [0] [1] (by decide) rfl rfl (fun w hI => ⟨hI.old hcs hout, hne⟩) ?_
  rintro _ _ ⟨rfl, rfl⟩
  refine OpsJ.yld rfl rfl rfl (Yld.move rfl rfl) ?_
  refine OpsJ.op rfl ?_
  refine OpJ.call (rdFour rb db off c (a2 + 4 + 4 + 4 + 4) x.n5 (hd ++ t) (w && W1 && W2) hwf.n5 q4 (by omega) hc hbig) has_100 rfl rfl rfl rfl rfl [0] [1] (by decide) rfl rfl (fun w hI => ⟨hI.old hcs hout, hne⟩) ?_
  rintro _ _ ⟨rfl, rfl⟩
  refine OpsJ.yld rfl rfl rfl (Yld.nilCheck rfl rfl) ?_
  refine OpsJ.yld rfl rfl rfl (Yld.fieldAddr fa_89_9 rfl rfl) ?_
  refine OpsJ.op rfl ?_
  refine OpJ.store1' (i := 1) (cs' := ({ startRec 4 x (soaK.typ x) (a2 + 4 + 4 + 4 + 4 + 4 - at_) with host := x.host, box := x.box, n1 := x.n1 } : RecD).cells.toArray) rfl rfl rfl rfl rfl sz_25 rfl rfl rfl ?_
  refine OpsJ.yld rfl rfl rfl (Yld.nilCheck rfl rfl) ?_
  refine OpsJ.yld rfl rfl rfl (Yld.fieldAddr fa_89_10 rfl rfl) ?_
  refine OpsJ.op rfl ?_
  refine OpJ.store1' (i := 1) (cs' := ({ startRec 4 x (soaK.typ x) (a2 + 4 + 4 + 4 + 4 + 4 - at_) with host := x.host, box := x.box, n1 := x.n1, n2 := x.n2 } : RecD).cells.toArray) rfl rfl rfl rfl rfl sz_25 rfl rfl rfl ?_
  refine OpsJ.yld rfl rfl rfl (Yld.nilCheck rfl rfl) ?_
  refine OpsJ.yld rfl rfl rfl (Yld.fieldAddr fa_89_11 rfl rfl) ?_
  refine OpsJ.op rfl ?_
  refine OpJ.store1' (i := 1) (cs' := ({ startRec 4 x (soaK.typ x) (a2 + 4 + 4 + 4 + 4 + 4 - at_) with host := x.host, box := x.box, n1 := x.n1, n2 := x.n2, n3 := x.n3 } : RecD).cells.toArray) rfl rfl rfl rfl rfl sz_25 rfl rfl rfl ?_
  refine OpsJ.yld rfl rfl rfl (Yld.nilCheck rfl rfl) ?_
  refine OpsJ.yld rfl rfl rfl (Yld.fieldAddr fa_89_12 rfl rfl) ?_
  refine OpsJ.op rfl ?_
  refine OpJ.store1' (i := 1) (cs' := ({ startRec 4 x (soaK.typ x) (a2 + 4 + 4 + 4 + 4 + 4 - at_) with host := x.host, box := x.box, n1 := x.n1, n2 := x.n2, n3 := x.n3, n4 := x.n4 } : RecD).cells.toArray) rfl rfl rfl rfl rfl sz_25 rfl rfl rfl ?_
  refine OpsJ.yld rfl rfl rfl (Yld.nilCheck rfl rfl) ?_
  refine OpsJ.yld rfl rfl rfl (Yld.fieldAddr fa_89_13 rfl rfl) ?_
  refine OpsJ.op rfl ?_
  refine OpJ.store1' (i := 1) (cs' := ({ startRec 4 x (soaK.typ x) (a2 + 4 + 4 + 4 + 4 + 4 - at_) with host := x.host, box := x.box, n1 := x.n1, n2 := x.n2, n3 := x.n3, n4 := x.n4, n5 := x.n5 } : RecD).cells.toArray) rfl rfl rfl rfl rfl sz_25 rfl rfl rfl ?_
  refine OpsJ.nil ?_
  refine ExJ.blockN ?_
  refine ExJ.thenN ?_
  refine CodeJ.region ?_
  refine OpsJ.yld rfl rfl rfl (Yld.move rfl rfl) ?_
  refine OpsJ.yld rfl rfl rfl (Yld.move rfl rfl) ?_
  refine OpsJ.yld rfl rfl rfl (Yld.nilCheck rfl rfl) ?_
  refine OpsJ.yld rfl rfl rfl (Yld.fieldAddr fa_105_2 rfl rfl) ?_
  refine OpsJ.yld rfl rfl rfl (Yld.load1 rfl Tryd.underlying4 rfl rfl (fun w hI => Inv.cell1 hI (i := 0) rfl rfl)) ?_
  refine OpsJ.yld rfl rfl rfl (Yld.move rfl rfl) ?_
  refine OpsJ.splitB (s := 190) rfl (fun g190 => ?_) (fun g190 => ?_)
  · exact absurd g190 (by decide)
  · refine OpsJ.opT rfl rfl rfl ?_
    refine OpJ.yld rfl rfl (Yld.move rfl rfl) ?_
    refine OpsJ.opT rfl rfl rfl ?_
    refine OpJ.yld rfl rfl (Yld.nilCheck rfl rfl) ?_
    refine OpsJ.opT rfl rfl rfl ?_
    refine OpJ.yld rfl rfl (Yld.fieldAddr fa_105_1 rfl rfl) ?_
    refine OpsJ.opT rfl rfl rfl ?_
    refine OpJ.yld rfl rfl (Yld.load1 rfl Tryd.underlying3 rfl rfl (fun w hI => Inv.cell1 hI (i := 0) rfl rfl)) ?_
    refine OpsJ.opT rfl rfl rfl ?_
    refine OpJ.yld rfl rfl (Yld.move rfl rfl) ?_
    refine OpsJ.opT rfl rfl rfl ?_
    refine OpJ.yld rfl rfl (Yld.intBin rfl rfl rfl rfl) ?_
    rw [show (((a2 + 4 + 4 + 4 + 4 + 4 : Nat) : Int) != ((a2 + 4 + 4 + 4 + 4 + 4 : Nat) : Int)) = false by simp]
    refine OpsJ.yld rfl rfl rfl (Yld.pickF rfl rfl rfl) ?_
    refine OpsJ.yld rfl rfl rfl (Yld.nilCheck rfl rfl) ?_
    refine OpsJ.yld rfl rfl rfl (Yld.fieldAddr fa_105_2 rfl rfl) ?_
    refine OpsJ.op rfl ?_
    refine OpJ.store1 (i := 0) rfl rfl rfl rfl rfl sz_4 rfl rfl ?_
    refine OpsJ.nil ?_
    refine ExJ.endN ?_
    refine ExJ.retOf (v := .tuple #[]) (fun a w hE hI => by simp [results, Tryd.results101]) ⟨w && W1 && W2, { startRec 4 x (soaK.typ x) (a2 + 4 + 4 + 4 + 4 + 4 - at_) with host := x.host, box := x.box, n1 := x.n1, n2 := x.n2, n3 := x.n3, n4 := x.n4, n5 := x.n5 }, fun _ => True, [], fun _ _ _ _ => trivial, rfl, fun w _ => ⟨.inl ⟨none, 0, rfl, rfl⟩, .inl ⟨none, 0, rfl, rfl, rfl⟩, .inl ⟨none, 0, rfl, rfl, rfl⟩, fun p hp => by cases hp⟩, ?_⟩ fun w hI => (hI.roNil (p := fun _ => True) (fun _ => trivial)).pick (is := [1, 2, 0]) (by decide) rfl
    exact ⟨rfl, hok, rfl, ⟨hfit.host, hfit.box, by simp [startRec, zRec], by simp [startRec, zRec], by simp [startRec, zRec], by simp [startRec, zRec], by simp [startRec, zRec]⟩, rfl⟩
theorem bodyShort_SOA {x : RecD} (h1 : nameOk x.host.data.toList = true) (h2 : nameOk x.box.data.toList = true) : BodyShort soaK soaBA soaPk x := by
  intro on t m hm
  obtain ⟨ys, m1, hp1⟩ := packN_ok (12 + t.length) on x.host.data.toList m h1
  obtain ⟨⟨k1, ls1, w1, hname1, _, hrd1⟩, hg1⟩ := packN_read t on _ h1 m ys m1 hp1 hm
  obtain ⟨zs, m2, hp2⟩ := packN_ok (12 + (t ++ ys).length) on x.box.data.toList m1 h2
  obtain ⟨⟨k2, ls2, w2, hname2, _, hrd2⟩, hg2⟩ := packN_read (t ++ ys) on _ h2 m1 zs m2 hp2 hg1
  have el : 12 + (t ++ ys).length = 12 + t.length + ys.length := by rw [List.length_append]; omega
  have e : t ++ (ys ++ zs ++ nums20 x) = t ++ ys ++ zs ++ nums20 x := by simp [List.append_assoc]
  refine ⟨ys ++ zs ++ nums20 x, m2, ?_, ⟨k1, ls1, w1, 12 + (t ++ ys).length, k2, ls2, w2, 12 + (t ++ ys).length + zs.length, ?_, hname1, ?_, hname2, ?_, ?_⟩, ?_, ?_⟩
  · show soaP _ on (cut255 x.host) (cut255 x.box) x m = _
    rw [cut_ok h1, cut_ok h2]
    rw [el] at hp2
    simp only [soaP, hp1, hp2]
  · rw [e, el]
    exact (hrd1.app zs).app _
  · rw [e]
    exact hrd2.app _
  · simp only [List.length_append, nums20_len]
    omega
  · rw [e, show 12 + (t ++ ys).length + zs.length - 12 = (t ++ ys ++ zs).length by simp only [List.length_append]; omega, List.drop_left' rfl]
    rfl
  · intro y hy
    rw [e]
    exact (hg2 y hy).app _
  · show (ys ++ zs ++ nums20 x).length ≤ (wire x.host.data.toList ++ wire x.box.data.toList ++ nums20 x).length
    have := packN_le_wire h1 hp1
    have := packN_le_wire h2 hp2
    simp only [List.length_append]
    omega
theorem recShort_SOA {x : RecD} (hwf : x.wf) (hok : soaK.recOk x = true) : RecShort soaK soaBA soaAdder x := by
  have h := okn_SOA hok
  refine rec_short hwf h.1 rfl (soa_pok h.2.1 h.2.2.1) (fun on base m zs m' hp => ?_) (bodyShort_SOA h.2.1 h.2.2.1)
  have hp : soaP base on (cut255 x.host) (cut255 x.box) x m = .ok zs m' := hp
  rw [cut_ok h.2.1, cut_ok h.2.2.1] at hp
  simp only [soaP] at hp
  split at hp
  · cases hp
  · next ys m1 hq1 =>
    split at hp
    · cases hp
    · next us m2 hq2 =>
      injection hp with e1 e2
      subst e1
      have h3 := packN_le_wire h.2.1 hq1
      have h5 := packN_le_wire h.2.2.1 hq2
      have h4 : (wire x.host.data.toList ++ wire x.box.data.toList ++ nums20 x).length < 65536 := h.2.2.2
      simp only [List.length_append] at h4 ⊢
      omega
end Go.Proofs.YtjafnfeamlabbaaDoor
