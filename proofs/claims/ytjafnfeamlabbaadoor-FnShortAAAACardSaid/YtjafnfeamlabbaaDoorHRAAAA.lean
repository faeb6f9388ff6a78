/-
  How the reference reads AAAA records; what is packed is found there.
-/
import Derived.Test.YtjafnfeamlabbaaDoorBh
import Derived.Test.YtjafnfeamlabbaaDoorHLAAAA
namespace Go.Proofs.YtjafnfeamlabbaaDoor
open Go
set_option maxRecDepth 100000

theorem reads_AAAA : BodyReads (fixK 16 28) 8 (rawBA (fixK 16 28).body) := by
  intro x hd t rb xb db off c at_ e w hh hba hok hfit hwf hc hbig h12 hae hel hlen
  obtain ⟨hraw, he⟩ := hba
  have hlb : ((fixK 16 28).body x).length = 16 := fixN_len _ _
  rw [hlb] at hraw he
  refine Spec.of Tryd.func101 rfl Tryd.ntmps101 rfl fun w0 hR => ?_
  obtain ⟨hcs, hne, hnx⟩ := hR
  have hout : db ∉ fp [rdB rb (.slice (some ⟨db, off, none⟩) (hd ++ t).length c) at_ w, .blk xb (startRec 8 x ((fixK 16 28).typ x) (e - at_)).cells.toArray 89] := by simp [fp, rdB, Res.ats]; exact ⟨hne, hnx⟩
  have hml : (hd ++ t).length = 12 + t.length := by rw [List.length_append, hh]
  have hpart : Cells w0 db (off + at_) (bytesV (fixN 16 x.data)) := part_bytes hcs (by rw [fixN_len, msg_drop hh h12]; exact hraw) (by rw [fixN_len]; omega)
  subst he
  refine CodeJ.seq ?_
  refine CodeJ.seq ?_
  refine CodeJ.region ?_
  refine OpsJ.yld rfl rfl rfl (Yld.move rfl rfl) ?_
  refine OpsJ.yld rfl rfl rfl (Yld.nilCheck rfl rfl) ?_
  refine OpsJ.yld rfl rfl rfl (Yld.fieldAddr fa_89_5 rfl rfl) ?_
  refine OpsJ.yld rfl rfl rfl (Yld.load1 rfl Tryd.underlying3 rfl rfl (fun w hI => Inv.cell1 hI (i := 1) rfl rfl)) ?_
  refine OpsJ.nil ?_
  refine ExJ.thenN ?_
  refine CodeJ.block ?_
  refine CodeJ.seq ?_
  refine CodeJ.region ?_
  refine OpsJ.yld rfl rfl rfl (Yld.intBin rfl rfl rfl rfl) ?_
  refine OpsJ.yld rfl rfl rfl (Yld.assign rfl rfl) ?_
  refine OpsJ.nil ?_
  refine ExJ.thenN ?_
  refine CodeJ.condF rfl ?_
  refine CodeJ.seq ?_
  refine CodeJ.region ?_
  refine OpsJ.yld rfl rfl rfl (Yld.intBin rfl rfl rfl rfl) ?_
  refine OpsJ.yld rfl rfl rfl (Yld.assign rfl rfl) ?_
  refine OpsJ.nil ?_
  refine ExJ.thenN ?_
  refine CodeJ.condT rfl ?_
  refine CodeJ.region ?_
  refine OpsJ.yld rfl rfl rfl (Yld.move rfl rfl) ?_
  refine OpsJ.yld rfl rfl rfl (Yld.move rfl rfl) ?_
  refine OpsJ.op rfl ?_
  refine OpJ.call (take_spec rb db off c at_ 16 (hd ++ t) w (by decide) (by omega) hc hbig) has_87 rfl rfl rfl rfl rfl [0] [1] (by decide) rfl rfl (fun _ _ => trivial) ?_
  rintro _ _ ⟨rfl, rfl⟩
  refine OpsJ.op rfl ?_
  refine OpJ.buildSlice (xs := [.tmp 36]) elt_174 rfl rfl rfl rfl rfl rfl (by rfl) (by decide) fun parts hparts => ?_
  refine OpsJ.op rfl ?_
  refine OpJ.call (joined_spec _ [fixN 16 x.data] (by simp [fixN_len]) (by simp)) has_78 rfl rfl rfl rfl rfl [] [0, 1, 2] (by decide) rfl rfl (Inv.parts (i := 0) rfl rfl ⟨fun w hI => .inr ⟨db, off + at_, c - at_, by rw [fixN_len], hI.old hpart hout⟩, trivial⟩) ?_
  rintro _ _ ⟨pj, cj, rfl, rfl⟩
  simp only [flat_one]
  refine OpsJ.yld rfl rfl rfl (Yld.nilCheck rfl rfl) ?_
  refine OpsJ.yld rfl rfl rfl (Yld.fieldAddr fa_89_6 rfl rfl) ?_
  refine OpsJ.op rfl ?_
  refine OpJ.store1 (i := 3) rfl rfl rfl rfl rfl sz_26 rfl rfl ?_
  refine OpsJ.nil ?_
  refine ExJ.blockN ?_
  refine ExJ.thenN ?_
  refine CodeJ.region ?_
  refine OpsJ.yld rfl rfl rfl (Yld.move rfl rfl) ?_
  refine OpsJ.yld rfl rfl rfl (Yld.move rfl rfl) ?_
  refine OpsJ.yld rfl rfl rfl (Yld.nilCheck rfl rfl) ?_
  refine OpsJ.yld rfl rfl rfl (Yld.fieldAddr fa_105_2 rfl rfl) ?_
  refine OpsJ.yld rfl rfl rfl (Yld.load1 rfl Tryd.underlying4 rfl rfl (fun w hI => Inv.cell1 hI (i := 2) rfl rfl)) ?_
  refine OpsJ.yld rfl rfl rfl (Yld.move rfl rfl) ?_
  refine OpsJ.splitB (s := 190) rfl (fun g190 => ?_) (fun g190 => ?_)
  · exact absurd g190 (by decide)
  · refine OpsJ.opT rfl rfl rfl ?_
    refine OpJ.yld rfl rfl (Yld.move rfl rfl) ?_
    refine OpsJ.opT rfl rfl rfl ?_
    refine OpJ.yld rfl rfl (Yld.nilCheck rfl rfl) ?_
    refine OpsJ.opT rfl rfl rfl ?_
    refine OpJ.yld rfl rfl (Yld.fieldAddr fa_105_1 rfl rfl) ?_
    refine OpsJ.opT rfl rfl rfl ?_
    refine OpJ.yld rfl rfl (Yld.load1 rfl Tryd.underlying3 rfl rfl (fun w hI => Inv.cell1 hI (i := 2) rfl rfl)) ?_
    refine OpsJ.opT rfl rfl rfl ?_
    refine OpJ.yld rfl rfl (Yld.move rfl rfl) ?_
    refine OpsJ.opT rfl rfl rfl ?_
    refine OpJ.yld rfl rfl (Yld.intBin rfl rfl rfl rfl) ?_
    rw [show (((at_ + 16 : Nat) : Int) != ((at_ + 16 : Nat) : Int)) = false by simp]
    refine OpsJ.yld rfl rfl rfl (Yld.pickF rfl rfl rfl) ?_
    refine OpsJ.yld rfl rfl rfl (Yld.nilCheck rfl rfl) ?_
    refine OpsJ.yld rfl rfl rfl (Yld.fieldAddr fa_105_2 rfl rfl) ?_
    refine OpsJ.op rfl ?_
    refine OpJ.store1 (i := 2) rfl rfl rfl rfl rfl sz_4 rfl rfl ?_
    refine OpsJ.nil ?_
    refine ExJ.endN ?_
    refine ExJ.retOf (v := .tuple #[]) (fun a w hE hI => by simp [results, Tryd.results101]) ⟨w, { startRec 8 x ((fixK 16 28).typ x) (at_ + 16 - at_) with dataV := .slice pj (fixN 16 x.data).length cj, data := fixN 16 x.data }, _, _, _, rfl, fun w hw => ⟨Own.bytes hw.1, .inl ⟨none, 0, rfl, rfl, rfl⟩, .inl ⟨none, 0, rfl, rfl, rfl⟩, fun p hp => by cases hp⟩, ?_⟩ fun w hI => (Inv.seal (hI.pick (is := [0, 2, 3]) (by decide) rfl)).pick (is := [1, 2, 0]) (by decide) rfl
    refine ⟨rfl, ?_, ?_, ⟨by simp [startRec, zRec], by simp [startRec, zRec], by simp [startRec, zRec, fixN_len], by simp [startRec, zRec], by simp [startRec, zRec], by simp [startRec, zRec], by simp [startRec, zRec]⟩, rfl⟩
    · show (nameOk x.name.data.toList && (true && decide ((fixN 16 (fixN 16 x.data)).length < 65536))) = true
      rw [fixN_fixN]
      exact hok
    · have e1 : (fixK 16 28).body { startRec 8 x ((fixK 16 28).typ x) (at_ + 16 - at_) with dataV := .slice pj (fixN 16 x.data).length cj, data := fixN 16 x.data } = (fixK 16 28).body x := fixN_fixN _ _
      unfold Kind.recWire
      rw [e1]
      rfl
theorem recShort_AAAA {x : RecD} (hwf : x.wf) (hok : (fixK 16 28).recOk x = true) : RecShort (fixK 16 28) (rawBA (fixK 16 28).body) aaaaAdder x := by
  have h := okn_AAAA hok
  refine rec_short hwf h.1 rfl trivial (fun on base m zs m' hp => ?_) (raw_short fun _ _ _ => rfl)
  have hp : rawP base on (fixN 16 x.data) m = .ok zs m' := hp
  injection hp with h1 h2
  subst h1
  exact h.2
end Go.Proofs.YtjafnfeamlabbaaDoor
