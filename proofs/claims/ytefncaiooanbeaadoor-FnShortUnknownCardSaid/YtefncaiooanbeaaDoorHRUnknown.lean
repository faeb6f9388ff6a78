/-
  How the reference reads Unknown records; what is packed is found there.
-/
import Derived.Test.YtefncaiooanbeaaDoorBh
import Derived.Test.YtefncaiooanbeaaDoorHRdT
import Derived.Test.YtefncaiooanbeaaDoorHKUnknown
namespace Go.Proofs.YtefncaiooanbeaaDoor
open Go
set_option maxRecDepth 100000

theorem reads_Unknown : BodyReads unkK 13 (rawBA unkK.body) := by
  intro x hd t rb xb db off c at_ e w hh hba hok hfit hwf hc hbig h12 hae hel hlen
  obtain ⟨hraw, he⟩ := hba
  refine Spec.of Tryd.func103 rfl Tryd.ntmps103 rfl fun w0 hR => ?_
  obtain ⟨hcs, hne, hnx⟩ := hR
  have hout : db ∉ fp [rdB rb (.slice (some ⟨db, off, none⟩) (hd ++ t).length c) at_ w, .blk xb (startRec 13 x (unkK.typ x) (e - at_)).cells.toArray 83] := by simp [fp, rdB, Res.ats]; exact ⟨hne, hnx⟩
  have hml : (hd ++ t).length = 12 + t.length := by rw [List.length_append, hh]
  have hbl : unkK.body x = x.data := rfl
  rw [hbl] at hraw he
  have hpart : Cells w0 db (off + at_) (bytesV x.data) := part_bytes hcs (by rw [msg_drop hh h12]; exact hraw) (by omega)
  refine CodeJ.seq ?_
  refine CodeJ.seq ?_
  refine CodeJ.region ?_
  refine OpsJ.yld rfl rfl rfl (Yld.move rfl rfl) ?_
  refine OpsJ.yld rfl rfl rfl (Yld.nilCheck rfl rfl) ?_
  refine OpsJ.yld rfl rfl rfl (Yld.fieldAddr fa_83_5 rfl rfl) ?_
  refine OpsJ.yld rfl rfl rfl (Yld.load1 rfl Tryd.underlying3 rfl rfl (fun w hI => Inv.cell1 hI (i := 1) rfl rfl)) ?_
  refine OpsJ.nil ?_
  refine ExJ.thenN ?_
  refine CodeJ.block ?_
  refine CodeJ.seq ?_
  refine CodeJ.region ?_
  refine OpsJ.yld rfl rfl rfl (Yld.intBin rfl rfl rfl rfl) ?_
  refine OpsJ.yld rfl rfl rfl (Yld.assign rfl rfl) ?_
  refine OpsJ.nil ?_
  refine ExJ.thenN ?_
  refine CodeJ.condF rfl ?_
  refine CodeJ.seq ?_
  refine CodeJ.region ?_
  refine OpsJ.yld rfl rfl rfl (Yld.intBin rfl rfl rfl rfl) ?_
  refine OpsJ.yld rfl rfl rfl (Yld.assign rfl rfl) ?_
  refine OpsJ.nil ?_
  refine ExJ.thenN ?_
  refine CodeJ.condF rfl ?_
  refine CodeJ.seq ?_
  refine CodeJ.seq ?_
  refine CodeJ.region ?_
  refine OpsJ.yld rfl rfl rfl (Yld.intBin rfl rfl rfl rfl) ?_
  refine OpsJ.yld rfl rfl rfl (Yld.assign rfl rfl) ?_
  refine OpsJ.nil ?_
  refine ExJ.thenN ?_
  refine CodeJ.condF rfl ?_
  refine CodeJ.seq ?_
  refine CodeJ.region ?_
  refine OpsJ.yld rfl rfl rfl (Yld.intBin rfl rfl rfl rfl) ?_
  refine OpsJ.yld rfl rfl rfl (Yld.assign rfl rfl) ?_
  refine OpsJ.nil ?_
  refine ExJ.thenN ?_
  refine CodeJ.condF rfl ?_
  refine CodeJ.region ?_
  refine OpsJ.yld rfl rfl rfl (Yld.intBin rfl rfl rfl rfl) ?_
  refine OpsJ.yld rfl rfl rfl (Yld.assign rfl rfl) ?_
  refine OpsJ.nil ?_
  refine ExJ.thenN ?_
  refine CodeJ.condF rfl ?_
  refine CodeJ.seq ?_
  refine CodeJ.region ?_
  refine OpsJ.yld rfl rfl rfl (Yld.intBin rfl rfl rfl rfl) ?_
  refine OpsJ.yld rfl rfl rfl (Yld.assign rfl rfl) ?_
  refine OpsJ.nil ?_
  refine ExJ.thenN ?_
  refine CodeJ.condF rfl ?_
  refine CodeJ.seq ?_
  refine CodeJ.region ?_
  refine OpsJ.yld rfl rfl rfl (Yld.intBin rfl rfl rfl rfl) ?_
  refine OpsJ.yld rfl rfl rfl (Yld.assign rfl rfl) ?_
  refine OpsJ.nil ?_
  refine ExJ.thenN ?_
  refine CodeJ.condF rfl ?_
  refine CodeJ.seq ?_
  refine CodeJ.region ?_
  refine OpsJ.yld rfl rfl rfl (Yld.intBin rfl rfl rfl rfl) ?_
  refine OpsJ.yld rfl rfl rfl (Yld.assign rfl rfl) ?_
  refine OpsJ.nil ?_
  refine ExJ.thenN ?_
  refine CodeJ.condF rfl ?_
  refine CodeJ.seq ?_
  refine CodeJ.region ?_
  refine OpsJ.yld rfl rfl rfl (Yld.intBin rfl rfl rfl rfl) ?_
  refine OpsJ.yld rfl rfl rfl (Yld.assign rfl rfl) ?_
  refine OpsJ.nil ?_
  refine ExJ.thenN ?_
  refine CodeJ.condF rfl ?_
  refine CodeJ.seq ?_
  refine CodeJ.region ?_
  refine OpsJ.yld rfl rfl rfl (Yld.intBin rfl rfl rfl rfl) ?_
  refine OpsJ.yld rfl rfl rfl (Yld.assign rfl rfl) ?_
  refine OpsJ.nil ?_
  refine ExJ.thenN ?_
  refine CodeJ.condF rfl ?_
  refine CodeJ.seq ?_
  refine CodeJ.seq ?_
  refine CodeJ.region ?_
  refine OpsJ.yld rfl rfl rfl (Yld.intBin rfl rfl rfl rfl) ?_
  refine OpsJ.yld rfl rfl rfl (Yld.assign rfl rfl) ?_
  refine OpsJ.nil ?_
  refine ExJ.thenN ?_
  refine CodeJ.condF rfl ?_
  refine CodeJ.region ?_
  refine OpsJ.yld rfl rfl rfl (Yld.intBin rfl rfl rfl rfl) ?_
  refine OpsJ.yld rfl rfl rfl (Yld.assign rfl rfl) ?_
  refine OpsJ.nil ?_
  refine ExJ.thenN ?_
  refine CodeJ.condF rfl ?_
  refine CodeJ.region ?_
  refine OpsJ.yld rfl rfl rfl (Yld.move rfl rfl) ?_
  refine OpsJ.yld rfl rfl rfl (Yld.move rfl rfl) ?_
  refine OpsJ.yld rfl rfl rfl (Yld.move rfl rfl) ?_
  refine OpsJ.yld rfl rfl rfl (Yld.move rfl rfl) ?_
  refine OpsJ.yld rfl rfl rfl (Yld.nilCheck rfl rfl) ?_
  refine OpsJ.yld rfl rfl rfl (Yld.fieldAddr fa_135_1 rfl rfl) ?_
  refine OpsJ.yld rfl rfl rfl (Yld.load1 rfl Tryd.underlying3 rfl rfl (fun w hI => Inv.cell1 hI (i := 0) rfl rfl)) ?_
  refine OpsJ.yld rfl rfl rfl (Yld.intBin rfl rfl rfl rfl) ?_
  rw [i64_sub _ _ (by omega) (by omega), show e - at_ = x.data.length by omega]
  refine OpsJ.op rfl ?_
  refine OpJ.call (takeB_spec rb db off c at_ x.data (hd ++ t) w (by omega) hc hbig) has_98 rfl rfl rfl rfl rfl [0] [1] (by decide) rfl rfl (fun _ _ => trivial) ?_
  rintro t18 _ ⟨htook, rfl⟩
  refine OpsJ.op rfl ?_
  refine OpJ.buildSlice (xs := [.tmp 18]) elt_173 rfl rfl rfl rfl rfl rfl (by rcases htook with ⟨p, c, rfl, _⟩ | ⟨c, rfl⟩ <;> rfl) (by decide) fun parts hparts => ?_
  refine OpsJ.op rfl ?_
  refine OpJ.call (joined_spec _ [x.data] (by simp; omega) (by simp)) has_76 rfl rfl rfl rfl rfl [] [0, 1, 2] (by decide) rfl rfl (Inv.parts (i := 0) rfl rfl ⟨fun w hI => htook.bytes (hI.old hpart hout), trivial⟩) ?_
  rintro _ _ ⟨pj, cj, rfl, rfl⟩
  simp only [flat_one]
  refine OpsJ.yld rfl rfl rfl (Yld.nilCheck rfl rfl) ?_
  refine OpsJ.yld rfl rfl rfl (Yld.fieldAddr fa_83_6 rfl rfl) ?_
  refine OpsJ.op rfl ?_
  refine OpJ.store1 (i := 3) rfl rfl rfl rfl rfl sz_26 rfl rfl ?_
  refine OpsJ.nil ?_
  refine ExJ.blockN ?_
  refine ExJ.thenN ?_
  refine CodeJ.region ?_
  refine OpsJ.yld rfl rfl rfl (Yld.move rfl rfl) ?_
  refine OpsJ.yld rfl rfl rfl (Yld.move rfl rfl) ?_
  refine OpsJ.yld rfl rfl rfl (Yld.nilCheck rfl rfl) ?_
  refine OpsJ.yld rfl rfl rfl (Yld.fieldAddr fa_135_2 rfl rfl) ?_
  refine OpsJ.yld rfl rfl rfl (Yld.load1 rfl Tryd.underlying4 rfl rfl (fun w hI => Inv.cell1 hI (i := 2) rfl rfl)) ?_
  refine OpsJ.yld rfl rfl rfl (Yld.move rfl rfl) ?_
  refine OpsJ.splitB (s := 190) rfl (fun g190 => ?_) (fun g190 => ?_)
  · exact absurd g190 (by decide)
  · refine OpsJ.opT rfl rfl rfl ?_
    refine OpJ.yld rfl rfl (Yld.move rfl rfl) ?_
    refine OpsJ.opT rfl rfl rfl ?_
    refine OpJ.yld rfl rfl (Yld.nilCheck rfl rfl) ?_
    refine OpsJ.opT rfl rfl rfl ?_
    refine OpJ.yld rfl rfl (Yld.fieldAddr fa_135_1 rfl rfl) ?_
    refine OpsJ.opT rfl rfl rfl ?_
    refine OpJ.yld rfl rfl (Yld.load1 rfl Tryd.underlying3 rfl rfl (fun w hI => Inv.cell1 hI (i := 2) rfl rfl)) ?_
    refine OpsJ.opT rfl rfl rfl ?_
    refine OpJ.yld rfl rfl (Yld.move rfl rfl) ?_
    refine OpsJ.opT rfl rfl rfl ?_
    refine OpJ.yld rfl rfl (Yld.intBin rfl rfl rfl rfl) ?_
    rw [← he, show (((e : Nat) : Int) != ((e : Nat) : Int)) = false by simp]
    refine OpsJ.yld rfl rfl rfl (Yld.pickF rfl rfl rfl) ?_
    refine OpsJ.yld rfl rfl rfl (Yld.nilCheck rfl rfl) ?_
    refine OpsJ.yld rfl rfl rfl (Yld.fieldAddr fa_135_2 rfl rfl) ?_
    refine OpsJ.op rfl ?_
    refine OpJ.store1 (i := 2) rfl rfl rfl rfl rfl sz_4 rfl rfl ?_
    refine OpsJ.nil ?_
    refine ExJ.endN ?_
    refine ExJ.retOf (v := .tuple #[]) (fun a w hE hI => by simp [results, Tryd.results103]) ⟨w, { startRec 13 x x.typ x.data.length with dataV := .slice pj x.data.length cj, data := x.data }, _, _, _, rfl, fun w hw => ⟨Own.bytes hw.1, .inl ⟨none, 0, rfl, rfl, rfl⟩, .inl ⟨none, 0, rfl, rfl, rfl⟩, fun p hp => by cases hp⟩, ?_⟩ fun w hI => (Inv.seal (hI.pick (is := [0, 2, 3]) (by decide) rfl)).pick (is := [1, 2, 0]) (by decide) rfl
    exact ⟨rfl, hok, rfl, ⟨by simp [startRec, zRec], by simp [startRec, zRec], hfit.data, by simp [startRec, zRec], by simp [startRec, zRec], by simp [startRec, zRec], by simp [startRec, zRec]⟩, rfl⟩
end Go.Proofs.YtefncaiooanbeaaDoor
