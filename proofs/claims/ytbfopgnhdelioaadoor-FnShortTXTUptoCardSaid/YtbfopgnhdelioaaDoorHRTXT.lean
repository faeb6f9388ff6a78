/-
  How the reference reads TXT records; what is packed is found there.
-/
import Derived.Test.YtbfopgnhdelioaaDoorBh
import Derived.Test.YtbfopgnhdelioaaDoorHRdT
import Derived.Test.YtbfopgnhdelioaaDoorHKTXT
namespace Go.Proofs.YtbfopgnhdelioaaDoor
open Go
set_option maxRecDepth 100000

theorem textsW_drop {ts : List ByteArray} {j : Nat} {s : ByteArray} (h : ts[j]? = some s) : textsW (ts.drop j) = textW s ++ textsW (ts.drop (j + 1)) := by
  have hj := (List.getElem?_eq_some_iff.1 h)
  rw [List.drop_eq_getElem_cons hj.1, hj.2, textsW_cons]
/-- a record whose texts are being read -/
def txtRec (x : RecD) (len : Nat) (v : Value) (ss : List ByteArray) : RecD := { startRec 7 x 16 len with textsV := v, texts := ss }
theorem reads_TXT : BodyReads txtK 7 (rawBA txtK.body) := by
  intro x hd t rb xb db off c at_ e w hh hba hok hfit hwf hc hbig h12 hae hel hlen
  obtain ⟨hraw, he⟩ := hba
  refine Spec.of Tryd.func80 rfl Tryd.ntmps80 rfl fun w0 hR => ?_
  obtain ⟨hcs, hne, hnx⟩ := hR
  have hout : db ∉ fp [rdB rb (.slice (some ⟨db, off, none⟩) (hd ++ t).length c) at_ w, .blk xb (startRec 7 x (txtK.typ x) (e - at_)).cells.toArray 81] := by simp [fp, rdB, Res.ats]; exact ⟨hne, hnx⟩
  have hml : (hd ++ t).length = 12 + t.length := by rw [List.length_append, hh]
  have hk := okn_TXT hok
  have hbl : txtK.body x = textsW x.texts := rfl
  rw [hbl] at hraw he
  have hsz : ∀ s ∈ x.texts, s.size ≤ 255 := fun s hs => by simpa using List.all_eq_true.1 hk.2.1 s hs
  refine CodeJ.addNilL (T := 9) (sz := 1) (cells := fun s : ByteArray => [Value.string s]) ?_
  refine CodeJ.seq ?_
  refine CodeJ.seq ?_
  refine CodeJ.region ?_
  refine OpsJ.yld rfl rfl rfl (Yld.move rfl rfl) ?_
  refine OpsJ.yld rfl rfl rfl (Yld.nilCheck rfl rfl) ?_
  refine OpsJ.yld rfl rfl rfl (Yld.fieldAddr fa_81_5 rfl rfl) ?_
  refine OpsJ.yld rfl rfl rfl (Yld.load1 rfl Tryd.underlying3 rfl rfl (fun w hI => Inv.cell1 hI (i := 2) rfl rfl)) ?_
  refine OpsJ.nil ?_
  refine ExJ.thenN ?_
  refine CodeJ.block ?_
  refine CodeJ.seq ?_
  refine CodeJ.region ?_
  refine OpsJ.yld rfl rfl rfl (Yld.intBin rfl rfl rfl rfl) ?_
  refine OpsJ.yld rfl rfl rfl (Yld.assign rfl rfl) ?_
  refine OpsJ.nil ?_
  refine ExJ.thenN ?_
  refine CodeJ.condF rfl ?_
  refine CodeJ.seq ?_
  refine CodeJ.region ?_
  refine OpsJ.yld rfl rfl rfl (Yld.intBin rfl rfl rfl rfl) ?_
  refine OpsJ.yld rfl rfl rfl (Yld.assign rfl rfl) ?_
  refine OpsJ.nil ?_
  refine ExJ.thenN ?_
  refine CodeJ.condF rfl ?_
  refine CodeJ.seq ?_
  refine CodeJ.seq ?_
  refine CodeJ.region ?_
  refine OpsJ.yld rfl rfl rfl (Yld.intBin rfl rfl rfl rfl) ?_
  refine OpsJ.yld rfl rfl rfl (Yld.assign rfl rfl) ?_
  refine OpsJ.nil ?_
  refine ExJ.thenN ?_
  refine CodeJ.condF rfl ?_
  refine CodeJ.seq ?_
  refine CodeJ.region ?_
  refine OpsJ.yld rfl rfl rfl (Yld.intBin rfl rfl rfl rfl) ?_
  refine OpsJ.yld rfl rfl rfl (Yld.assign rfl rfl) ?_
  refine OpsJ.nil ?_
  refine ExJ.thenN ?_
  refine CodeJ.condF rfl ?_
  refine CodeJ.region ?_
  refine OpsJ.yld rfl rfl rfl (Yld.intBin rfl rfl rfl rfl) ?_
  refine OpsJ.yld rfl rfl rfl (Yld.assign rfl rfl) ?_
  refine OpsJ.nil ?_
  refine ExJ.thenN ?_
  refine CodeJ.condF rfl ?_
  refine CodeJ.seq ?_
  refine CodeJ.region ?_
  refine OpsJ.yld rfl rfl rfl (Yld.intBin rfl rfl rfl rfl) ?_
  refine OpsJ.yld rfl rfl rfl (Yld.assign rfl rfl) ?_
  refine OpsJ.nil ?_
  refine ExJ.thenN ?_
  refine CodeJ.condF rfl ?_
  refine CodeJ.seq ?_
  refine CodeJ.region ?_
  refine OpsJ.yld rfl rfl rfl (Yld.intBin rfl rfl rfl rfl) ?_
  refine OpsJ.yld rfl rfl rfl (Yld.assign rfl rfl) ?_
  refine OpsJ.nil ?_
  refine ExJ.thenN ?_
  refine CodeJ.condF rfl ?_
  refine CodeJ.seq ?_
  refine CodeJ.region ?_
  refine OpsJ.yld rfl rfl rfl (Yld.intBin rfl rfl rfl rfl) ?_
  refine OpsJ.yld rfl rfl rfl (Yld.assign rfl rfl) ?_
  refine OpsJ.nil ?_
  refine ExJ.thenN ?_
  refine CodeJ.condT rfl ?_
  refine CodeJ.block ?_
  refine CodeJ.loopP (fun L H m => ∃ (j pos : Nat) (p : Option Addr) (c' : Nat) (ss : List ByteArray), j ≤ x.texts.length ∧ 12 ≤ pos ∧ e = pos + (textsW (x.texts.drop j)).length ∧ (t.drop (pos - 12)).take (textsW (x.texts.drop j)).length = textsW (x.texts.drop j) ∧ ss = x.texts.take j ∧
  L = [(0, .pointer (some ⟨rb, 0, none⟩)), (1, .pointer (some ⟨xb, 0, none⟩)), (2, .int .i64 (e : Nat))] ∧ H = [ownL 9 1 (fun s : ByteArray => [Value.string s]) (.slice p ss.length c') ss, rdB rb (.slice (some ⟨db, off, none⟩) (hd ++ t).length c) pos w, .blk xb (txtRec x (e - at_) (.slice p ss.length c') ss).cells.toArray 81] ∧ m = x.texts.length - j) ⟨0, at_, none, 0, [], Nat.zero_le _, h12, he, hraw, rfl, rfl, rfl, rfl⟩ ⟨rfl, rfl, rfl, trivial⟩ (fun w hI => hI) ?_
  rintro _ _ _ ⟨j, pos, p, c', ss, hj, hpos, hpe, hpr, hss, rfl, rfl, rfl⟩
  refine CodeJ.seq ?_
  refine CodeJ.seq ?_
  refine CodeJ.region ?_
  refine OpsJ.yld rfl rfl rfl (Yld.move rfl rfl) ?_
  refine OpsJ.yld rfl rfl rfl (Yld.nilCheck rfl rfl) ?_
  refine OpsJ.yld rfl rfl rfl (Yld.fieldAddr fa_124_2 rfl rfl) ?_
  refine OpsJ.yld rfl rfl rfl (Yld.load1 rfl Tryd.underlying4 rfl rfl (fun w hI => Inv.cell1 hI (i := 1) rfl rfl)) ?_
  refine OpsJ.yld rfl rfl rfl (Yld.not rfl rfl) ?_
  refine OpsJ.yld rfl rfl rfl (Yld.move rfl rfl) ?_
  refine OpsJ.splitB (s := 107) rfl (fun g107 => ?_) (fun g107 => ?_)
  · refine OpsJ.opT rfl rfl rfl ?_
    refine OpJ.yld rfl rfl (Yld.move rfl rfl) ?_
    refine OpsJ.opT rfl rfl rfl ?_
    refine OpJ.yld rfl rfl (Yld.nilCheck rfl rfl) ?_
    refine OpsJ.opT rfl rfl rfl ?_
    refine OpJ.yld rfl rfl (Yld.fieldAddr fa_124_1 rfl rfl) ?_
    refine OpsJ.opT rfl rfl rfl ?_
    refine OpJ.yld rfl rfl (Yld.load1 rfl Tryd.underlying3 rfl rfl (fun w hI => Inv.cell1 hI (i := 1) rfl rfl)) ?_
    refine OpsJ.opT rfl rfl rfl ?_
    refine OpJ.yld rfl rfl (Yld.move rfl rfl) ?_
    refine OpsJ.opT rfl rfl rfl ?_
    refine OpJ.yld rfl rfl (Yld.intBin rfl rfl rfl rfl) ?_
    refine OpsJ.yld rfl rfl rfl (Yld.pickT rfl rfl rfl) ?_
    refine OpsJ.nil ?_
    refine ExJ.thenN ?_
    refine CodeJ.condP rfl (fun c114 => ?_) (fun c114 => ?_)
    · have hj' : j < x.texts.length := by
        rcases Nat.lt_or_ge j x.texts.length with h | h
        · exact h
        · rw [List.drop_of_length_le h] at hpe
          simp [textsW] at hpe
          omega
      obtain ⟨s, hx⟩ : ∃ s, x.texts[j]? = some s := ⟨x.texts[j], List.getElem?_eq_getElem hj'⟩
      have hdr := textsW_drop hx
      have hs255 := hsz s (List.mem_of_getElem? hx)
      rw [hdr] at hpr
      have hpl : pos + (s.size + 1) + (textsW (x.texts.drop (j + 1))).length ≤ 12 + t.length := by rw [hdr, List.length_append, textW_len] at hpe; omega
      have hr1 : t[pos - 12]? = some (UInt8.ofNat s.size) := by
        have h1 := raw_first (A := [UInt8.ofNat s.size]) (C := s.data.toList ++ textsW (x.texts.drop (j + 1))) (by simpa [textW] using hpr)
        have h2 := congrArg (fun l => l[0]?) h1
        simp only [List.getElem?_take, List.getElem?_drop] at h2
        simpa using h2
      have hr2 : (t.drop (pos - 12 + 1)).take s.data.toList.length = s.data.toList := raw_mid (A := [UInt8.ofNat s.size]) (B := s.data.toList) (C := textsW (x.texts.drop (j + 1))) (by simpa [textW] using hpr)
      have hnext : (t.drop (pos + 1 + s.data.toList.length - 12)).take (textsW (x.texts.drop (j + 1))).length = textsW (x.texts.drop (j + 1)) := by
        have := raw_last (A := textW s) (C := textsW (x.texts.drop (j + 1))) hpr
        rw [textW_len] at this
        rw [str_len, show pos + 1 + s.size - 12 = pos - 12 + (s.size + 1) by omega]
        exact this
      have hb0 : (UInt8.ofNat s.size).toNat = s.data.toList.length := by rw [str_len, toNat_ofNat (by omega)]
      have hl0 : pos + 1 + s.data.toList.length ≤ (hd ++ t).length := by rw [str_len]; omega
      have hbyte : Cells w0 db (off + pos + 0 * 1) [.int .u8 (s.data.toList.length : Nat)] := by
        have := byte_cell hcs (k := pos) (c := UInt8.ofNat s.size) (by rw [msg_get hh hpos]; exact hr1)
        rw [hb0, Nat.mul_one] at this
        exact this
      have hpart : Cells w0 db (off + (pos + 1)) (bytesV s.data.toList) := part_bytes hcs (by rw [msg_drop hh (by omega), show pos + 1 - 12 = pos - 12 + 1 by omega]; exact hr2) (by omega)
      have hstr : strV s.data.toList = .string s := congrArg Value.string (str_eta s)
      have hssl : ss.length = j := by rw [hss, List.length_take]; omega
      have hfx := hfit.texts
      refine CodeJ.skip ?_
      refine ExJ.thenN ?_
      refine CodeJ.block ?_
      refine CodeJ.any (fuel := 18) (listed := #[false, false, false, false, false, false, false, false, false, false, false, false, false, false, false, false, false, false]) [] rfl follows_mixed rfl rfl ?_
      refine AnyJ.take (fuel := 17) (listed' := #[true, false, false, false, false, false, false, false, false, false, false, false, false, false, false, false, false, false]) 0 rfl (by kernel_rfl) (by kernel_rfl) (by kernel_rfl) rfl rfl rfl rfl (Yld.move rfl rfl) (fun w hI => hI.pick (is := []) (by decide) rfl) ?_
      refine AnyJ.take (fuel := 16) (listed' := #[true, true, false, false, false, false, false, false, false, false, false, false, false, false, false, false, false, false]) 1 rfl (by kernel_rfl) (by kernel_rfl) (by kernel_rfl) rfl rfl rfl rfl (Yld.move rfl rfl) (fun w hI => hI.pick (is := []) (by decide) rfl) ?_
      refine AnyJ.take (fuel := 15) (listed' := #[true, true, true, false, false, false, false, false, false, false, false, false, false, false, false, false, false, false]) 2 rfl (by kernel_rfl) (by kernel_rfl) (by kernel_rfl) rfl rfl rfl rfl (Yld.nilCheck rfl rfl) (fun w hI => hI.pick (is := []) (by decide) rfl) ?_
      refine AnyJ.take (fuel := 14) (listed' := #[true, true, true, true, false, false, false, false, false, false, false, false, false, false, false, false, false, false]) 3 rfl (by kernel_rfl) (by kernel_rfl) (by kernel_rfl) rfl rfl rfl rfl (Yld.fieldAddr fa_81_14 rfl rfl) (fun w hI => hI.pick (is := []) (by decide) rfl) ?_
      refine AnyJ.take (fuel := 13) (listed' := #[true, true, true, true, false, true, false, false, false, false, false, false, false, false, false, false, false, false]) 5 rfl (by kernel_rfl) (by kernel_rfl) (by kernel_rfl) rfl rfl rfl rfl (Yld.move rfl rfl) (fun w hI => hI.pick (is := []) (by decide) rfl) ?_
      refine AnyJ.take (fuel := 12) (listed' := #[true, true, true, true, false, true, true, false, false, false, false, false, false, false, false, false, false, false]) 6 rfl (by kernel_rfl) (by kernel_rfl) (by kernel_rfl) rfl rfl rfl rfl (Yld.move rfl rfl) (fun w hI => hI.pick (is := []) (by decide) rfl) ?_
      refine AnyJ.two (fuel := 11) 4 7 (by kernel_rfl) ?_ ?_
      · refine StepJ.op (listed' := #[true, true, true, true, true, true, true, false, false, false, false, false, false, false, false, false, false, false]) rfl rfl rfl ?_
        refine OpJ.yld rfl rfl (Yld.load1 rfl Tryd.underlying27 rfl rfl (fun w hI => Inv.cell1 hI (i := 2) rfl rfl)) ?_
        refine ⟨fun w hI => hI.pick (is := []) (by decide) rfl, ?_⟩
        refine AnyJ.one (fuel := 10) 7 (by kernel_rfl) ?_
        refine StepJ.op (listed' := #[true, true, true, true, true, true, true, true, false, false, false, false, false, false, false, false, false, false]) rfl rfl rfl ?_
        refine OpJ.call (take_spec rb db off c pos 1 (hd ++ t) w (by decide) (by omega) hc hbig) has_76 rfl rfl rfl rfl rfl [1] [0, 2] (by decide) rfl rfl (fun _ _ => trivial) ?_
        rintro _ _ ⟨rfl, rfl⟩
        refine ⟨fun w hI => hI.pick (is := []) (by decide) rfl, ?_⟩
        refine AnyJ.take (fuel := 9) (listed' := #[true, true, true, true, true, true, true, true, true, false, false, false, false, false, false, false, false, false]) 8 rfl (by kernel_rfl) (by kernel_rfl) (by kernel_rfl) rfl rfl rfl rfl (Yld.indexAddr (i := 0) rfl Tryd.underlying26 sz_5 rfl rfl (by decide)) (fun w hI => hI.pick (is := []) (by decide) rfl) ?_
        refine AnyJ.take (fuel := 8) (listed' := #[true, true, true, true, true, true, true, true, true, true, false, false, false, false, false, false, false, false]) 9 rfl (by kernel_rfl) (by kernel_rfl) (by kernel_rfl) rfl rfl rfl rfl (Yld.load1 rfl Tryd.underlying5 rfl rfl (fun w hI => hI.old hbyte hout)) (fun w hI => hI.pick (is := []) (by decide) rfl) ?_
        refine AnyJ.take (fuel := 7) (listed' := #[true, true, true, true, true, true, true, true, true, true, true, false, false, false, false, false, false, false]) 10 rfl (by kernel_rfl) (by kernel_rfl) (by kernel_rfl) rfl rfl rfl rfl (Yld.convInt rfl Tryd.underlying5 Tryd.underlying3 rfl) (fun w hI => hI.pick (is := []) (by decide) rfl) ?_
        rw [i64_wrap s.data.toList.length (by rw [str_len]; omega)]
        refine AnyJ.one (fuel := 6) 11 (by kernel_rfl) ?_
        refine StepJ.op (listed' := #[true, true, true, true, true, true, true, true, true, true, true, true, false, false, false, false, false, false]) rfl rfl rfl ?_
        refine OpJ.call (takeB_spec rb db off c (pos + 1) s.data.toList (hd ++ t) w hl0 hc hbig) has_76 rfl rfl rfl rfl rfl [0] [1, 2] (by decide) rfl rfl (fun _ _ => trivial) ?_
        rintro t126 _ ⟨htook, rfl⟩
        refine ⟨fun w hI => hI.pick (is := []) (by decide) rfl, ?_⟩
        refine AnyJ.take (fuel := 5) (listed' := #[true, true, true, true, true, true, true, true, true, true, true, true, true, false, false, false, false, false]) 12 rfl (by kernel_rfl) (by kernel_rfl) (by kernel_rfl) rfl rfl rfl rfl (Yld.bytesStrV rfl Tryd.underlying26 Tryd.underlying5 Tryd.underlying9 rfl (fun w hI => htook.bytes (hI.old hpart hout))) (fun w hI => hI.pick (is := []) (by decide) rfl) ?_
        rw [hstr]
        refine AnyJ.one (fuel := 4) 13 (by kernel_rfl) ?_
        refine StepJ.op (listed' := #[true, true, true, true, true, true, true, true, true, true, true, true, true, true, false, false, false, false]) rfl rfl rfl ?_
        refine OpJ.buildSlice (xs := [.tmp 127]) elt_27 rfl rfl rfl rfl rfl rfl (by rfl) (by decide) fun one hone => ?_
        refine ⟨fun w hI => hI.pick (is := []) (by decide) rfl, ?_⟩
        refine AnyJ.one (fuel := 3) 14 (by kernel_rfl) ?_
        refine StepJ.op (listed' := #[true, true, true, true, true, true, true, true, true, true, true, true, true, true, true, false, false, false]) rfl rfl rfl ?_
        refine OpJ.appendL (cells := fun s : ByteArray => [Value.string s]) (i := 2) (news := s) elt_27 rfl rfl rfl rfl rfl rfl (fun w hI => Inv.src hI (i := 0) rfl Tryd.underlying27 (fun u hu => by simp at hu; subst hu; rfl)) (by omega) fun p129 c129 => ?_
        refine ⟨fun w hI => hI.pick (is := []) (by decide) rfl, ?_⟩
        refine AnyJ.take (fuel := 2) (listed' := #[true, true, true, true, true, true, true, true, true, true, true, true, true, true, true, true, false, false]) 15 rfl (by kernel_rfl) (by kernel_rfl) (by kernel_rfl) rfl rfl rfl rfl (Yld.nilCheck rfl rfl) (fun w hI => hI.pick (is := []) (by decide) rfl) ?_
        refine AnyJ.take (fuel := 1) (listed' := #[true, true, true, true, true, true, true, true, true, true, true, true, true, true, true, true, true, false]) 16 rfl (by kernel_rfl) (by kernel_rfl) (by kernel_rfl) rfl rfl rfl rfl (Yld.fieldAddr fa_81_14 rfl rfl) (fun w hI => hI.pick (is := []) (by decide) rfl) ?_
        refine AnyJ.one (fuel := 0) 17 (by kernel_rfl) ?_
        refine StepJ.op (listed' := #[true, true, true, true, true, true, true, true, true, true, true, true, true, true, true, true, true, true]) rfl rfl rfl ?_
        refine OpJ.store1' (i := 3) (cs' := (txtRec x (e - at_) (.slice p129 (ss ++ [s]).length c129) (ss ++ [s])).cells.toArray) rfl rfl rfl rfl rfl sz_27 rfl rfl rfl ?_
        refine ⟨fun w hI => hI.pick (is := []) (by decide) rfl, ?_⟩
        refine AnyJ.done (by kernel_rfl) ?_
        refine ExJ.blockN ?_
        exact ExJ.againP ⟨j + 1, pos + 1 + s.data.toList.length, p129, c129, ss ++ [s], by omega, by omega, by rw [hpe, hdr, List.length_append, textW_len, str_len]; omega, hnext, by rw [hss, take_snoc _ _ _ hx], rfl, rfl, rfl⟩ (by omega) ⟨rfl, rfl, rfl, trivial⟩ fun w hI => hI.pick (is := [2, 1, 3]) (by decide) rfl
      · refine StepJ.op (listed' := #[true, true, true, true, false, true, true, true, false, false, false, false, false, false, false, false, false, false]) rfl rfl rfl ?_
        refine OpJ.call (take_spec rb db off c pos 1 (hd ++ t) w (by decide) (by omega) hc hbig) has_76 rfl rfl rfl rfl rfl [1] [0, 2] (by decide) rfl rfl (fun _ _ => trivial) ?_
        rintro _ _ ⟨rfl, rfl⟩
        refine ⟨fun w hI => hI.pick (is := []) (by decide) rfl, ?_⟩
        refine AnyJ.take (fuel := 10) (listed' := #[true, true, true, true, false, true, true, true, true, false, false, false, false, false, false, false, false, false]) 8 rfl (by kernel_rfl) (by kernel_rfl) (by kernel_rfl) rfl rfl rfl rfl (Yld.indexAddr (i := 0) rfl Tryd.underlying26 sz_5 rfl rfl (by decide)) (fun w hI => hI.pick (is := []) (by decide) rfl) ?_
        refine AnyJ.take (fuel := 9) (listed' := #[true, true, true, true, false, true, true, true, true, true, false, false, false, false, false, false, false, false]) 9 rfl (by kernel_rfl) (by kernel_rfl) (by kernel_rfl) rfl rfl rfl rfl (Yld.load1 rfl Tryd.underlying5 rfl rfl (fun w hI => hI.old hbyte hout)) (fun w hI => hI.pick (is := []) (by decide) rfl) ?_
        refine AnyJ.take (fuel := 8) (listed' := #[true, true, true, true, false, true, true, true, true, true, true, false, false, false, false, false, false, false]) 10 rfl (by kernel_rfl) (by kernel_rfl) (by kernel_rfl) rfl rfl rfl rfl (Yld.convInt rfl Tryd.underlying5 Tryd.underlying3 rfl) (fun w hI => hI.pick (is := []) (by decide) rfl) ?_
        rw [i64_wrap s.data.toList.length (by rw [str_len]; omega)]
        refine AnyJ.two (fuel := 7) 4 11 (by kernel_rfl) ?_ ?_
        · refine StepJ.op (listed' := #[true, true, true, true, true, true, true, true, true, true, true, false, false, false, false, false, false, false]) rfl rfl rfl ?_
          refine OpJ.yld rfl rfl (Yld.load1 rfl Tryd.underlying27 rfl rfl (fun w hI => Inv.cell1 hI (i := 2) rfl rfl)) ?_
          refine ⟨fun w hI => hI.pick (is := []) (by decide) rfl, ?_⟩
          refine AnyJ.one (fuel := 6) 11 (by kernel_rfl) ?_
          refine StepJ.op (listed' := #[true, true, true, true, true, true, true, true, true, true, true, true, false, false, false, false, false, false]) rfl rfl rfl ?_
          refine OpJ.call (takeB_spec rb db off c (pos + 1) s.data.toList (hd ++ t) w hl0 hc hbig) has_76 rfl rfl rfl rfl rfl [0] [1, 2] (by decide) rfl rfl (fun _ _ => trivial) ?_
          rintro t126 _ ⟨htook, rfl⟩
          refine ⟨fun w hI => hI.pick (is := []) (by decide) rfl, ?_⟩
          refine AnyJ.take (fuel := 5) (listed' := #[true, true, true, true, true, true, true, true, true, true, true, true, true, false, false, false, false, false]) 12 rfl (by kernel_rfl) (by kernel_rfl) (by kernel_rfl) rfl rfl rfl rfl (Yld.bytesStrV rfl Tryd.underlying26 Tryd.underlying5 Tryd.underlying9 rfl (fun w hI => htook.bytes (hI.old hpart hout))) (fun w hI => hI.pick (is := []) (by decide) rfl) ?_
          rw [hstr]
          refine AnyJ.one (fuel := 4) 13 (by kernel_rfl) ?_
          refine StepJ.op (listed' := #[true, true, true, true, true, true, true, true, true, true, true, true, true, true, false, false, false, false]) rfl rfl rfl ?_
          refine OpJ.buildSlice (xs := [.tmp 127]) elt_27 rfl rfl rfl rfl rfl rfl (by rfl) (by decide) fun one hone => ?_
          refine ⟨fun w hI => hI.pick (is := []) (by decide) rfl, ?_⟩
          refine AnyJ.one (fuel := 3) 14 (by kernel_rfl) ?_
          refine StepJ.op (listed' := #[true, true, true, true, true, true, true, true, true, true, true, true, true, true, true, false, false, false]) rfl rfl rfl ?_
          refine OpJ.appendL (cells := fun s : ByteArray => [Value.string s]) (i := 2) (news := s) elt_27 rfl rfl rfl rfl rfl rfl (fun w hI => Inv.src hI (i := 0) rfl Tryd.underlying27 (fun u hu => by simp at hu; subst hu; rfl)) (by omega) fun p129 c129 => ?_
          refine ⟨fun w hI => hI.pick (is := []) (by decide) rfl, ?_⟩
          refine AnyJ.take (fuel := 2) (listed' := #[true, true, true, true, true, true, true, true, true, true, true, true, true, true, true, true, false, false]) 15 rfl (by kernel_rfl) (by kernel_rfl) (by kernel_rfl) rfl rfl rfl rfl (Yld.nilCheck rfl rfl) (fun w hI => hI.pick (is := []) (by decide) rfl) ?_
          refine AnyJ.take (fuel := 1) (listed' := #[true, true, true, true, true, true, true, true, true, true, true, true, true, true, true, true, true, false]) 16 rfl (by kernel_rfl) (by kernel_rfl) (by kernel_rfl) rfl rfl rfl rfl (Yld.fieldAddr fa_81_14 rfl rfl) (fun w hI => hI.pick (is := []) (by decide) rfl) ?_
          refine AnyJ.one (fuel := 0) 17 (by kernel_rfl) ?_
          refine StepJ.op (listed' := #[true, true, true, true, true, true, true, true, true, true, true, true, true, true, true, true, true, true]) rfl rfl rfl ?_
          refine OpJ.store1' (i := 3) (cs' := (txtRec x (e - at_) (.slice p129 (ss ++ [s]).length c129) (ss ++ [s])).cells.toArray) rfl rfl rfl rfl rfl sz_27 rfl rfl rfl ?_
          refine ⟨fun w hI => hI.pick (is := []) (by decide) rfl, ?_⟩
          refine AnyJ.done (by kernel_rfl) ?_
          refine ExJ.blockN ?_
          exact ExJ.againP ⟨j + 1, pos + 1 + s.data.toList.length, p129, c129, ss ++ [s], by omega, by omega, by rw [hpe, hdr, List.length_append, textW_len, str_len]; omega, hnext, by rw [hss, take_snoc _ _ _ hx], rfl, rfl, rfl⟩ (by omega) ⟨rfl, rfl, rfl, trivial⟩ fun w hI => hI.pick (is := [2, 1, 3]) (by decide) rfl
        · refine StepJ.op (listed' := #[true, true, true, true, false, true, true, true, true, true, true, true, false, false, false, false, false, false]) rfl rfl rfl ?_
          refine OpJ.call (takeB_spec rb db off c (pos + 1) s.data.toList (hd ++ t) w hl0 hc hbig) has_76 rfl rfl rfl rfl rfl [0] [1, 2] (by decide) rfl rfl (fun _ _ => trivial) ?_
          rintro t126 _ ⟨htook, rfl⟩
          refine ⟨fun w hI => hI.pick (is := []) (by decide) rfl, ?_⟩
          refine AnyJ.take (fuel := 6) (listed' := #[true, true, true, true, false, true, true, true, true, true, true, true, true, false, false, false, false, false]) 12 rfl (by kernel_rfl) (by kernel_rfl) (by kernel_rfl) rfl rfl rfl rfl (Yld.bytesStrV rfl Tryd.underlying26 Tryd.underlying5 Tryd.underlying9 rfl (fun w hI => htook.bytes (hI.old hpart hout))) (fun w hI => hI.pick (is := []) (by decide) rfl) ?_
          rw [hstr]
          refine AnyJ.two (fuel := 5) 4 13 (by kernel_rfl) ?_ ?_
          · refine StepJ.op (listed' := #[true, true, true, true, true, true, true, true, true, true, true, true, true, false, false, false, false, false]) rfl rfl rfl ?_
            refine OpJ.yld rfl rfl (Yld.load1 rfl Tryd.underlying27 rfl rfl (fun w hI => Inv.cell1 hI (i := 2) rfl rfl)) ?_
            refine ⟨fun w hI => hI.pick (is := []) (by decide) rfl, ?_⟩
            refine AnyJ.one (fuel := 4) 13 (by kernel_rfl) ?_
            refine StepJ.op (listed' := #[true, true, true, true, true, true, true, true, true, true, true, true, true, true, false, false, false, false]) rfl rfl rfl ?_
            refine OpJ.buildSlice (xs := [.tmp 127]) elt_27 rfl rfl rfl rfl rfl rfl (by rfl) (by decide) fun one hone => ?_
            refine ⟨fun w hI => hI.pick (is := []) (by decide) rfl, ?_⟩
            refine AnyJ.one (fuel := 3) 14 (by kernel_rfl) ?_
            refine StepJ.op (listed' := #[true, true, true, true, true, true, true, true, true, true, true, true, true, true, true, false, false, false]) rfl rfl rfl ?_
            refine OpJ.appendL (cells := fun s : ByteArray => [Value.string s]) (i := 2) (news := s) elt_27 rfl rfl rfl rfl rfl rfl (fun w hI => Inv.src hI (i := 0) rfl Tryd.underlying27 (fun u hu => by simp at hu; subst hu; rfl)) (by omega) fun p129 c129 => ?_
            refine ⟨fun w hI => hI.pick (is := []) (by decide) rfl, ?_⟩
            refine AnyJ.take (fuel := 2) (listed' := #[true, true, true, true, true, true, true, true, true, true, true, true, true, true, true, true, false, false]) 15 rfl (by kernel_rfl) (by kernel_rfl) (by kernel_rfl) rfl rfl rfl rfl (Yld.nilCheck rfl rfl) (fun w hI => hI.pick (is := []) (by decide) rfl) ?_
            refine AnyJ.take (fuel := 1) (listed' := #[true, true, true, true, true, true, true, true, true, true, true, true, true, true, true, true, true, false]) 16 rfl (by kernel_rfl) (by kernel_rfl) (by kernel_rfl) rfl rfl rfl rfl (Yld.fieldAddr fa_81_14 rfl rfl) (fun w hI => hI.pick (is := []) (by decide) rfl) ?_
            refine AnyJ.one (fuel := 0) 17 (by kernel_rfl) ?_
            refine StepJ.op (listed' := #[true, true, true, true, true, true, true, true, true, true, true, true, true, true, true, true, true, true]) rfl rfl rfl ?_
            refine OpJ.store1' (i := 3) (cs' := (txtRec x (e - at_) (.slice p129 (ss ++ [s]).length c129) (ss ++ [s])).cells.toArray) rfl rfl rfl rfl rfl sz_27 rfl rfl rfl ?_
            refine ⟨fun w hI => hI.pick (is := []) (by decide) rfl, ?_⟩
            refine AnyJ.done (by kernel_rfl) ?_
            refine ExJ.blockN ?_
            exact ExJ.againP ⟨j + 1, pos + 1 + s.data.toList.length, p129, c129, ss ++ [s], by omega, by omega, by rw [hpe, hdr, List.length_append, textW_len, str_len]; omega, hnext, by rw [hss, take_snoc _ _ _ hx], rfl, rfl, rfl⟩ (by omega) ⟨rfl, rfl, rfl, trivial⟩ fun w hI => hI.pick (is := [2, 1, 3]) (by decide) rfl
          · refine StepJ.op (listed' := #[true, true, true, true, false, true, true, true, true, true, true, true, true, true, false, false, false, false]) rfl rfl rfl ?_
            refine OpJ.buildSlice (xs := [.tmp 127]) elt_27 rfl rfl rfl rfl rfl rfl (by rfl) (by decide) fun one hone => ?_
            refine ⟨fun w hI => hI.pick (is := []) (by decide) rfl, ?_⟩
            refine AnyJ.one (fuel := 4) 4 (by kernel_rfl) ?_
            refine StepJ.op (listed' := #[true, true, true, true, true, true, true, true, true, true, true, true, true, true, false, false, false, false]) rfl rfl rfl ?_
            refine OpJ.yld rfl rfl (Yld.load1 rfl Tryd.underlying27 rfl rfl (fun w hI => Inv.cell1 hI (i := 3) rfl rfl)) ?_
            refine ⟨fun w hI => hI.pick (is := []) (by decide) rfl, ?_⟩
            refine AnyJ.one (fuel := 3) 14 (by kernel_rfl) ?_
            refine StepJ.op (listed' := #[true, true, true, true, true, true, true, true, true, true, true, true, true, true, true, false, false, false]) rfl rfl rfl ?_
            refine OpJ.appendL (cells := fun s : ByteArray => [Value.string s]) (i := 2) (news := s) elt_27 rfl rfl rfl rfl rfl rfl (fun w hI => Inv.src hI (i := 0) rfl Tryd.underlying27 (fun u hu => by simp at hu; subst hu; rfl)) (by omega) fun p129 c129 => ?_
            refine ⟨fun w hI => hI.pick (is := []) (by decide) rfl, ?_⟩
            refine AnyJ.take (fuel := 2) (listed' := #[true, true, true, true, true, true, true, true, true, true, true, true, true, true, true, true, false, false]) 15 rfl (by kernel_rfl) (by kernel_rfl) (by kernel_rfl) rfl rfl rfl rfl (Yld.nilCheck rfl rfl) (fun w hI => hI.pick (is := []) (by decide) rfl) ?_
            refine AnyJ.take (fuel := 1) (listed' := #[true, true, true, true, true, true, true, true, true, true, true, true, true, true, true, true, true, false]) 16 rfl (by kernel_rfl) (by kernel_rfl) (by kernel_rfl) rfl rfl rfl rfl (Yld.fieldAddr fa_81_14 rfl rfl) (fun w hI => hI.pick (is := []) (by decide) rfl) ?_
            refine AnyJ.one (fuel := 0) 17 (by kernel_rfl) ?_
            refine StepJ.op (listed' := #[true, true, true, true, true, true, true, true, true, true, true, true, true, true, true, true, true, true]) rfl rfl rfl ?_
            refine OpJ.store1' (i := 3) (cs' := (txtRec x (e - at_) (.slice p129 (ss ++ [s]).length c129) (ss ++ [s])).cells.toArray) rfl rfl rfl rfl rfl sz_27 rfl rfl rfl ?_
            refine ⟨fun w hI => hI.pick (is := []) (by decide) rfl, ?_⟩
            refine AnyJ.done (by kernel_rfl) ?_
            refine ExJ.blockN ?_
            exact ExJ.againP ⟨j + 1, pos + 1 + s.data.toList.length, p129, c129, ss ++ [s], by omega, by omega, by rw [hpe, hdr, List.length_append, textW_len, str_len]; omega, hnext, by rw [hss, take_snoc _ _ _ hx], rfl, rfl, rfl⟩ (by omega) ⟨rfl, rfl, rfl, trivial⟩ fun w hI => hI.pick (is := [2, 1, 3]) (by decide) rfl
    · have hjl : j = x.texts.length := by
        rcases Nat.lt_or_ge j x.texts.length with h | h
        · obtain ⟨s, hx⟩ : ∃ s, x.texts[j]? = some s := ⟨x.texts[j], List.getElem?_eq_getElem h⟩
          have := textsW_drop hx
          rw [this, List.length_append, textW_len] at hpe
          omega
        · omega
      subst hjl
      rw [List.drop_length] at hpe
      have hpe : e = pos := hpe
      subst hpe
      rw [List.take_length] at hss
      subst hss
      refine CodeJ.exit ?_
      refine ExJ.thenX ?_
      refine ExJ.thenX ?_
      refine ExJ.blockHit ?_
      refine ExJ.blockN ?_
      refine ExJ.thenN ?_
      refine CodeJ.region ?_
      refine OpsJ.yld rfl rfl rfl (Yld.move rfl rfl) ?_
      refine OpsJ.yld rfl rfl rfl (Yld.move rfl rfl) ?_
      refine OpsJ.yld rfl rfl rfl (Yld.nilCheck rfl rfl) ?_
      refine OpsJ.yld rfl rfl rfl (Yld.fieldAddr fa_124_2 rfl rfl) ?_
      refine OpsJ.yld rfl rfl rfl (Yld.load1 rfl Tryd.underlying4 rfl rfl (fun w hI => Inv.cell1 hI (i := 1) rfl rfl)) ?_
      refine OpsJ.yld rfl rfl rfl (Yld.move rfl rfl) ?_
      refine OpsJ.splitB (s := 190) rfl (fun g190 => ?_) (fun g190 => ?_)
      · exact absurd g190 (by decide)
      · refine OpsJ.opT rfl rfl rfl ?_
        refine OpJ.yld rfl rfl (Yld.move rfl rfl) ?_
        refine OpsJ.opT rfl rfl rfl ?_
        refine OpJ.yld rfl rfl (Yld.nilCheck rfl rfl) ?_
        refine OpsJ.opT rfl rfl rfl ?_
        refine OpJ.yld rfl rfl (Yld.fieldAddr fa_124_1 rfl rfl) ?_
        refine OpsJ.opT rfl rfl rfl ?_
        refine OpJ.yld rfl rfl (Yld.load1 rfl Tryd.underlying3 rfl rfl (fun w hI => Inv.cell1 hI (i := 1) rfl rfl)) ?_
        refine OpsJ.opT rfl rfl rfl ?_
        refine OpJ.yld rfl rfl (Yld.move rfl rfl) ?_
        refine OpsJ.opT rfl rfl rfl ?_
        refine OpJ.yld rfl rfl (Yld.intBin rfl rfl rfl rfl) ?_
        rw [show (((e : Nat) : Int) != ((e : Nat) : Int)) = false by simp]
        refine OpsJ.yld rfl rfl rfl (Yld.pickF rfl rfl rfl) ?_
        refine OpsJ.yld rfl rfl rfl (Yld.nilCheck rfl rfl) ?_
        refine OpsJ.yld rfl rfl rfl (Yld.fieldAddr fa_124_2 rfl rfl) ?_
        refine OpsJ.op rfl ?_
        refine OpJ.store1 (i := 1) rfl rfl rfl rfl rfl sz_4 rfl rfl ?_
        refine OpsJ.nil ?_
        refine ExJ.endN ?_
        refine ExJ.retOf (v := .tuple #[]) (fun a w hE hI => by simp [results, Tryd.results80]) ⟨w, txtRec x (e - at_) (.slice p x.texts.length c') x.texts, _, _, _, rfl, fun w hw => ⟨.inl ⟨none, 0, rfl, rfl⟩, by have h := Own.row hw.1; rw [List.map_flatten_single] at h; exact h, .inl ⟨none, 0, rfl, rfl, rfl⟩, fun p hp => by cases hp⟩, ?_⟩ fun w hI => (Inv.seal (hI.pick (is := [0, 1, 2]) (by decide) rfl)).pick (is := [1, 2, 0]) (by decide) rfl
        exact ⟨rfl, hok, rfl, ⟨by simp [txtRec, startRec, zRec], by simp [txtRec, startRec, zRec], by simp [txtRec, startRec, zRec], hfit.texts, hfit.text, by simp [txtRec, startRec, zRec], by simp [txtRec, startRec, zRec]⟩, rfl⟩
  · exact absurd g107 (by decide)
end Go.Proofs.YtbfopgnhdelioaaDoor
