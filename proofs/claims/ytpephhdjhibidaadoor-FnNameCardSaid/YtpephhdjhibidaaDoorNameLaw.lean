/-
  The law of names: what textOf, String, NewName (both), NameText and FnName do.
-/
import Derived.Test.YtpephhdjhibidaaDoorName
namespace Go.Proofs.YtpephhdjhibidaaDoor
open Go
set_option maxRecDepth 100000

theorem nameCs_bytes (l : List UInt8) : ((nameCs l).toArray.toList.drop 0).take (bytesV l).length = bytesV l := by
  simp [nameCs]

theorem textOf_spec (l : List UInt8) (hl : l.length ≤ 255) : Spec Tryd.prog 7 [.agg (nameCs l).toArray] [] (fun _ => True) (fun r H' => r = strV l ∧ H' = []) := by
  refine Spec.of Tryd.func7 rfl Tryd.ntmps7 rfl fun w0 _ => ?_
  refine CodeJ.seq ?_
  refine CodeJ.region ?_
  refine OpsJ.op rfl ?_
  refine OpJ.box rfl rfl rfl rfl fun nb hnb => ?_
  refine OpsJ.yld rfl rfl rfl (Yld.assign rfl rfl) ?_
  refine OpsJ.nil ?_
  refine ExJ.thenN ?_
  refine CodeJ.seq ?_
  refine CodeJ.region ?_
  refine OpsJ.yld rfl rfl rfl (Yld.fieldAddr fa_28_0 rfl rfl) ?_
  refine OpsJ.yld rfl rfl rfl (Yld.fieldAddr fa_28_1 rfl rfl) ?_
  refine OpsJ.yld rfl rfl rfl (Yld.load1 rfl Tryd.underlying5 rfl rfl (fun w hI => Inv.cell1 hI (i := 0) rfl (by have := nameCs_size l hl; simpa [Value.cells] using this))) ?_
  refine OpsJ.yld rfl rfl rfl (Yld.sliceArrTo rfl Tryd.underlying26 sz_5 rfl rfl hl) ?_
  refine OpsJ.yld rfl rfl rfl (Yld.bytesStr (bs := l) rfl rfl Tryd.underlying36 Tryd.underlying5 Tryd.underlying9 rfl (fun w hI => Inv.cells hI (i := 0) rfl (nameCs_bytes l) (by have := nameCs_len l hl; simp [Value.cells, this, bytesV_len]; omega))) ?_
  refine OpsJ.yld rfl rfl rfl (Yld.assign rfl rfl) ?_
  refine OpsJ.nil ?_
  refine ExJ.thenN ?_
  refine CodeJ.ret ?_
  exact ExJ.ret1 Tryd.results7 rfl ⟨rfl, rfl⟩ fun w hI => hI.pick (is := []) (by decide) rfl

theorem string_spec (l : List UInt8) (hl : l.length ≤ 255) : Spec Tryd.prog 9 [.agg (nameCs l).toArray] [] (fun _ => True) (fun r H' => r = strV l ∧ H' = []) := by
  refine Spec.of Tryd.func9 rfl Tryd.ntmps9 rfl fun w0 _ => ?_
  refine CodeJ.seq ?_
  refine CodeJ.region ?_
  refine OpsJ.op rfl ?_
  refine OpJ.box rfl rfl rfl rfl fun nb hnb => ?_
  refine OpsJ.yld rfl rfl rfl (Yld.assign rfl rfl) ?_
  refine OpsJ.nil ?_
  refine ExJ.thenN ?_
  refine CodeJ.seq ?_
  refine CodeJ.region ?_
  refine OpsJ.yld rfl rfl rfl (Yld.fieldAddr fa_28_0 rfl rfl) ?_
  refine OpsJ.yld rfl rfl rfl (Yld.fieldAddr fa_28_1 rfl rfl) ?_
  refine OpsJ.yld rfl rfl rfl (Yld.load1 rfl Tryd.underlying5 rfl rfl (fun w hI => Inv.cell1 hI (i := 0) rfl (by have := nameCs_size l hl; simpa [Value.cells] using this))) ?_
  refine OpsJ.yld rfl rfl rfl (Yld.sliceArrTo rfl Tryd.underlying26 sz_5 rfl rfl hl) ?_
  refine OpsJ.yld rfl rfl rfl (Yld.bytesStr (bs := l) rfl rfl Tryd.underlying36 Tryd.underlying5 Tryd.underlying9 rfl (fun w hI => Inv.cells hI (i := 0) rfl (nameCs_bytes l) (by have := nameCs_len l hl; simp [Value.cells, this, bytesV_len]; omega))) ?_
  refine OpsJ.yld rfl rfl rfl (Yld.assign rfl rfl) ?_
  refine OpsJ.nil ?_
  refine ExJ.thenN ?_
  refine CodeJ.ret ?_
  exact ExJ.ret1 Tryd.results9 rfl ⟨rfl, rfl⟩ fun w hI => hI.pick (is := []) (by decide) rfl

theorem nameText_spec (s : ByteArray) : Spec Tryd.prog 5 [.string s] [] (fun _ => True) (fun r H' => r = strV (cut255 s) ∧ H' = []) := by
  refine Spec.of Tryd.func5 rfl Tryd.ntmps5 rfl fun w0 _ => ?_
  refine CodeJ.seq ?_
  refine CodeJ.region ?_
  refine OpsJ.yld rfl rfl rfl (Yld.assign rfl rfl) ?_
  refine OpsJ.nil ?_
  refine ExJ.thenN ?_
  refine CodeJ.seq ?_
  refine CodeJ.region ?_
  refine OpsJ.yld rfl rfl rfl (Yld.move rfl rfl) ?_
  refine OpsJ.op rfl ?_
  refine OpJ.call (nameOf_spec s) has_8 rfl rfl rfl rfl rfl [] [] (by decide) rfl rfl (fun _ _ => trivial) ?_
  rintro _ _ ⟨rfl, rfl⟩
  refine OpsJ.op rfl ?_
  refine OpJ.call (string_spec (cut255 s) (cut255_len s)) has_9 rfl rfl rfl rfl rfl [] [] (by decide) rfl rfl (fun _ _ => trivial) ?_
  rintro _ _ ⟨rfl, rfl⟩
  refine OpsJ.yld rfl rfl rfl (Yld.assign rfl rfl) ?_
  refine OpsJ.nil ?_
  refine ExJ.thenN ?_
  refine CodeJ.ret ?_
  exact ExJ.ret1 Tryd.results5 rfl ⟨rfl, rfl⟩ fun w hI => hI

/-- a return: a value in memory and a slot -/
theorem ExJ.retCT {P : Program} {n : Nat} {w0 : World} {S : List Nat} {L : List (Nat × Value)} {H : List Res} {fn : Func} {s T s2 b off : Nat} {u : Value} {vs : List Value} {d : TypeDesc} {H'} {w1 : World} {S1 : List Nat} {Post : Value → List Res → Prop} (hr : fn.results = #[.cell s T, .tmp s2]) (hs : L.lookup s = some (.pointer (some ⟨b, off, none⟩))) (hs2 : L.lookup s2 = some u) (hu : P.underlying T = some d) (hd : (match d with | .struct _ | .array _ _ => true | _ => false) = true) (hz : (P.info? T).map (·.size) = some vs.length)
    (hc : ∀ w, Inv w0 S H w → Cells w b off vs) (hP : Post (.tuple #[.agg vs.toArray, u]) H') (hH : ∀ w, Inv w0 S H w → Inv w1 S1 H' w) :
    ExJ (bodyPost P fn (Ret w1 S1 Post)) .ret n w0 S L H :=
  ExJ.retOf (fun a w hE hI => by
    have h := run_loadCells_list (P := P) w ⟨b, off, none⟩ vs fun j v hj => by rw [addr_add]; exact (hc w hI).cell j v hj
    have h1 := hE.at_ s _ hs
    have h2 := hE.at_ s2 _ hs2
    cases hq : P.info? T with
    | none => simp [hq] at hz
    | some t =>
      have ht : t.size = vs.length := by simpa [hq] using hz
      cases d <;> simp_all [results, loadVar, isAgg, run_underlying hu, sizeOf, typeInfo, asAddr]) hP hH

theorem name_made' (l : List UInt8) (h : l.length ≤ 255) (u : Nat) (hu : u = l.length) : setCs ((List.replicate 255 (Value.int .u8 0)) ++ [Value.int .u8 u]).toArray 0 (bytesV l) = (nameCs l).toArray := by
  subst hu
  simp only [setCs, List.take_zero, List.nil_append, Nat.zero_add, bytesV_len, nameCs]
  rw [List.drop_append_of_le_length (by simp; omega), List.drop_replicate]

/-- what NewName returns -/
def newL (s : ByteArray) : List UInt8 := if s.size ≤ 255 then s.data.toList else []
theorem newL_len (s : ByteArray) : (newL s).length ≤ 255 := by
  unfold newL
  split
  · simpa using ‹s.size ≤ 255›
  · simp

theorem newName_spec (s : ByteArray) (hs : s.size ≤ 9223372036854775807) : Spec Tryd.prog 6 [.string s] [] (fun w => ∃ t e, Cells w 0 0 [.iface t e])
    (fun r H' => (∃ x, r = .tuple #[.agg (nameCs (newL s)).toArray, x] ∧ isNilI x = some (decide (s.size ≤ 255))) ∧ H' = []) := by
  refine Spec.of Tryd.func6 rfl Tryd.ntmps6 rfl fun w0 hR => ?_
  obtain ⟨ge, ee, he0⟩ := hR
  have hn0 : 0 ∉ fp [] := by simp [fp]
  refine CodeJ.seq ?_
  refine CodeJ.region ?_
  refine OpsJ.op rfl ?_
  refine OpJ.alloc rfl rfl rfl zero_28 fun res hres => ?_
  refine OpsJ.yld rfl rfl rfl (Yld.assign rfl rfl) ?_
  refine OpsJ.nil ?_
  refine ExJ.thenN ?_
  refine CodeJ.seq ?_
  refine CodeJ.region ?_
  refine OpsJ.yld rfl rfl rfl (Yld.move rfl rfl) ?_
  refine OpsJ.yld rfl rfl rfl (Yld.lenString rfl rfl rfl Tryd.underlying9 rfl) ?_
  refine OpsJ.yld rfl rfl rfl (Yld.convInt rfl Tryd.underlying3 Tryd.underlying5 rfl) ?_
  rw [u8_wrap]
  refine OpsJ.yld rfl rfl rfl (Yld.build places_28 zero_28 rfl rfl rfl) ?_
  refine OpsJ.op rfl ?_
  refine OpJ.alloc rfl rfl rfl zero_28 fun nm hnm => ?_
  refine OpsJ.op rfl ?_
  refine OpJ.storeW (i := 0) rfl rfl rfl rfl sz_28 rfl rfl rfl ?_
  refine OpsJ.nil ?_
  refine ExJ.thenN ?_
  refine CodeJ.seq ?_
  refine CodeJ.seq ?_
  refine CodeJ.region ?_
  refine OpsJ.yld rfl rfl rfl (Yld.move rfl rfl) ?_
  refine OpsJ.yld rfl rfl rfl (Yld.lenString rfl rfl rfl Tryd.underlying9 rfl) ?_
  refine OpsJ.yld rfl rfl rfl (Yld.intBin rfl rfl rfl rfl) ?_
  refine OpsJ.nil ?_
  refine ExJ.thenN ?_
  refine CodeJ.condP rfl (fun c11 => ?_) (fun c11 => ?_)
  · have hbig : ¬ s.size ≤ 255 := by omega
    have hnl : newL s = [] := if_neg hbig
    refine CodeJ.seq ?_
    refine CodeJ.any (fuel := 4) (listed := #[false, false, false, false]) [0] rfl follows_mixed rfl rfl ?_
    refine AnyJ.take (fuel := 3) (listed' := #[true, false, false, false]) 0 rfl (by kernel_rfl) (by kernel_rfl) (by kernel_rfl) rfl rfl rfl rfl (Yld.build places_28 zero_28 rfl rfl rfl) (fun w hI => hI.pick (is := [0]) (by decide) rfl) ?_
    refine AnyJ.take (fuel := 2) (listed' := #[true, true, false, false]) 1 rfl (by kernel_rfl) (by kernel_rfl) (by kernel_rfl) rfl rfl rfl rfl (Yld.load1 rfl Tryd.underlying30 rfl rfl (fun w hI => hI.old (he0) (hn0))) (fun w hI => hI.pick (is := [0]) (by decide) rfl) ?_
    refine AnyJ.one (fuel := 1) 2 (by kernel_rfl) ?_
    refine StepJ.op (listed' := #[true, true, true, false]) rfl rfl rfl ?_
    refine OpJ.storeW (i := 1) rfl rfl rfl rfl sz_28 rfl rfl rfl ?_
    refine ⟨fun w hI => hI.pick (is := [0]) (by decide) rfl, ?_⟩
    refine AnyJ.take (fuel := 0) (listed' := #[true, true, true, true]) 3 rfl (by kernel_rfl) (by kernel_rfl) (by kernel_rfl) rfl rfl rfl rfl (Yld.assign rfl rfl) (fun w hI => hI.pick (is := [0]) (by decide) rfl) ?_
    refine AnyJ.done (by kernel_rfl) ?_
    refine ExJ.thenN ?_
    refine CodeJ.ret ?_
    refine ExJ.thenR ?_
    refine ExJ.retCT (vs := nameCs []) Tryd.results6 rfl rfl Tryd.underlying28 rfl sz_28 (fun w hI => Inv.whole hI (i := 1) rfl) ⟨⟨_, by rw [hnl], by rw [decide_eq_false hbig]; rfl⟩, rfl⟩ fun w hI => hI.pick (is := []) (by decide) rfl
  · have hle : s.size ≤ 255 := by omega
    have hnl : newL s = s.data.toList := if_pos hle
    have hll : s.data.toList.length ≤ 255 := by simpa using hle
    have hsz := nameCs_len s.data.toList hll
    have htk : s.data.toList.take 255 = s.data.toList := List.take_of_length_le hll
    refine CodeJ.skip ?_
    refine ExJ.thenN ?_
    refine CodeJ.seq ?_
    refine CodeJ.region ?_
    refine OpsJ.yld rfl rfl rfl (Yld.fieldAddr fa_28_0 rfl rfl) ?_
    refine OpsJ.yld rfl rfl rfl (Yld.sliceArrAll rfl Tryd.underlying26 sz_5 rfl) ?_
    refine OpsJ.yld rfl rfl rfl (Yld.move rfl rfl) ?_
    refine OpsJ.op rfl ?_
    refine OpJ.copyStr (i := 0) rfl rfl rfl Tryd.underlying36 sz_5 rfl rfl rfl (Nat.le_of_ble_eq_true rfl) ?_
    rw [htk]
    refine OpsJ.congrH (H' := [.blk nm (nameCs s.data.toList).toArray 28, _]) (congrArg (fun c => [Res.blk nm c 28, _]) (name_made' s.data.toList hll _ (by simp; omega))) ?_
    refine OpsJ.nil ?_
    refine ExJ.thenN ?_
    refine CodeJ.seq ?_
    refine CodeJ.region ?_
    refine OpsJ.yld rfl rfl rfl (Yld.loadN (vs := nameCs s.data.toList) rfl Tryd.underlying28 rfl (by rw [hsz]; exact sz_28) rfl (fun w hI => Inv.whole hI (i := 0) rfl)) ?_
    refine OpsJ.op rfl ?_
    refine OpJ.storeW (i := 1) rfl rfl rfl rfl (by show _ = some (nameCs s.data.toList).toArray.size; rw [List.size_toArray, hsz]; exact sz_28) rfl (nameCs_one _) (by show (nameCs s.data.toList).toArray.size = _; rw [List.size_toArray, hsz]; rfl) ?_
    refine OpsJ.yld rfl rfl rfl (Yld.assign rfl rfl) ?_
    refine OpsJ.nil ?_
    refine ExJ.thenN ?_
    refine CodeJ.ret ?_
    exact ExJ.retCT (vs := nameCs s.data.toList) Tryd.results6 rfl rfl Tryd.underlying28 rfl (by rw [hsz]; exact sz_28) (fun w hI => Inv.whole hI (i := 1) rfl) ⟨⟨_, by rw [hnl], by rw [decide_eq_true hle]; rfl⟩, rfl⟩ fun w hI => hI.pick (is := []) (by decide) rfl

theorem newName2_spec (s : ByteArray) (hs : s.size ≤ 9223372036854775807) : Spec Tryd.prog 4 [.string s] [] (fun w => ∃ t e, Cells w 0 0 [.iface t e])
    (fun r H' => r = .tuple #[strV (newL s), .bool (decide (s.size ≤ 255))] ∧ H' = []) := by
  refine Spec.of Tryd.func4 rfl Tryd.ntmps4 rfl fun w0 hR => ?_
  have hsz := nameCs_len (newL s) (newL_len s)
  refine CodeJ.seq ?_
  refine CodeJ.region ?_
  refine OpsJ.yld rfl rfl rfl (Yld.assign rfl rfl) ?_
  refine OpsJ.yld rfl rfl rfl (Yld.assign rfl rfl) ?_
  refine OpsJ.nil ?_
  refine ExJ.thenN ?_
  refine CodeJ.seq ?_
  refine CodeJ.region ?_
  refine OpsJ.yld rfl rfl rfl (Yld.move rfl rfl) ?_
  refine OpsJ.op rfl ?_
  refine OpJ.call (newName_spec s hs) has_6 rfl rfl rfl rfl rfl [] [] (by decide) rfl rfl ((fun w hI => by obtain ⟨t, e, h⟩ := hR; exact ⟨t, e, hI.old h (by simp [fp])⟩)) ?_
  rintro _ _ ⟨⟨x, rfl, hx⟩, rfl⟩
  refine OpsJ.yld rfl rfl rfl (Yld.move rfl rfl) ?_
  refine OpsJ.yld rfl rfl rfl (Yld.extract rfl rfl rfl) ?_
  refine OpsJ.yld rfl rfl rfl (Yld.extract rfl rfl rfl) ?_
  refine OpsJ.op rfl ?_
  refine OpJ.alloc rfl rfl rfl zero_28 fun nm hnm => ?_
  refine OpsJ.op rfl ?_
  refine OpJ.storeW (i := 0) rfl rfl rfl rfl (by show _ = some (nameCs (newL s)).toArray.size; rw [List.size_toArray, hsz]; exact sz_28) rfl (nameCs_one _) (by show (nameCs (newL s)).toArray.size = _; rw [List.size_toArray, hsz]; rfl) ?_
  refine OpsJ.yld rfl rfl rfl (Yld.assign rfl rfl) ?_
  refine OpsJ.nil ?_
  refine ExJ.thenN ?_
  refine CodeJ.seq ?_
  refine CodeJ.any (fuel := 6) (listed := #[false, false, false, false, false, false]) [0] rfl follows_mixed rfl rfl ?_
  refine AnyJ.take (fuel := 5) (listed' := #[true, false, false, false, false, false]) 0 rfl (by kernel_rfl) (by kernel_rfl) (by kernel_rfl) rfl rfl rfl rfl (Yld.loadN (vs := nameCs (newL s)) rfl Tryd.underlying28 rfl (by rw [hsz]; exact sz_28) rfl (fun w hI => Inv.whole hI (i := 0) rfl)) (fun w hI => hI.pick (is := [0]) (by decide) rfl) ?_
  refine AnyJ.take (fuel := 4) (listed' := #[true, false, true, false, false, false]) 2 rfl (by kernel_rfl) (by kernel_rfl) (by kernel_rfl) rfl rfl rfl rfl (Yld.move rfl rfl) (fun w hI => hI.pick (is := [0]) (by decide) rfl) ?_
  refine AnyJ.take (fuel := 3) (listed' := #[true, false, true, true, false, false]) 3 rfl (by kernel_rfl) (by kernel_rfl) (by kernel_rfl) rfl rfl rfl rfl (Yld.ifaceEqNil rfl Tryd.underlying30 rfl hx) (fun w hI => hI.pick (is := [0]) (by decide) rfl) ?_
  refine AnyJ.one (fuel := 2) 1 (by kernel_rfl) ?_
  refine StepJ.op (listed' := #[true, true, true, true, false, false]) rfl rfl rfl ?_
  refine OpJ.call (textOf_spec (newL s) (newL_len s)) has_7 rfl rfl rfl rfl rfl [] [0] (by decide) rfl rfl (fun _ _ => trivial) ?_
  rintro _ _ ⟨rfl, rfl⟩
  refine ⟨fun w hI => hI.pick (is := [0]) (by decide) rfl, ?_⟩
  refine AnyJ.take (fuel := 1) (listed' := #[true, true, true, true, true, false]) 4 rfl (by kernel_rfl) (by kernel_rfl) (by kernel_rfl) rfl rfl rfl rfl (Yld.assign rfl rfl) (fun w hI => hI.pick (is := [0]) (by decide) rfl) ?_
  refine AnyJ.take (fuel := 0) (listed' := #[true, true, true, true, true, true]) 5 rfl (by kernel_rfl) (by kernel_rfl) (by kernel_rfl) rfl rfl rfl rfl (Yld.assign rfl rfl) (fun w hI => hI.pick (is := [0]) (by decide) rfl) ?_
  refine AnyJ.done (by kernel_rfl) ?_
  refine ExJ.thenN ?_
  refine CodeJ.ret ?_
  exact ExJ.ret2 Tryd.results4 rfl rfl ⟨rfl, rfl⟩ fun w hI => hI.pick (is := []) (by decide) rfl

theorem fnName_spec (s : ByteArray) (hs : s.size ≤ 9223372036854775807) : Spec Tryd.prog 3 [.string s] [] (fun w => ∃ t e, Cells w 0 0 [.iface t e])
    (fun r H' => r = .bool true ∧ H' = []) := by
  refine Spec.of Tryd.func3 rfl Tryd.ntmps3 rfl fun w0 hR => ?_
  refine CodeJ.seq ?_
  refine CodeJ.region ?_
  refine OpsJ.yld rfl rfl rfl (Yld.assign rfl rfl) ?_
  refine OpsJ.nil ?_
  refine ExJ.thenN ?_
  refine CodeJ.seq ?_
  refine CodeJ.region ?_
  refine OpsJ.yld rfl rfl rfl (Yld.move rfl rfl) ?_
  refine OpsJ.op rfl ?_
  refine OpJ.call (newName2_spec s hs) has_4 rfl rfl rfl rfl rfl [] [] (by decide) rfl rfl ((fun w hI => by obtain ⟨t, e, h⟩ := hR; exact ⟨t, e, hI.old h (by simp [fp])⟩)) ?_
  rintro _ _ ⟨rfl, rfl⟩
  refine OpsJ.yld rfl rfl rfl (Yld.move rfl rfl) ?_
  refine OpsJ.yld rfl rfl rfl (Yld.extract rfl rfl rfl) ?_
  refine OpsJ.yld rfl rfl rfl (Yld.extract rfl rfl rfl) ?_
  refine OpsJ.yld rfl rfl rfl (Yld.assign rfl rfl) ?_
  refine OpsJ.yld rfl rfl rfl (Yld.assign rfl rfl) ?_
  refine OpsJ.nil ?_
  refine ExJ.thenN ?_
  refine CodeJ.seq ?_
  refine CodeJ.region ?_
  refine OpsJ.yld rfl rfl rfl (Yld.move rfl rfl) ?_
  refine OpsJ.yld rfl rfl rfl (Yld.move rfl rfl) ?_
  refine OpsJ.yld rfl rfl rfl (Yld.lenString rfl rfl rfl Tryd.underlying9 rfl) ?_
  refine OpsJ.yld rfl rfl rfl (Yld.intBin rfl rfl rfl rfl) ?_
  refine OpsJ.yld rfl rfl rfl (Yld.boolEq rfl Tryd.underlying4 rfl rfl) ?_
  have h14 : (decide (s.size ≤ 255) == decide ((s.size : Int) ≤ 255)) = true := by
    simp
    omega
  rw [h14]
  refine OpsJ.yld rfl rfl rfl (Yld.move rfl rfl) ?_
  refine OpsJ.splitB (s := 15) rfl (fun g15 => ?_) (fun g15 => ?_)
  · refine OpsJ.opT rfl rfl rfl ?_
    refine OpJ.yld rfl rfl (Yld.move rfl rfl) ?_
    refine OpsJ.opT rfl rfl rfl ?_
    refine OpJ.yld rfl rfl (Yld.not rfl rfl) ?_
    refine OpsJ.opT rfl rfl rfl ?_
    refine OpJ.yld rfl rfl (Yld.move rfl rfl) ?_
    refine OpsJ.splitB (s := 18) rfl (fun g18 => ?_) (fun g18 => ?_)
    · refine OpsJ.opF rfl rfl rfl rfl rfl rfl ?_
      refine OpsJ.opF rfl rfl rfl rfl rfl rfl ?_
      refine OpsJ.opF rfl rfl rfl rfl rfl rfl ?_
      refine OpsJ.opF rfl rfl rfl rfl rfl rfl ?_
      refine OpsJ.opF rfl rfl rfl rfl rfl rfl ?_
      refine OpsJ.opF rfl rfl rfl rfl rfl rfl ?_
      refine OpsJ.opF rfl rfl rfl rfl rfl rfl ?_
      refine OpsJ.opF rfl rfl rfl rfl rfl rfl ?_
      refine OpsJ.opF rfl rfl rfl rfl rfl rfl ?_
      refine OpsJ.opT rfl rfl rfl ?_
      refine OpJ.yld rfl rfl (Yld.pickT rfl rfl rfl) ?_
      refine OpsJ.yld rfl rfl rfl (Yld.pickT rfl rfl rfl) ?_
      refine OpsJ.yld rfl rfl rfl (Yld.assign rfl rfl) ?_
      refine OpsJ.nil ?_
      refine ExJ.thenN ?_
      refine CodeJ.ret ?_
      exact ExJ.ret1 Tryd.results3 rfl ⟨rfl, rfl⟩ fun w hI => hI
    · have hle : s.size ≤ 255 := by simpa using g18
      have hnl : newL s = s.data.toList := if_pos hle
      have hct : cut255 s = s.data.toList := List.take_of_length_le (by simpa using hle)
      refine OpsJ.opT rfl rfl rfl ?_
      refine OpJ.yld rfl rfl (Yld.move rfl rfl) ?_
      refine OpsJ.opT rfl rfl rfl ?_
      refine OpJ.yld rfl rfl (Yld.move rfl rfl) ?_
      refine OpsJ.opT rfl rfl rfl ?_
      refine OpJ.yld rfl rfl (Yld.strEq rfl rfl rfl) ?_
      have h21 : ((⟨(newL s).toArray⟩ : ByteArray).toList == s.toList) = true := by
        rw [hnl]
        simp
      rw [h21]
      refine OpsJ.opT rfl rfl rfl ?_
      refine OpJ.yld rfl rfl (Yld.move rfl rfl) ?_
      refine OpsJ.splitB (s := 22) rfl (fun g22 => ?_) (fun g22 => ?_)
      · refine OpsJ.opT rfl rfl rfl ?_
        refine OpJ.yld rfl rfl (Yld.move rfl rfl) ?_
        refine OpsJ.opT rfl rfl rfl ?_
        refine OpJ.call (nameText_spec s) has_5 rfl rfl rfl rfl rfl [] [] (by decide) rfl rfl (fun _ _ => trivial) ?_
        rintro _ _ ⟨rfl, rfl⟩
        refine OpsJ.opT rfl rfl rfl ?_
        refine OpJ.yld rfl rfl (Yld.move rfl rfl) ?_
        refine OpsJ.opT rfl rfl rfl ?_
        refine OpJ.yld rfl rfl (Yld.strEq rfl rfl rfl) ?_
        have h26 : ((⟨(cut255 s).toArray⟩ : ByteArray).toList == s.toList) = true := by
          rw [hct]
          simp
        rw [h26]
        refine OpsJ.opT rfl rfl rfl ?_
        refine OpJ.yld rfl rfl (Yld.pickT rfl rfl rfl) ?_
        refine OpsJ.opT rfl rfl rfl ?_
        refine OpJ.yld rfl rfl (Yld.pickF rfl rfl rfl) ?_
        refine OpsJ.yld rfl rfl rfl (Yld.pickT rfl rfl rfl) ?_
        refine OpsJ.yld rfl rfl rfl (Yld.assign rfl rfl) ?_
        refine OpsJ.nil ?_
        refine ExJ.thenN ?_
        refine CodeJ.ret ?_
        exact ExJ.ret1 Tryd.results3 rfl ⟨rfl, rfl⟩ fun w hI => hI
      · exact absurd g22 (by decide)
  · exact absurd g15 (by decide)
end Go.Proofs.YtpephhdjhibidaaDoor
