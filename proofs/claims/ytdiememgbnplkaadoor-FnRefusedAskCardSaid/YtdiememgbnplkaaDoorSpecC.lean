/-
  Contracts of the reference's writers: headers, questions.
-/
import Derived.Test.YtdiememgbnplkaaDoorData
namespace Go.Proofs.YtdiememgbnplkaaDoor
open Go
set_option maxRecDepth 100000

theorem u16_or (x y : Nat) (hx : x < 65536) (hy : y < 65536) : IntKind.u16.wrap ((BitVec.ofInt IntKind.u16.bits (x : Int) ||| BitVec.ofInt IntKind.u16.bits (y : Int)).toNat : Int) = ((x ||| y : Nat) : Int) := by
  have h := or_lt x y hx hy
  have hb : IntKind.u16.bits = 16 := rfl
  have h1 : ((x : Int) % (2 ^ 16 : Nat)).toNat = x := by omega
  have h2 : ((y : Int) % (2 ^ 16 : Nat)).toNat = y := by omega
  rw [u16_wrap, BitVec.toNat_or, BitVec.toNat_ofInt, BitVec.toNat_ofInt, hb, h1, h2, Nat.mod_eq_of_lt h]
theorem u16_shl11 (x : Nat) : IntKind.u16.wrap ((x : Int) * 2 ^ min (11 : Int).toNat IntKind.u16.bits) = ((x * 2048 % 65536 : Nat) : Int) := by
  have : (x : Int) * 2 ^ min (11 : Int).toNat IntKind.u16.bits = ((x * 2048 : Nat) : Int) := by simp [IntKind.bits]
  rw [this, u16_wrap]

theorem List.map_flatten_single {α β : Type} (l : List α) (f : α → β) : (l.map fun x => [f x]).flatten = l.map f := by
  induction l with
  | nil => rfl
  | cons x r ih => simp [ih]
theorem headWire_len (h : Hd) (ns : List Nat) : (headWire h ns).length = 4 + 2 * ns.length := by
  have : ∀ ns : List Nat, ((ns.map fun n => be16 (n % 65536)).flatten).length = 2 * ns.length := by
    intro ns
    induction ns with
    | nil => rfl
    | cons x r ih => simp only [List.map_cons, List.flatten_cons, List.length_append, ih, be16_len, List.length_cons]; omega
  simp only [headWire, List.length_append, this, be16_len]

theorem askWire_spec (a : AskD) (hs : a.name.size ≤ 254) : Spec Tryd.prog 29 [a.val] [] (fun _ => True) (RetB 5 (askWire a)) := by
  refine Spec.of Tryd.func29 rfl Tryd.ntmps29 rfl fun w0 _ => ?_
  have hle : (wire a.name.data.toList).length ≤ 509 := by
    have := wst_le a.name.data.toList
    rw [str_len] at this
    simp [wire]
    omega
  refine CodeJ.seq ?_
  refine CodeJ.region ?_
  refine OpsJ.op rfl ?_
  refine OpJ.box rfl rfl rfl rfl fun a1 ha1 => ?_
  refine OpsJ.yld rfl rfl rfl (Yld.assign rfl rfl) ?_
  refine OpsJ.nil ?_
  refine ExJ.thenN ?_
  refine CodeJ.seq ?_
  refine CodeJ.any (fuel := 12) (listed := #[false, false, false, false, false, false, false, false, false, false, false, false]) [0] rfl follows_mixed rfl rfl ?_
  refine AnyJ.take (fuel := 11) (listed' := #[true, false, false, false, false, false, false, false, false, false, false, false]) 0 rfl (by kernel_rfl) (by kernel_rfl) (by kernel_rfl) rfl rfl rfl rfl (Yld.fieldAddr fa_69_0 rfl rfl) (fun w hI => hI.pick (is := [0]) (by decide) rfl) ?_
  refine AnyJ.take (fuel := 10) (listed' := #[true, true, false, false, false, false, false, false, false, false, false, false]) 1 rfl (by kernel_rfl) (by kernel_rfl) (by kernel_rfl) rfl rfl rfl rfl (Yld.load1 rfl Tryd.underlying9 rfl rfl (fun w hI => Inv.cell1 hI (i := 0) rfl rfl)) (fun w hI => hI.pick (is := [0]) (by decide) rfl) ?_
  refine AnyJ.take (fuel := 9) (listed' := #[true, true, false, true, false, false, false, false, false, false, false, false]) 3 rfl (by kernel_rfl) (by kernel_rfl) (by kernel_rfl) rfl rfl rfl rfl (Yld.fieldAddr fa_69_1 rfl rfl) (fun w hI => hI.pick (is := [0]) (by decide) rfl) ?_
  refine AnyJ.take (fuel := 8) (listed' := #[true, true, false, true, true, false, false, false, false, false, false, false]) 4 rfl (by kernel_rfl) (by kernel_rfl) (by kernel_rfl) rfl rfl rfl rfl (Yld.load1 rfl Tryd.underlying22 rfl rfl (fun w hI => Inv.cell1 hI (i := 0) rfl rfl)) (fun w hI => hI.pick (is := [0]) (by decide) rfl) ?_
  refine AnyJ.take (fuel := 7) (listed' := #[true, true, false, true, true, false, true, false, false, false, false, false]) 6 rfl (by kernel_rfl) (by kernel_rfl) (by kernel_rfl) rfl rfl rfl rfl (Yld.fieldAddr fa_69_2 rfl rfl) (fun w hI => hI.pick (is := [0]) (by decide) rfl) ?_
  refine AnyJ.take (fuel := 6) (listed' := #[true, true, false, true, true, false, true, true, false, false, false, false]) 7 rfl (by kernel_rfl) (by kernel_rfl) (by kernel_rfl) rfl rfl rfl rfl (Yld.load1 rfl Tryd.underlying22 rfl rfl (fun w hI => Inv.cell1 hI (i := 0) rfl rfl)) (fun w hI => hI.pick (is := [0]) (by decide) rfl) ?_
  refine AnyJ.one (fuel := 5) 2 (by kernel_rfl) ?_
  refine StepJ.op (listed' := #[true, true, true, true, true, false, true, true, false, false, false, false]) rfl rfl rfl ?_
  refine OpJ.call (wire_spec _ (by omega)) has_49 rfl rfl rfl rfl rfl [] [0] (by decide) rfl rfl (fun _ _ => trivial) ?_
  rintro _ _ ⟨p5, c5, rfl, rfl⟩
  refine ⟨fun w hI => hI.pick (is := [1]) (by decide) rfl, ?_⟩
  refine AnyJ.one (fuel := 4) 5 (by kernel_rfl) ?_
  refine StepJ.op (listed' := #[true, true, true, true, true, true, true, true, false, false, false, false]) rfl rfl rfl ?_
  refine OpJ.call (two_spec _) has_34 rfl rfl rfl rfl rfl [] [0, 1] (by decide) rfl rfl (fun _ _ => trivial) ?_
  rintro _ _ ⟨p8, c8, rfl, rfl⟩
  refine ⟨fun w hI => hI.pick (is := [2]) (by decide) rfl, ?_⟩
  refine AnyJ.one (fuel := 3) 8 (by kernel_rfl) ?_
  refine StepJ.op (listed' := #[true, true, true, true, true, true, true, true, true, false, false, false]) rfl rfl rfl ?_
  refine OpJ.call (two_spec _) has_34 rfl rfl rfl rfl rfl [] [0, 1, 2] (by decide) rfl rfl (fun _ _ => trivial) ?_
  rintro _ _ ⟨p11, c11, rfl, rfl⟩
  refine ⟨fun w hI => hI.pick (is := [3]) (by decide) rfl, ?_⟩
  refine AnyJ.one (fuel := 2) 9 (by kernel_rfl) ?_
  refine StepJ.op (listed' := #[true, true, true, true, true, true, true, true, true, true, false, false]) rfl rfl rfl ?_
  refine OpJ.buildSlice (xs := [.tmp 5, .tmp 8, .tmp 11]) elt_115 rfl rfl rfl rfl rfl rfl (by rfl) (by decide) fun parts hparts => ?_
  refine ⟨fun w hI => hI.pick (is := [4]) (by decide) rfl, ?_⟩
  refine AnyJ.one (fuel := 1) 10 (by kernel_rfl) ?_
  refine StepJ.op (listed' := #[true, true, true, true, true, true, true, true, true, true, true, false]) rfl rfl rfl ?_
  refine OpJ.call (joined_spec _ [wire a.name.data.toList, be16 a.typ, be16 a.cls] (by simp [be16_len]; omega) (by simp)) has_28 rfl rfl rfl rfl rfl [] [0, 1, 2, 3, 4] (by decide) rfl rfl (Inv.parts (i := 0) rfl rfl ⟨Inv.bytes (k := 3) rfl, Inv.bytes (k := 2) rfl, Inv.bytes (k := 1) rfl, trivial⟩) ?_
  rintro _ _ ⟨p13, c13, rfl, rfl⟩
  refine ⟨fun w hI => hI.pick (is := [5]) (by decide) rfl, ?_⟩
  refine AnyJ.take (fuel := 0) (listed' := #[true, true, true, true, true, true, true, true, true, true, true, true]) 11 rfl (by kernel_rfl) (by kernel_rfl) (by kernel_rfl) rfl rfl rfl rfl (Yld.assign rfl rfl) (fun w hI => hI.pick (is := [5]) (by decide) rfl) ?_
  refine AnyJ.done (by kernel_rfl) ?_
  refine ExJ.thenN ?_
  refine CodeJ.ret ?_
  have he : askWire a = [wire a.name.data.toList, be16 a.typ, be16 a.cls].flatten := by simp [askWire]
  rw [he]
  exact ExJ.retB Tryd.results29 rfl fun w hI => hI.pick (is := [0]) (by decide) rfl

theorem headWire_spec (h : Hd) (hw : h.wf) (v : Value) (ns : List Nat) (hl : ns.length < 1000) :
    Spec Tryd.prog 22 [headV h, v] [] (fun w => Ints w v ns) (RetB 5 (headWire h ns)) := by
  refine Spec.of Tryd.func22 rfl Tryd.ntmps22 rfl fun w0 hv => ?_
  obtain ⟨pv, cv, rfl⟩ := hv.shape
  have hop : h.code < 65536 := hw.2.2
  refine CodeJ.seq ?_
  refine CodeJ.region ?_
  refine OpsJ.op rfl ?_
  refine OpJ.box rfl rfl rfl rfl fun hb hhb => ?_
  refine OpsJ.yld rfl rfl rfl (Yld.assign rfl rfl) ?_
  refine OpsJ.nil ?_
  refine ExJ.thenN ?_
  refine CodeJ.seq ?_
  refine CodeJ.any (fuel := 20) (listed := #[false, false, false, false, false, false, false, false, false, false, false, false, false, false, false, false, false, false, false, false]) [0] rfl follows_mixed rfl rfl ?_
  refine AnyJ.take (fuel := 19) (listed' := #[true, false, false, false, false, false, false, false, false, false, false, false, false, false, false, false, false, false, false, false]) 0 rfl (by kernel_rfl) (by kernel_rfl) (by kernel_rfl) rfl rfl rfl rfl (Yld.fieldAddr fa_33_1 rfl rfl) (fun w hI => hI.pick (is := [0]) (by decide) rfl) ?_
  refine AnyJ.take (fuel := 18) (listed' := #[true, true, false, false, false, false, false, false, false, false, false, false, false, false, false, false, false, false, false, false]) 1 rfl (by kernel_rfl) (by kernel_rfl) (by kernel_rfl) rfl rfl rfl rfl (Yld.load1 rfl Tryd.underlying4 rfl rfl (fun w hI => Inv.cell1 hI (i := 0) rfl rfl)) (fun w hI => hI.pick (is := [0]) (by decide) rfl) ?_
  refine AnyJ.take (fuel := 17) (listed' := #[true, true, false, true, false, false, false, false, false, false, false, false, false, false, false, false, false, false, false, false]) 3 rfl (by kernel_rfl) (by kernel_rfl) (by kernel_rfl) rfl rfl rfl rfl (Yld.fieldAddr fa_33_2 rfl rfl) (fun w hI => hI.pick (is := [0]) (by decide) rfl) ?_
  refine AnyJ.take (fuel := 16) (listed' := #[true, true, false, true, true, false, false, false, false, false, false, false, false, false, false, false, false, false, false, false]) 4 rfl (by kernel_rfl) (by kernel_rfl) (by kernel_rfl) rfl rfl rfl rfl (Yld.load1 rfl Tryd.underlying22 rfl rfl (fun w hI => Inv.cell1 hI (i := 0) rfl rfl)) (fun w hI => hI.pick (is := [0]) (by decide) rfl) ?_
  refine AnyJ.take (fuel := 15) (listed' := #[true, true, false, true, true, true, false, false, false, false, false, false, false, false, false, false, false, false, false, false]) 5 rfl (by kernel_rfl) (by kernel_rfl) (by kernel_rfl) rfl rfl rfl rfl (Yld.shl rfl rfl rfl (by decide)) (fun w hI => hI.pick (is := [0]) (by decide) rfl) ?_
  rw [u16_shl11]
  refine AnyJ.take (fuel := 14) (listed' := #[true, true, false, true, true, true, false, true, false, false, false, false, false, false, false, false, false, false, false, false]) 7 rfl (by kernel_rfl) (by kernel_rfl) (by kernel_rfl) rfl rfl rfl rfl (Yld.fieldAddr fa_33_3 rfl rfl) (fun w hI => hI.pick (is := [0]) (by decide) rfl) ?_
  refine AnyJ.take (fuel := 13) (listed' := #[true, true, false, true, true, true, false, true, true, false, false, false, false, false, false, false, false, false, false, false]) 8 rfl (by kernel_rfl) (by kernel_rfl) (by kernel_rfl) rfl rfl rfl rfl (Yld.load1 rfl Tryd.underlying4 rfl rfl (fun w hI => Inv.cell1 hI (i := 0) rfl rfl)) (fun w hI => hI.pick (is := [0]) (by decide) rfl) ?_
  refine AnyJ.take (fuel := 12) (listed' := #[true, true, false, true, true, true, false, true, true, false, false, true, false, false, false, false, false, false, false, false]) 11 rfl (by kernel_rfl) (by kernel_rfl) (by kernel_rfl) rfl rfl rfl rfl (Yld.fieldAddr fa_33_4 rfl rfl) (fun w hI => hI.pick (is := [0]) (by decide) rfl) ?_
  refine AnyJ.take (fuel := 11) (listed' := #[true, true, false, true, true, true, false, true, true, false, false, true, true, false, false, false, false, false, false, false]) 12 rfl (by kernel_rfl) (by kernel_rfl) (by kernel_rfl) rfl rfl rfl rfl (Yld.load1 rfl Tryd.underlying4 rfl rfl (fun w hI => Inv.cell1 hI (i := 0) rfl rfl)) (fun w hI => hI.pick (is := [0]) (by decide) rfl) ?_
  refine AnyJ.take (fuel := 10) (listed' := #[true, true, false, true, true, true, false, true, true, false, false, true, true, false, false, true, false, false, false, false]) 15 rfl (by kernel_rfl) (by kernel_rfl) (by kernel_rfl) rfl rfl rfl rfl (Yld.fieldAddr fa_33_5 rfl rfl) (fun w hI => hI.pick (is := [0]) (by decide) rfl) ?_
  refine AnyJ.take (fuel := 9) (listed' := #[true, true, false, true, true, true, false, true, true, false, false, true, true, false, false, true, true, false, false, false]) 16 rfl (by kernel_rfl) (by kernel_rfl) (by kernel_rfl) rfl rfl rfl rfl (Yld.load1 rfl Tryd.underlying4 rfl rfl (fun w hI => Inv.cell1 hI (i := 0) rfl rfl)) (fun w hI => hI.pick (is := [0]) (by decide) rfl) ?_
  refine AnyJ.one (fuel := 8) 2 (by kernel_rfl) ?_
  refine StepJ.op (listed' := #[true, true, true, true, true, true, false, true, true, false, false, true, true, false, false, true, true, false, false, false]) rfl rfl rfl ?_
  refine OpJ.call (flag_spec _ 32768) has_33 rfl rfl rfl rfl rfl [] [0] (by decide) rfl rfl (fun _ _ => trivial) ?_
  rintro _ _ ⟨rfl, rfl⟩
  refine ⟨fun w hI => hI.pick (is := [0]) (by decide) rfl, ?_⟩
  refine AnyJ.take (fuel := 7) (listed' := #[true, true, true, true, true, true, true, true, true, false, false, true, true, false, false, true, true, false, false, false]) 6 rfl (by kernel_rfl) (by kernel_rfl) (by kernel_rfl) rfl rfl rfl rfl (Yld.intBin rfl rfl rfl rfl) (fun w hI => hI.pick (is := [0]) (by decide) rfl) ?_
  rw [u16_or (flagN h.qr 32768) (h.op * 2048 % 65536) (by repeat (first | assumption | exact flagN_lt _ _ (by decide) | exact Nat.mod_lt _ (by decide) | apply or_lt)) (by repeat (first | assumption | exact flagN_lt _ _ (by decide) | exact Nat.mod_lt _ (by decide) | apply or_lt))]
  refine AnyJ.one (fuel := 6) 9 (by kernel_rfl) ?_
  refine StepJ.op (listed' := #[true, true, true, true, true, true, true, true, true, true, false, true, true, false, false, true, true, false, false, false]) rfl rfl rfl ?_
  refine OpJ.call (flag_spec _ 1024) has_33 rfl rfl rfl rfl rfl [] [0] (by decide) rfl rfl (fun _ _ => trivial) ?_
  rintro _ _ ⟨rfl, rfl⟩
  refine ⟨fun w hI => hI.pick (is := [0]) (by decide) rfl, ?_⟩
  refine AnyJ.take (fuel := 5) (listed' := #[true, true, true, true, true, true, true, true, true, true, true, true, true, false, false, true, true, false, false, false]) 10 rfl (by kernel_rfl) (by kernel_rfl) (by kernel_rfl) rfl rfl rfl rfl (Yld.intBin rfl rfl rfl rfl) (fun w hI => hI.pick (is := [0]) (by decide) rfl) ?_
  rw [u16_or (flagN h.qr 32768 ||| h.op * 2048 % 65536) (flagN h.aa 1024) (by repeat (first | assumption | exact flagN_lt _ _ (by decide) | exact Nat.mod_lt _ (by decide) | apply or_lt)) (by repeat (first | assumption | exact flagN_lt _ _ (by decide) | exact Nat.mod_lt _ (by decide) | apply or_lt))]
  refine AnyJ.one (fuel := 4) 13 (by kernel_rfl) ?_
  refine StepJ.op (listed' := #[true, true, true, true, true, true, true, true, true, true, true, true, true, true, false, true, true, false, false, false]) rfl rfl rfl ?_
  refine OpJ.call (flag_spec _ 512) has_33 rfl rfl rfl rfl rfl [] [0] (by decide) rfl rfl (fun _ _ => trivial) ?_
  rintro _ _ ⟨rfl, rfl⟩
  refine ⟨fun w hI => hI.pick (is := [0]) (by decide) rfl, ?_⟩
  refine AnyJ.take (fuel := 3) (listed' := #[true, true, true, true, true, true, true, true, true, true, true, true, true, true, true, true, true, false, false, false]) 14 rfl (by kernel_rfl) (by kernel_rfl) (by kernel_rfl) rfl rfl rfl rfl (Yld.intBin rfl rfl rfl rfl) (fun w hI => hI.pick (is := [0]) (by decide) rfl) ?_
  rw [u16_or (flagN h.qr 32768 ||| h.op * 2048 % 65536 ||| flagN h.aa 1024) (flagN h.tc 512) (by repeat (first | assumption | exact flagN_lt _ _ (by decide) | exact Nat.mod_lt _ (by decide) | apply or_lt)) (by repeat (first | assumption | exact flagN_lt _ _ (by decide) | exact Nat.mod_lt _ (by decide) | apply or_lt))]
  refine AnyJ.one (fuel := 2) 17 (by kernel_rfl) ?_
  refine StepJ.op (listed' := #[true, true, true, true, true, true, true, true, true, true, true, true, true, true, true, true, true, true, false, false]) rfl rfl rfl ?_
  refine OpJ.call (flag_spec _ 256) has_33 rfl rfl rfl rfl rfl [] [0] (by decide) rfl rfl (fun _ _ => trivial) ?_
  rintro _ _ ⟨rfl, rfl⟩
  refine ⟨fun w hI => hI.pick (is := [0]) (by decide) rfl, ?_⟩
  refine AnyJ.take (fuel := 1) (listed' := #[true, true, true, true, true, true, true, true, true, true, true, true, true, true, true, true, true, true, true, false]) 18 rfl (by kernel_rfl) (by kernel_rfl) (by kernel_rfl) rfl rfl rfl rfl (Yld.intBin rfl rfl rfl rfl) (fun w hI => hI.pick (is := [0]) (by decide) rfl) ?_
  rw [u16_or (flagN h.qr 32768 ||| h.op * 2048 % 65536 ||| flagN h.aa 1024 ||| flagN h.tc 512) (flagN h.rd 256) (by repeat (first | assumption | exact flagN_lt _ _ (by decide) | exact Nat.mod_lt _ (by decide) | apply or_lt)) (by repeat (first | assumption | exact flagN_lt _ _ (by decide) | exact Nat.mod_lt _ (by decide) | apply or_lt))]
  refine AnyJ.take (fuel := 0) (listed' := #[true, true, true, true, true, true, true, true, true, true, true, true, true, true, true, true, true, true, true, true]) 19 rfl (by kernel_rfl) (by kernel_rfl) (by kernel_rfl) rfl rfl rfl rfl (Yld.assign rfl rfl) (fun w hI => hI.pick (is := [0]) (by decide) rfl) ?_
  refine AnyJ.done (by kernel_rfl) ?_
  refine ExJ.thenN ?_
  refine CodeJ.seq ?_
  refine CodeJ.any (fuel := 17) (listed := #[false, false, false, false, false, false, false, false, false, false, false, false, false, false, false, false, false]) [0] rfl follows_mixed rfl rfl ?_
  refine AnyJ.take (fuel := 16) (listed' := #[true, false, false, false, false, false, false, false, false, false, false, false, false, false, false, false, false]) 0 rfl (by kernel_rfl) (by kernel_rfl) (by kernel_rfl) rfl rfl rfl rfl (Yld.move rfl rfl) (fun w hI => hI.pick (is := [0]) (by decide) rfl) ?_
  refine AnyJ.take (fuel := 15) (listed' := #[true, true, false, false, false, false, false, false, false, false, false, false, false, false, false, false, false]) 1 rfl (by kernel_rfl) (by kernel_rfl) (by kernel_rfl) rfl rfl rfl rfl (Yld.fieldAddr fa_33_6 rfl rfl) (fun w hI => hI.pick (is := [0]) (by decide) rfl) ?_
  refine AnyJ.take (fuel := 14) (listed' := #[true, true, true, false, false, false, false, false, false, false, false, false, false, false, false, false, false]) 2 rfl (by kernel_rfl) (by kernel_rfl) (by kernel_rfl) rfl rfl rfl rfl (Yld.load1 rfl Tryd.underlying4 rfl rfl (fun w hI => Inv.cell1 hI (i := 0) rfl rfl)) (fun w hI => hI.pick (is := [0]) (by decide) rfl) ?_
  refine AnyJ.take (fuel := 13) (listed' := #[true, true, true, false, true, false, false, false, false, false, false, false, false, false, false, false, false]) 4 rfl (by kernel_rfl) (by kernel_rfl) (by kernel_rfl) rfl rfl rfl rfl (Yld.fieldAddr fa_33_7 rfl rfl) (fun w hI => hI.pick (is := [0]) (by decide) rfl) ?_
  refine AnyJ.take (fuel := 12) (listed' := #[true, true, true, false, true, true, false, false, false, false, false, false, false, false, false, false, false]) 5 rfl (by kernel_rfl) (by kernel_rfl) (by kernel_rfl) rfl rfl rfl rfl (Yld.load1 rfl Tryd.underlying4 rfl rfl (fun w hI => Inv.cell1 hI (i := 0) rfl rfl)) (fun w hI => hI.pick (is := [0]) (by decide) rfl) ?_
  refine AnyJ.take (fuel := 11) (listed' := #[true, true, true, false, true, true, false, false, true, false, false, false, false, false, false, false, false]) 8 rfl (by kernel_rfl) (by kernel_rfl) (by kernel_rfl) rfl rfl rfl rfl (Yld.fieldAddr fa_33_8 rfl rfl) (fun w hI => hI.pick (is := [0]) (by decide) rfl) ?_
  refine AnyJ.take (fuel := 10) (listed' := #[true, true, true, false, true, true, false, false, true, true, false, false, false, false, false, false, false]) 9 rfl (by kernel_rfl) (by kernel_rfl) (by kernel_rfl) rfl rfl rfl rfl (Yld.load1 rfl Tryd.underlying4 rfl rfl (fun w hI => Inv.cell1 hI (i := 0) rfl rfl)) (fun w hI => hI.pick (is := [0]) (by decide) rfl) ?_
  refine AnyJ.take (fuel := 9) (listed' := #[true, true, true, false, true, true, false, false, true, true, false, false, true, false, false, false, false]) 12 rfl (by kernel_rfl) (by kernel_rfl) (by kernel_rfl) rfl rfl rfl rfl (Yld.fieldAddr fa_33_9 rfl rfl) (fun w hI => hI.pick (is := [0]) (by decide) rfl) ?_
  refine AnyJ.take (fuel := 8) (listed' := #[true, true, true, false, true, true, false, false, true, true, false, false, true, true, false, false, false]) 13 rfl (by kernel_rfl) (by kernel_rfl) (by kernel_rfl) rfl rfl rfl rfl (Yld.load1 rfl Tryd.underlying22 rfl rfl (fun w hI => Inv.cell1 hI (i := 0) rfl rfl)) (fun w hI => hI.pick (is := [0]) (by decide) rfl) ?_
  refine AnyJ.one (fuel := 7) 3 (by kernel_rfl) ?_
  refine StepJ.op (listed' := #[true, true, true, true, true, true, false, false, true, true, false, false, true, true, false, false, false]) rfl rfl rfl ?_
  refine OpJ.call (flag_spec _ 128) has_33 rfl rfl rfl rfl rfl [] [0] (by decide) rfl rfl (fun _ _ => trivial) ?_
  rintro _ _ ⟨rfl, rfl⟩
  refine ⟨fun w hI => hI.pick (is := [0]) (by decide) rfl, ?_⟩
  refine AnyJ.one (fuel := 6) 6 (by kernel_rfl) ?_
  refine StepJ.op (listed' := #[true, true, true, true, true, true, true, false, true, true, false, false, true, true, false, false, false]) rfl rfl rfl ?_
  refine OpJ.call (flag_spec _ 32) has_33 rfl rfl rfl rfl rfl [] [0] (by decide) rfl rfl (fun _ _ => trivial) ?_
  rintro _ _ ⟨rfl, rfl⟩
  refine ⟨fun w hI => hI.pick (is := [0]) (by decide) rfl, ?_⟩
  refine AnyJ.take (fuel := 5) (listed' := #[true, true, true, true, true, true, true, true, true, true, false, false, true, true, false, false, false]) 7 rfl (by kernel_rfl) (by kernel_rfl) (by kernel_rfl) rfl rfl rfl rfl (Yld.intBin rfl rfl rfl rfl) (fun w hI => hI.pick (is := [0]) (by decide) rfl) ?_
  rw [u16_or (flagN h.ra 128) (flagN h.ad 32) (by repeat (first | assumption | exact flagN_lt _ _ (by decide) | exact Nat.mod_lt _ (by decide) | apply or_lt)) (by repeat (first | assumption | exact flagN_lt _ _ (by decide) | exact Nat.mod_lt _ (by decide) | apply or_lt))]
  refine AnyJ.one (fuel := 4) 10 (by kernel_rfl) ?_
  refine StepJ.op (listed' := #[true, true, true, true, true, true, true, true, true, true, true, false, true, true, false, false, false]) rfl rfl rfl ?_
  refine OpJ.call (flag_spec _ 16) has_33 rfl rfl rfl rfl rfl [] [0] (by decide) rfl rfl (fun _ _ => trivial) ?_
  rintro _ _ ⟨rfl, rfl⟩
  refine ⟨fun w hI => hI.pick (is := [0]) (by decide) rfl, ?_⟩
  refine AnyJ.take (fuel := 3) (listed' := #[true, true, true, true, true, true, true, true, true, true, true, true, true, true, false, false, false]) 11 rfl (by kernel_rfl) (by kernel_rfl) (by kernel_rfl) rfl rfl rfl rfl (Yld.intBin rfl rfl rfl rfl) (fun w hI => hI.pick (is := [0]) (by decide) rfl) ?_
  rw [u16_or (flagN h.ra 128 ||| flagN h.ad 32) (flagN h.cd 16) (by repeat (first | assumption | exact flagN_lt _ _ (by decide) | exact Nat.mod_lt _ (by decide) | apply or_lt)) (by repeat (first | assumption | exact flagN_lt _ _ (by decide) | exact Nat.mod_lt _ (by decide) | apply or_lt))]
  refine AnyJ.take (fuel := 2) (listed' := #[true, true, true, true, true, true, true, true, true, true, true, true, true, true, true, false, false]) 14 rfl (by kernel_rfl) (by kernel_rfl) (by kernel_rfl) rfl rfl rfl rfl (Yld.intBin rfl rfl rfl rfl) (fun w hI => hI.pick (is := [0]) (by decide) rfl) ?_
  rw [u16_or (flagN h.ra 128 ||| flagN h.ad 32 ||| flagN h.cd 16) (h.code) (by repeat (first | assumption | exact flagN_lt _ _ (by decide) | exact Nat.mod_lt _ (by decide) | apply or_lt)) (by repeat (first | assumption | exact flagN_lt _ _ (by decide) | exact Nat.mod_lt _ (by decide) | apply or_lt))]
  refine AnyJ.take (fuel := 1) (listed' := #[true, true, true, true, true, true, true, true, true, true, true, true, true, true, true, true, false]) 15 rfl (by kernel_rfl) (by kernel_rfl) (by kernel_rfl) rfl rfl rfl rfl (Yld.intBin rfl rfl rfl rfl) (fun w hI => hI.pick (is := [0]) (by decide) rfl) ?_
  rw [u16_or (flagN h.qr 32768 ||| h.op * 2048 % 65536 ||| flagN h.aa 1024 ||| flagN h.tc 512 ||| flagN h.rd 256) (flagN h.ra 128 ||| flagN h.ad 32 ||| flagN h.cd 16 ||| h.code) (by repeat (first | assumption | exact flagN_lt _ _ (by decide) | exact Nat.mod_lt _ (by decide) | apply or_lt)) (by repeat (first | assumption | exact flagN_lt _ _ (by decide) | exact Nat.mod_lt _ (by decide) | apply or_lt))]
  refine AnyJ.take (fuel := 0) (listed' := #[true, true, true, true, true, true, true, true, true, true, true, true, true, true, true, true, true]) 16 rfl (by kernel_rfl) (by kernel_rfl) (by kernel_rfl) rfl rfl rfl rfl (Yld.assign rfl rfl) (fun w hI => hI.pick (is := [0]) (by decide) rfl) ?_
  refine AnyJ.done (by kernel_rfl) ?_
  refine ExJ.thenN ?_
  refine CodeJ.seq ?_
  refine CodeJ.region ?_
  refine OpsJ.yld rfl rfl rfl (Yld.fieldAddr fa_33_0 rfl rfl) ?_
  refine OpsJ.yld rfl rfl rfl (Yld.load1 rfl Tryd.underlying22 rfl rfl (fun w hI => Inv.cell1 hI (i := 0) rfl rfl)) ?_
  refine OpsJ.op rfl ?_
  refine OpJ.call (two_spec _) has_34 rfl rfl rfl rfl rfl [] [0] (by decide) rfl rfl (fun _ _ => trivial) ?_
  rintro _ _ ⟨p46, c46, rfl, rfl⟩
  refine OpsJ.yld rfl rfl rfl (Yld.move rfl rfl) ?_
  refine OpsJ.op rfl ?_
  refine OpJ.call (two_spec _) has_34 rfl rfl rfl rfl rfl [] [0, 1] (by decide) rfl rfl (fun _ _ => trivial) ?_
  rintro _ _ ⟨p48, c48, rfl, rfl⟩
  refine OpsJ.op rfl ?_
  refine OpJ.buildSlice (xs := [.tmp 46, .tmp 48]) elt_115 rfl rfl rfl rfl rfl rfl (by rfl) (by decide) fun parts hparts => ?_
  refine OpsJ.op rfl ?_
  refine OpJ.call (joined_spec _ [be16 h.id, be16 h.bits] (by simp [be16_len]) (by simp)) has_28 rfl rfl rfl rfl rfl [] [0, 1, 2, 3] (by decide) rfl rfl (Inv.parts (i := 0) rfl rfl ⟨Inv.bytes (k := 2) rfl, Inv.bytes (k := 1) rfl, trivial⟩) ?_
  rintro _ _ ⟨p50, c50, rfl, rfl⟩
  refine OpsJ.yld rfl rfl rfl (Yld.assign rfl rfl) ?_
  refine OpsJ.nil ?_
  refine ExJ.thenN ?_
  refine CodeJ.seq ?_
  refine CodeJ.seq ?_
  refine CodeJ.region ?_
  refine OpsJ.yld rfl rfl rfl (Yld.move rfl rfl) ?_
  refine OpsJ.yld rfl rfl rfl (Yld.lenSlice rfl rfl rfl Tryd.underlying35 rfl) ?_
  refine OpsJ.yld rfl rfl rfl (Yld.move rfl rfl) ?_
  refine OpsJ.nil ?_
  refine ExJ.thenN ?_
  refine CodeJ.block ?_
  refine CodeJ.loopP (fun L H m => ∃ (k : Nat) (p : Option Addr) (q : Nat), k ≤ ns.length ∧ L = [(6, .slice p (headWire h (ns.take k)).length q), (51, .slice pv ns.length cv), (52, .int .i64 ns.length), (53, .int .i64 k)] ∧ H = [ownB 5 (.slice p (headWire h (ns.take k)).length q) (headWire h (ns.take k))] ∧ m = ns.length - k) ⟨0, p50, c50, Nat.zero_le _, rfl, rfl, rfl⟩ ⟨rfl, rfl, rfl, rfl, trivial⟩ (fun w hI => hI.pick (is := [0]) (by decide) rfl) ?_
  rintro _ _ _ ⟨k, p, q, hk, rfl, rfl, rfl⟩
  refine CodeJ.seq ?_
  refine CodeJ.region ?_
  refine OpsJ.yld rfl rfl rfl (Yld.intBin rfl rfl rfl rfl) ?_
  refine OpsJ.nil ?_
  refine ExJ.thenN ?_
  refine CodeJ.seq ?_
  refine CodeJ.condP rfl (fun c54 => ?_) (fun c54 => ?_)
  · have hk' : k < ns.length := by omega
    obtain ⟨x, hx⟩ : ∃ x, ns[k]? = some x := ⟨ns[k], List.getElem?_eq_getElem hk'⟩
    have hnx : headWire h (ns.take (k + 1)) = headWire h (ns.take k) ++ be16 (x % 65536) := by
      rw [take_snoc _ _ _ hx]
      simp [headWire]
    obtain ⟨b, off, c, hpv, hcell⟩ := Row.at (xss := ns.map fun k => [Value.int .i64 (k : Nat)]) (by rw [List.map_flatten_single]; exact hv) (by simp) (by simp) hk'
    simp only [Value.slice.injEq] at hpv
    obtain ⟨rfl, _, rfl⟩ := hpv
    have hcx := hcell [.int .i64 (x : Nat)] (by simp [hx])
    have hlen : (headWire h (ns.take k)).length ≤ 3000 := by
      rw [headWire_len, List.length_take]
      omega
    refine CodeJ.skip ?_
    refine ExJ.thenN ?_
    refine CodeJ.seq ?_
    refine CodeJ.block ?_
    refine CodeJ.seq ?_
    refine CodeJ.region ?_
    refine OpsJ.yld rfl rfl rfl (Yld.indexAddr rfl Tryd.underlying35 sz_3 rfl rfl hk') ?_
    refine OpsJ.yld rfl rfl rfl (Yld.load1 rfl Tryd.underlying3 rfl rfl (fun w hI => hI.old hcx (by simp [fp]))) ?_
    refine OpsJ.yld rfl rfl rfl (Yld.assign rfl rfl) ?_
    refine OpsJ.nil ?_
    refine ExJ.thenN ?_
    refine CodeJ.region ?_
    refine OpsJ.yld rfl rfl rfl (Yld.move rfl rfl) ?_
    refine OpsJ.yld rfl rfl rfl (Yld.move rfl rfl) ?_
    refine OpsJ.yld rfl rfl rfl (Yld.convInt rfl Tryd.underlying3 Tryd.underlying22 rfl) ?_
    rw [u16_wrap]
    refine OpsJ.op rfl ?_
    refine OpJ.call (two_spec _) has_34 rfl rfl rfl rfl rfl [] [0] (by decide) rfl rfl (fun _ _ => trivial) ?_
    rintro _ _ ⟨p60, c60, rfl, rfl⟩
    refine OpsJ.op rfl ?_
    refine OpJ.appendO (i := 1) elt_29 rfl rfl rfl rfl rfl rfl (fun w hI => Bytes.src (Inv.bytes (k := 0) rfl w hI) Tryd.underlying29) (by rw [be16_len]; omega) fun p61 c61 => ?_
    refine OpsJ.yld rfl rfl rfl (Yld.assign rfl rfl) ?_
    refine OpsJ.nil ?_
    refine ExJ.blockN ?_
    refine ExJ.thenN ?_
    refine CodeJ.region ?_
    refine OpsJ.yld rfl rfl rfl (Yld.intBin rfl rfl rfl rfl) ?_
    rw [i64_succ k (by omega)]
    refine OpsJ.yld rfl rfl rfl (Yld.move rfl rfl) ?_
    refine OpsJ.nil ?_
    exact ExJ.againP ⟨k + 1, p61, c61, by omega, rfl, rfl, rfl⟩ (by omega) ⟨by rw [hnx]; rfl, rfl, rfl, rfl, trivial⟩ fun w hI => by rw [hnx]; exact hI.pick (is := [1]) (by decide) rfl
  · obtain rfl : k = ns.length := by omega
    rw [List.take_length]
    refine CodeJ.exit ?_
    refine ExJ.thenX ?_
    refine ExJ.thenX ?_
    refine ExJ.blockHit ?_
    refine ExJ.thenN ?_
    refine CodeJ.seq ?_
    refine CodeJ.region ?_
    refine OpsJ.yld rfl rfl rfl (Yld.move rfl rfl) ?_
    refine OpsJ.yld rfl rfl rfl (Yld.assign rfl rfl) ?_
    refine OpsJ.nil ?_
    refine ExJ.thenN ?_
    refine CodeJ.ret ?_
    exact ExJ.retB Tryd.results22 rfl fun w hI => hI
end Go.Proofs.YtdiememgbnplkaaDoor
