/-
  Contracts of the reference's reader: bytes of any number, options and parameters, names that stand whole.
-/
import Derived.Test.YtamobccbioafmaaDoorBh
import Derived.Test.YtamobccbioafmaaDoorHBodyP
import Derived.Test.YtamobccbioafmaaDoorHKPair
namespace Go.Proofs.YtamobccbioafmaaDoor
open Go
set_option maxRecDepth 100000

/-- bytes that were taken: none, or those that stand at o -/
def Took (db o : Nat) (x : Value) (l : List UInt8) : Prop := (∃ p c, x = .slice p 0 c ∧ l = []) ∨ ∃ c, x = .slice (some ⟨db, o, none⟩) l.length c
theorem Took.bytes {db o : Nat} {x : Value} {l : List UInt8} (h : Took db o x l) {w : World} (hc : Cells w db o (bytesV l)) : Bytes w x l := by
  rcases h with h | ⟨c, rfl⟩
  · exact .inl h
  · exact .inr ⟨db, o, c, rfl, hc⟩
theorem take0_spec (rb db off c at_ : Nat) (msg : List UInt8) (w : Bool) (hl : at_ ≤ msg.length) (hc : msg.length ≤ c) (hbig : msg.length ≤ 1000000000000000000) :
    Spec Tryd.prog 75 [.pointer (some ⟨rb, 0, none⟩), .int .i64 ((0 : Nat) : Int)] [rdB rb (.slice (some ⟨db, off, none⟩) msg.length c) at_ w] (fun _ => True)
      (fun x H' => (∃ p c', x = .slice p 0 c') ∧ H' = [rdB rb (.slice (some ⟨db, off, none⟩) msg.length c) at_ w]) := by
  refine Spec.of Tryd.func75 rfl Tryd.ntmps75 rfl fun w0 _ => ?_
  refine CodeJ.seq ?_
  refine CodeJ.region ?_
  refine OpsJ.yld rfl rfl rfl (Yld.assign rfl rfl) ?_
  refine OpsJ.nil ?_
  refine ExJ.thenN ?_
  refine CodeJ.seq ?_
  refine CodeJ.seq ?_
  refine CodeJ.any (fuel := 22) (listed := #[false, false, false, false, false, false, false, false, false, false, false, false, false, false, false, false, false, false, false, false, false, false]) [0] rfl follows_mixed rfl rfl ?_
  refine AnyJ.take (fuel := 21) (listed' := #[true, false, false, false, false, false, false, false, false, false, false, false, false, false, false, false, false, false, false, false, false, false]) 0 rfl (by kernel_rfl) (by kernel_rfl) (by kernel_rfl) rfl rfl rfl rfl (Yld.move rfl rfl) (fun w hI => hI.pick (is := [0]) (by decide) rfl) ?_
  refine AnyJ.take (fuel := 20) (listed' := #[true, true, false, false, false, false, false, false, false, false, false, false, false, false, false, false, false, false, false, false, false, false]) 1 rfl (by kernel_rfl) (by kernel_rfl) (by kernel_rfl) rfl rfl rfl rfl (Yld.nilCheck rfl rfl) (fun w hI => hI.pick (is := [0]) (by decide) rfl) ?_
  refine AnyJ.take (fuel := 19) (listed' := #[true, true, true, false, false, false, false, false, false, false, false, false, false, false, false, false, false, false, false, false, false, false]) 2 rfl (by kernel_rfl) (by kernel_rfl) (by kernel_rfl) rfl rfl rfl rfl (Yld.fieldAddr fa_101_2 rfl rfl) (fun w hI => hI.pick (is := [0]) (by decide) rfl) ?_
  refine AnyJ.take (fuel := 18) (listed' := #[true, true, true, true, false, false, false, false, false, false, false, false, false, false, false, false, false, false, false, false, false, false]) 3 rfl (by kernel_rfl) (by kernel_rfl) (by kernel_rfl) rfl rfl rfl rfl (Yld.load1 rfl Tryd.underlying4 rfl rfl (fun w hI => Inv.cell1 hI (i := 0) rfl rfl)) (fun w hI => hI.pick (is := [0]) (by decide) rfl) ?_
  refine AnyJ.take (fuel := 17) (listed' := #[true, true, true, true, true, false, false, false, false, false, false, false, false, false, false, false, false, false, false, false, false, false]) 4 rfl (by kernel_rfl) (by kernel_rfl) (by kernel_rfl) rfl rfl rfl rfl (Yld.move rfl rfl) (fun w hI => hI.pick (is := [0]) (by decide) rfl) ?_
  refine AnyJ.splitB (s := 9) rfl (fun g9 => ?_) (fun g9 => ?_)
  · exact absurd g9 (by decide)
  · refine AnyJ.takeT (fuel := 16) (listed' := #[true, true, true, true, true, true, false, false, false, false, false, false, false, false, false, false, false, false, false, false, false, false]) 5 rfl (by kernel_rfl) (by kernel_rfl) (by kernel_rfl) rfl rfl rfl rfl rfl rfl (Yld.move rfl rfl) (fun w hI => hI.pick (is := [0]) (by decide) rfl) ?_
    refine AnyJ.takeT (fuel := 15) (listed' := #[true, true, true, true, true, true, true, false, false, false, false, false, false, false, false, false, false, false, false, false, false, false]) 6 rfl (by kernel_rfl) (by kernel_rfl) (by kernel_rfl) rfl rfl rfl rfl rfl rfl (Yld.intBin rfl rfl rfl rfl) (fun w hI => hI.pick (is := [0]) (by decide) rfl) ?_
    refine AnyJ.take (fuel := 14) (listed' := #[true, true, true, true, true, true, true, true, false, false, false, false, false, false, false, false, false, false, false, false, false, false]) 7 rfl (by kernel_rfl) (by kernel_rfl) (by kernel_rfl) rfl rfl rfl rfl (Yld.pickF rfl rfl rfl) (fun w hI => hI.pick (is := [0]) (by decide) rfl) ?_
    refine AnyJ.take (fuel := 13) (listed' := #[true, true, true, true, true, true, true, true, true, false, false, false, false, false, false, false, false, false, false, false, false, false]) 8 rfl (by kernel_rfl) (by kernel_rfl) (by kernel_rfl) rfl rfl rfl rfl (Yld.move rfl rfl) (fun w hI => hI.pick (is := [0]) (by decide) rfl) ?_
    refine AnyJ.splitP (s := 13) rfl (fun g13 => ?_) (fun g13 => ?_)
    · exact absurd g13 (by omega)
    · refine AnyJ.takeT (fuel := 12) (listed' := #[true, true, true, true, true, true, true, true, true, true, false, false, false, false, false, false, false, false, false, false, false, false]) 9 rfl (by kernel_rfl) (by kernel_rfl) (by kernel_rfl) rfl rfl rfl rfl rfl rfl (Yld.move rfl rfl) (fun w hI => hI.pick (is := [0]) (by decide) rfl) ?_
      refine AnyJ.takeT (fuel := 11) (listed' := #[true, true, true, true, true, true, true, true, true, true, true, false, false, false, false, false, false, false, false, false, false, false]) 10 rfl (by kernel_rfl) (by kernel_rfl) (by kernel_rfl) rfl rfl rfl rfl rfl rfl (Yld.move rfl rfl) (fun w hI => hI.pick (is := [0]) (by decide) rfl) ?_
      refine AnyJ.takeT (fuel := 10) (listed' := #[true, true, true, true, true, true, true, true, true, true, true, true, false, false, false, false, false, false, false, false, false, false]) 11 rfl (by kernel_rfl) (by kernel_rfl) (by kernel_rfl) rfl rfl rfl rfl rfl rfl (Yld.nilCheck rfl rfl) (fun w hI => hI.pick (is := [0]) (by decide) rfl) ?_
      refine AnyJ.takeT (fuel := 9) (listed' := #[true, true, true, true, true, true, true, true, true, true, true, true, true, false, false, false, false, false, false, false, false, false]) 12 rfl (by kernel_rfl) (by kernel_rfl) (by kernel_rfl) rfl rfl rfl rfl rfl rfl (Yld.fieldAddr fa_101_0 rfl rfl) (fun w hI => hI.pick (is := [0]) (by decide) rfl) ?_
      refine AnyJ.takeT (fuel := 8) (listed' := #[true, true, true, true, true, true, true, true, true, true, true, true, true, true, false, false, false, false, false, false, false, false]) 13 rfl (by kernel_rfl) (by kernel_rfl) (by kernel_rfl) rfl rfl rfl rfl rfl rfl (Yld.load1 rfl Tryd.underlying31 rfl rfl (fun w hI => Inv.cell1 hI (i := 0) rfl rfl)) (fun w hI => hI.pick (is := [0]) (by decide) rfl) ?_
      refine AnyJ.takeT (fuel := 7) (listed' := #[true, true, true, true, true, true, true, true, true, true, true, true, true, true, true, false, false, false, false, false, false, false]) 14 rfl (by kernel_rfl) (by kernel_rfl) (by kernel_rfl) rfl rfl rfl rfl rfl rfl (Yld.lenSlice rfl rfl rfl Tryd.underlying31 rfl) (fun w hI => hI.pick (is := [0]) (by decide) rfl) ?_
      refine AnyJ.takeT (fuel := 6) (listed' := #[true, true, true, true, true, true, true, true, true, true, true, true, true, true, true, true, false, false, false, false, false, false]) 15 rfl (by kernel_rfl) (by kernel_rfl) (by kernel_rfl) rfl rfl rfl rfl rfl rfl (Yld.move rfl rfl) (fun w hI => hI.pick (is := [0]) (by decide) rfl) ?_
      refine AnyJ.takeT (fuel := 5) (listed' := #[true, true, true, true, true, true, true, true, true, true, true, true, true, true, true, true, true, false, false, false, false, false]) 16 rfl (by kernel_rfl) (by kernel_rfl) (by kernel_rfl) rfl rfl rfl rfl rfl rfl (Yld.nilCheck rfl rfl) (fun w hI => hI.pick (is := [0]) (by decide) rfl) ?_
      refine AnyJ.takeT (fuel := 4) (listed' := #[true, true, true, true, true, true, true, true, true, true, true, true, true, true, true, true, true, true, false, false, false, false]) 17 rfl (by kernel_rfl) (by kernel_rfl) (by kernel_rfl) rfl rfl rfl rfl rfl rfl (Yld.fieldAddr fa_101_1 rfl rfl) (fun w hI => hI.pick (is := [0]) (by decide) rfl) ?_
      refine AnyJ.takeT (fuel := 3) (listed' := #[true, true, true, true, true, true, true, true, true, true, true, true, true, true, true, true, true, true, true, false, false, false]) 18 rfl (by kernel_rfl) (by kernel_rfl) (by kernel_rfl) rfl rfl rfl rfl rfl rfl (Yld.load1 rfl Tryd.underlying3 rfl rfl (fun w hI => Inv.cell1 hI (i := 0) rfl rfl)) (fun w hI => hI.pick (is := [0]) (by decide) rfl) ?_
      refine AnyJ.takeT (fuel := 2) (listed' := #[true, true, true, true, true, true, true, true, true, true, true, true, true, true, true, true, true, true, true, true, false, false]) 19 rfl (by kernel_rfl) (by kernel_rfl) (by kernel_rfl) rfl rfl rfl rfl rfl rfl (Yld.intBin rfl rfl rfl rfl) (fun w hI => hI.pick (is := [0]) (by decide) rfl) ?_
      rw [i64_sub _ _ (by omega) (by omega)]
      refine AnyJ.takeT (fuel := 1) (listed' := #[true, true, true, true, true, true, true, true, true, true, true, true, true, true, true, true, true, true, true, true, true, false]) 20 rfl (by kernel_rfl) (by kernel_rfl) (by kernel_rfl) rfl rfl rfl rfl rfl rfl (Yld.intBin rfl rfl rfl rfl) (fun w hI => hI.pick (is := [0]) (by decide) rfl) ?_
      refine AnyJ.take (fuel := 0) (listed' := #[true, true, true, true, true, true, true, true, true, true, true, true, true, true, true, true, true, true, true, true, true, true]) 21 rfl (by kernel_rfl) (by kernel_rfl) (by kernel_rfl) rfl rfl rfl rfl (Yld.pickF rfl rfl rfl) (fun w hI => hI.pick (is := [0]) (by decide) rfl) ?_
      refine AnyJ.done (by kernel_rfl) ?_
      refine ExJ.thenN ?_
      refine CodeJ.condP rfl (fun c26 => ?_) (fun c26 => ?_)
      · exact absurd c26 (by omega)
      · refine CodeJ.skip ?_
        refine ExJ.thenN ?_
        refine CodeJ.seq ?_
        refine CodeJ.region ?_
        refine OpsJ.yld rfl rfl rfl (Yld.move rfl rfl) ?_
        refine OpsJ.yld rfl rfl rfl (Yld.nilCheck rfl rfl) ?_
        refine OpsJ.yld rfl rfl rfl (Yld.fieldAddr fa_101_1 rfl rfl) ?_
        refine OpsJ.yld rfl rfl rfl (Yld.load1 rfl Tryd.underlying3 rfl rfl (fun w hI => Inv.cell1 hI (i := 0) rfl rfl)) ?_
        refine OpsJ.yld rfl rfl rfl (Yld.move rfl rfl) ?_
        refine OpsJ.yld rfl rfl rfl (Yld.intBin rfl rfl rfl rfl) ?_
        rw [i64_add _ _ (by omega), Nat.add_zero]
        refine OpsJ.yld rfl rfl rfl (Yld.nilCheck rfl rfl) ?_
        refine OpsJ.yld rfl rfl rfl (Yld.fieldAddr fa_101_1 rfl rfl) ?_
        refine OpsJ.op rfl ?_
        refine OpJ.store1 (i := 0) rfl rfl rfl rfl rfl sz_3 rfl rfl ?_
        refine OpsJ.nil ?_
        refine ExJ.thenN ?_
        refine CodeJ.seq ?_
        refine CodeJ.any (fuel := 16) (listed := #[false, false, false, false, false, false, false, false, false, false, false, false, false, false, false, false]) [0] rfl follows_mixed rfl rfl ?_
        refine AnyJ.take (fuel := 15) (listed' := #[true, false, false, false, false, false, false, false, false, false, false, false, false, false, false, false]) 0 rfl (by kernel_rfl) (by kernel_rfl) (by kernel_rfl) rfl rfl rfl rfl (Yld.move rfl rfl) (fun w hI => hI.pick (is := [0]) (by decide) rfl) ?_
        refine AnyJ.take (fuel := 14) (listed' := #[true, true, false, false, false, false, false, false, false, false, false, false, false, false, false, false]) 1 rfl (by kernel_rfl) (by kernel_rfl) (by kernel_rfl) rfl rfl rfl rfl (Yld.nilCheck rfl rfl) (fun w hI => hI.pick (is := [0]) (by decide) rfl) ?_
        refine AnyJ.take (fuel := 13) (listed' := #[true, true, true, false, false, false, false, false, false, false, false, false, false, false, false, false]) 2 rfl (by kernel_rfl) (by kernel_rfl) (by kernel_rfl) rfl rfl rfl rfl (Yld.fieldAddr fa_101_0 rfl rfl) (fun w hI => hI.pick (is := [0]) (by decide) rfl) ?_
        refine AnyJ.take (fuel := 12) (listed' := #[true, true, true, true, false, false, false, false, false, false, false, false, false, false, false, false]) 3 rfl (by kernel_rfl) (by kernel_rfl) (by kernel_rfl) rfl rfl rfl rfl (Yld.load1 rfl Tryd.underlying31 rfl rfl (fun w hI => Inv.cell1 hI (i := 0) rfl rfl)) (fun w hI => hI.pick (is := [0]) (by decide) rfl) ?_
        refine AnyJ.take (fuel := 11) (listed' := #[true, true, true, true, true, false, false, false, false, false, false, false, false, false, false, false]) 4 rfl (by kernel_rfl) (by kernel_rfl) (by kernel_rfl) rfl rfl rfl rfl (Yld.move rfl rfl) (fun w hI => hI.pick (is := [0]) (by decide) rfl) ?_
        refine AnyJ.take (fuel := 10) (listed' := #[true, true, true, true, true, true, false, false, false, false, false, false, false, false, false, false]) 5 rfl (by kernel_rfl) (by kernel_rfl) (by kernel_rfl) rfl rfl rfl rfl (Yld.nilCheck rfl rfl) (fun w hI => hI.pick (is := [0]) (by decide) rfl) ?_
        refine AnyJ.take (fuel := 9) (listed' := #[true, true, true, true, true, true, true, false, false, false, false, false, false, false, false, false]) 6 rfl (by kernel_rfl) (by kernel_rfl) (by kernel_rfl) rfl rfl rfl rfl (Yld.fieldAddr fa_101_1 rfl rfl) (fun w hI => hI.pick (is := [0]) (by decide) rfl) ?_
        refine AnyJ.take (fuel := 8) (listed' := #[true, true, true, true, true, true, true, true, false, false, false, false, false, false, false, false]) 7 rfl (by kernel_rfl) (by kernel_rfl) (by kernel_rfl) rfl rfl rfl rfl (Yld.load1 rfl Tryd.underlying3 rfl rfl (fun w hI => Inv.cell1 hI (i := 0) rfl rfl)) (fun w hI => hI.pick (is := [0]) (by decide) rfl) ?_
        refine AnyJ.take (fuel := 7) (listed' := #[true, true, true, true, true, true, true, true, true, false, false, false, false, false, false, false]) 8 rfl (by kernel_rfl) (by kernel_rfl) (by kernel_rfl) rfl rfl rfl rfl (Yld.move rfl rfl) (fun w hI => hI.pick (is := [0]) (by decide) rfl) ?_
        refine AnyJ.take (fuel := 6) (listed' := #[true, true, true, true, true, true, true, true, true, true, false, false, false, false, false, false]) 9 rfl (by kernel_rfl) (by kernel_rfl) (by kernel_rfl) rfl rfl rfl rfl (Yld.intBin rfl rfl rfl rfl) (fun w hI => hI.pick (is := [0]) (by decide) rfl) ?_
        rw [i64_sub _ _ (by omega) (by omega), Nat.sub_zero]
        refine AnyJ.take (fuel := 5) (listed' := #[true, true, true, true, true, true, true, true, true, true, true, false, false, false, false, false]) 10 rfl (by kernel_rfl) (by kernel_rfl) (by kernel_rfl) rfl rfl rfl rfl (Yld.move rfl rfl) (fun w hI => hI.pick (is := [0]) (by decide) rfl) ?_
        refine AnyJ.take (fuel := 4) (listed' := #[true, true, true, true, true, true, true, true, true, true, true, true, false, false, false, false]) 11 rfl (by kernel_rfl) (by kernel_rfl) (by kernel_rfl) rfl rfl rfl rfl (Yld.nilCheck rfl rfl) (fun w hI => hI.pick (is := [0]) (by decide) rfl) ?_
        refine AnyJ.take (fuel := 3) (listed' := #[true, true, true, true, true, true, true, true, true, true, true, true, true, false, false, false]) 12 rfl (by kernel_rfl) (by kernel_rfl) (by kernel_rfl) rfl rfl rfl rfl (Yld.fieldAddr fa_101_1 rfl rfl) (fun w hI => hI.pick (is := [0]) (by decide) rfl) ?_
        refine AnyJ.take (fuel := 2) (listed' := #[true, true, true, true, true, true, true, true, true, true, true, true, true, true, false, false]) 13 rfl (by kernel_rfl) (by kernel_rfl) (by kernel_rfl) rfl rfl rfl rfl (Yld.load1 rfl Tryd.underlying3 rfl rfl (fun w hI => Inv.cell1 hI (i := 0) rfl rfl)) (fun w hI => hI.pick (is := [0]) (by decide) rfl) ?_
        refine AnyJ.take (fuel := 1) (listed' := #[true, true, true, true, true, true, true, true, true, true, true, true, true, true, true, false]) 14 rfl (by kernel_rfl) (by kernel_rfl) (by kernel_rfl) rfl rfl rfl rfl (Yld.sliceSl0 (lo := at_) rfl Tryd.underlying31 sz_5 rfl rfl rfl (by omega)) (fun w hI => hI.pick (is := [0]) (by decide) rfl) ?_
        refine AnyJ.take (fuel := 0) (listed' := #[true, true, true, true, true, true, true, true, true, true, true, true, true, true, true, true]) 15 rfl (by kernel_rfl) (by kernel_rfl) (by kernel_rfl) rfl rfl rfl rfl (Yld.assign rfl rfl) (fun w hI => hI.pick (is := [0]) (by decide) rfl) ?_
        refine AnyJ.done (by kernel_rfl) ?_
        refine ExJ.thenN ?_
        refine CodeJ.ret ?_
        exact ExJ.ret1 Tryd.results75 rfl ⟨⟨_, _, rfl⟩, rfl⟩ fun w hI => hI
theorem takeB_spec (rb db off c at_ : Nat) (l : List UInt8) (msg : List UInt8) (w : Bool) (hl : at_ + l.length ≤ msg.length) (hc : msg.length ≤ c) (hbig : msg.length ≤ 1000000000000000000) :
    Spec Tryd.prog 75 [.pointer (some ⟨rb, 0, none⟩), .int .i64 (l.length : Nat)] [rdB rb (.slice (some ⟨db, off, none⟩) msg.length c) at_ w] (fun _ => True)
      (fun x H' => Took db (off + at_) x l ∧ H' = [rdB rb (.slice (some ⟨db, off, none⟩) msg.length c) (at_ + l.length) w]) := by
  by_cases h : l.length = 0
  · have hn : l = [] := List.length_eq_zero_iff.1 h
    subst hn
    exact (take0_spec rb db off c at_ msg w (by omega) hc hbig).mono (fun _ h => h) fun x H' ⟨⟨p, c', hx⟩, hH⟩ => ⟨.inl ⟨p, c', hx, rfl⟩, hH⟩
  · exact (take_spec rb db off c at_ l.length msg w (by omega) hl hc hbig).mono (fun _ h => h) fun x H' ⟨hx, hH⟩ => ⟨.inr ⟨_, hx⟩, hH⟩

/-- a part of what stands there -/
theorem raw_mid {t A B C : List UInt8} {a : Nat} (h : (t.drop a).take (A ++ B ++ C).length = A ++ B ++ C) : (t.drop (a + A.length)).take B.length = B := by
  have h1 := congrArg (fun l => (l.drop A.length).take B.length) h
  simp only [List.drop_take, List.drop_drop, List.take_take] at h1
  have h2 : (A ++ B ++ C).drop A.length = B ++ C := by rw [List.append_assoc, List.drop_left' rfl]
  rw [h2, List.take_left' rfl] at h1
  have h3 : min B.length ((A ++ B ++ C).length - A.length) = B.length := by simp only [List.length_append]; omega
  rw [h3] at h1
  exact h1
theorem raw_first {t A C : List UInt8} {a : Nat} (h : (t.drop a).take (A ++ C).length = A ++ C) : (t.drop a).take A.length = A := by
  have := raw_mid (t := t) (A := []) (B := A) (C := C) (a := a) (by simpa using h)
  simpa using this
theorem raw_last {t A C : List UInt8} {a : Nat} (h : (t.drop a).take (A ++ C).length = A ++ C) : (t.drop (a + A.length)).take C.length = C :=
  raw_mid (C := []) (by simpa using h)
/-- a name that was written whole is read there -/
theorem raw_name {t : List UInt8} {s : List UInt8} {a : Nat} (ha : 12 ≤ a) (hs : nameOk s = true) (h : (t.drop (a - 12)).take (wire s).length = wire s) (hl : a + (wire s).length ≤ 12 + t.length) :
    ∃ k ls, RdN t k a a ls (a + (wire s).length) true ∧ s = nameTxt ls := by
  have e : t = t.take (a - 12) ++ wire s ++ t.drop (a - 12 + (wire s).length) := by
    have h1 : t.drop (a - 12) = wire s ++ t.drop (a - 12 + (wire s).length) := by
      conv => lhs; rw [← List.take_append_drop (wire s).length (t.drop (a - 12))]
      rw [h, List.drop_drop]
    conv => lhs; rw [← List.take_append_drop (a - 12) t, h1]
    rw [List.append_assoc]
  have hlen : (t.take (a - 12)).length = a - 12 := by rw [List.length_take]; omega
  have e12 : 12 + (t.take (a - 12)).length = a := by omega
  obtain ⟨⟨k, ls, w, h1, h2, h3⟩, _⟩ := packN_read (t.take (a - 12)) false s hs [] (wire s) [] (packN_wire _ _ _ hs) (by simp)
  have hw := h2 rfl
  subst hw
  rw [e12] at h3
  refine ⟨k, ls, ?_, h1⟩
  rw [e]
  exact h3.app _

theorem build_pair {o : Oper} {n : Nat} {L : List (Nat × Value)} {I : World → Prop} {parts : Array (Nat × Operand)} (a : PairD) (ho : o.op = .build 161 parts) (hv : evp L parts.toList = some [(0, .int .u16 (a.key : Nat)), (1, a.dataV)]) (hc : a.dataV.cells = #[a.dataV]) : Yld Tryd.prog o n L I (.agg a.cells.toArray) :=
  Yld.build places_161 zero_161 ho hv (by
    simp only [Instr.fill, hc]
    rfl)
theorem pairsW_drop {ps : List PairD} {j : Nat} {x : PairD} (hx : ps[j]? = some x) : pairsW (ps.drop j) = pairW x ++ pairsW (ps.drop (j + 1)) := by
  have hj := (List.getElem?_eq_some_iff.1 hx)
  rw [List.drop_eq_getElem_cons hj.1, hj.2, pairsW_cons]
theorem rdPairs (rb db off c at_ e : Nat) (hd t : List UInt8) (hh : hd.length = 12) (h12 : 12 ≤ at_) (ps : List PairD) (hps : ∀ p ∈ ps, p.key < 65536 ∧ p.data.length < 65536) (hn : ps.length * 32 ≤ 140737488351232) (w : Bool) (hraw : (t.drop (at_ - 12)).take (pairsW ps).length = pairsW ps) (he : e = at_ + (pairsW ps).length) (hel : e ≤ 12 + t.length) (hc : (hd ++ t).length ≤ c) (hbig : (hd ++ t).length ≤ 1000000000000000000) :
    Spec Tryd.prog 95 [.pointer (some ⟨rb, 0, none⟩), .int .i64 (e : Nat)] [rdB rb (.slice (some ⟨db, off, none⟩) (hd ++ t).length c) at_ w] (fun w1 => Cells w1 db off (bytesV (hd ++ t)) ∧ db ≠ rb)
      (fun y H' => ∃ p c' ss q bs hq, y = .slice p ss.length c' ∧ H' = [rdB rb (.slice (some ⟨db, off, none⟩) (hd ++ t).length c) e w, .ro q bs hq] ∧ (∀ w, q w → PairsB w (.slice p ss.length c') ss) ∧ ss.map PairD.kd = ps.map PairD.kd) := by
  refine Spec.of Tryd.func95 rfl Tryd.ntmps95 rfl fun w0 hR => ?_
  obtain ⟨hcs, hne⟩ := hR
  have hout : db ∉ fp [rdB rb (.slice (some ⟨db, off, none⟩) (hd ++ t).length c) at_ w] := by simpa [fp, rdB, Res.ats] using hne
  have hml : (hd ++ t).length = 12 + t.length := by rw [List.length_append, hh]
  refine CodeJ.turnH (fun w hI => hI.roNil (p := fun _ => True) (fun _ => trivial)) ?_
  refine CodeJ.seq ?_
  refine CodeJ.region ?_
  refine OpsJ.yld rfl rfl rfl (Yld.assign rfl rfl) ?_
  refine OpsJ.nil ?_
  refine ExJ.thenN ?_
  refine CodeJ.seq ?_
  refine CodeJ.region ?_
  refine OpsJ.op rfl ?_
  refine OpJ.buildSlice (xs := []) elt_84 rfl rfl rfl rfl rfl rfl (by rfl) (by decide) fun acc hacc => ?_
  refine OpsJ.yld rfl rfl rfl (Yld.assign rfl rfl) ?_
  refine OpsJ.nil ?_
  refine ExJ.thenN ?_
  refine CodeJ.seq ?_
  refine CodeJ.block ?_
  refine CodeJ.loopP (fun L H m => ∃ (j pos : Nat) (p : Option Addr) (c' : Nat) (ss : List PairD) (q : World → Prop) (bs : List Nat) (hq : ∀ w w' : World, (∀ b ∈ bs, w'.heap[b]? = w.heap[b]?) → q w → q w'), j ≤ ps.length ∧ 12 ≤ pos ∧ e = pos + (pairsW (ps.drop j)).length ∧ (t.drop (pos - 12)).take (pairsW (ps.drop j)).length = pairsW (ps.drop j) ∧ ss.map PairD.kd = (ps.take j).map PairD.kd ∧ (∀ w, q w → ∀ y ∈ ss, Bytes w y.dataV y.data) ∧
  L = [(0, .pointer (some ⟨rb, 0, none⟩)), (1, .int .i64 (e : Nat)), (5, .slice p ss.length c')] ∧ H = [ownL 161 2 PairD.cells (.slice p ss.length c') ss, .ro q bs hq, rdB rb (.slice (some ⟨db, off, none⟩) (hd ++ t).length c) pos w] ∧ m = ps.length - j) ⟨0, at_, some ⟨acc, 0, none⟩, 0, [], fun _ => True, [], fun _ _ _ _ => trivial, Nat.zero_le _, h12, he, hraw, rfl, fun _ _ r hr => (by cases hr), rfl, rfl, rfl⟩ ⟨rfl, rfl, rfl, trivial⟩ (fun w hI => hI) ?_
  rintro _ _ _ ⟨j, pos, p, c', ss, q, bs, hq, hj, hpos, hpe, hpr, hkd, hqs, rfl, rfl, rfl⟩
  refine CodeJ.seq ?_
  refine CodeJ.seq ?_
  refine CodeJ.region ?_
  refine OpsJ.yld rfl rfl rfl (Yld.move rfl rfl) ?_
  refine OpsJ.yld rfl rfl rfl (Yld.nilCheck rfl rfl) ?_
  refine OpsJ.yld rfl rfl rfl (Yld.fieldAddr fa_101_2 rfl rfl) ?_
  refine OpsJ.yld rfl rfl rfl (Yld.load1 rfl Tryd.underlying4 rfl rfl (fun w hI => Inv.cell1 hI (i := 2) rfl rfl)) ?_
  refine OpsJ.yld rfl rfl rfl (Yld.not rfl rfl) ?_
  refine OpsJ.yld rfl rfl rfl (Yld.move rfl rfl) ?_
  refine OpsJ.splitB (s := 14) rfl (fun g14 => ?_) (fun g14 => ?_)
  · refine OpsJ.opT rfl rfl rfl ?_
    refine OpJ.yld rfl rfl (Yld.move rfl rfl) ?_
    refine OpsJ.opT rfl rfl rfl ?_
    refine OpJ.yld rfl rfl (Yld.nilCheck rfl rfl) ?_
    refine OpsJ.opT rfl rfl rfl ?_
    refine OpJ.yld rfl rfl (Yld.fieldAddr fa_101_1 rfl rfl) ?_
    refine OpsJ.opT rfl rfl rfl ?_
    refine OpJ.yld rfl rfl (Yld.load1 rfl Tryd.underlying3 rfl rfl (fun w hI => Inv.cell1 hI (i := 2) rfl rfl)) ?_
    refine OpsJ.opT rfl rfl rfl ?_
    refine OpJ.yld rfl rfl (Yld.move rfl rfl) ?_
    refine OpsJ.opT rfl rfl rfl ?_
    refine OpJ.yld rfl rfl (Yld.intBin rfl rfl rfl rfl) ?_
    refine OpsJ.yld rfl rfl rfl (Yld.pickT rfl rfl rfl) ?_
    refine OpsJ.nil ?_
    refine ExJ.thenN ?_
    refine CodeJ.condP rfl (fun c21 => ?_) (fun c21 => ?_)
    · have hj' : j < ps.length := by
        rcases Nat.lt_or_ge j ps.length with h | h
        · exact h
        · rw [List.drop_of_length_le h] at hpe
          simp [pairsW] at hpe
          omega
      obtain ⟨x, hx⟩ : ∃ x, ps[j]? = some x := ⟨ps[j], List.getElem?_eq_getElem hj'⟩
      have hdr := pairsW_drop hx
      obtain ⟨hkey, hdl⟩ := hps x (List.mem_of_getElem? hx)
      rw [hdr] at hpr
      have hpl : pos + (pairW x).length + (pairsW (ps.drop (j + 1))).length ≤ 12 + t.length := by rw [hdr, List.length_append] at hpe; omega
      rw [pairW_len] at hpl
      have hr1 : (t.drop (pos - 12)).take 2 = be16 x.key := raw_first (A := be16 x.key) (C := be16 (x.data.length % 65536) ++ x.data ++ pairsW (ps.drop (j + 1))) (by simpa [pairW, List.append_assoc] using hpr)
      have hr2 : (t.drop (pos - 12 + 2)).take 2 = be16 (x.data.length % 65536) := raw_mid (A := be16 x.key) (B := be16 (x.data.length % 65536)) (C := x.data ++ pairsW (ps.drop (j + 1))) (by simpa [pairW, List.append_assoc] using hpr)
      have hr3 : (t.drop (pos - 12 + 4)).take x.data.length = x.data := raw_mid (A := be16 x.key ++ be16 (x.data.length % 65536)) (B := x.data) (C := pairsW (ps.drop (j + 1))) (by simpa [pairW, List.append_assoc] using hpr)
      have hnext : (t.drop (pos + 2 + 2 + x.data.length - 12)).take (pairsW (ps.drop (j + 1))).length = pairsW (ps.drop (j + 1)) := by
        have := raw_last (A := pairW x) (C := pairsW (ps.drop (j + 1))) hpr
        rw [pairW_len] at this
        rw [show pos + 2 + 2 + x.data.length - 12 = pos - 12 + (x.data.length + 4) by omega]
        exact this
      rw [Nat.mod_eq_of_lt hdl] at hr2
      have hsl : ss.length = j := by
        have := congrArg List.length hkd
        simp only [List.length_map, List.length_take] at this
        omega
      have hpart : Cells w0 db (off + (pos + 2 + 2)) (bytesV x.data) := part_bytes hcs (by rw [msg_drop hh (by omega), show pos + 2 + 2 - 12 = pos - 12 + 4 by omega]; exact hr3) (by omega)
      refine CodeJ.skip ?_
      refine ExJ.thenN ?_
      refine CodeJ.block ?_
      refine CodeJ.seq ?_
      refine CodeJ.region ?_
      refine OpsJ.yld rfl rfl rfl (Yld.move rfl rfl) ?_
      refine OpsJ.op rfl ?_
      refine OpJ.call (rdTwo rb db off c pos x.key (hd ++ t) w hkey (by rw [msg_drop hh hpos]; exact hr1) (by omega) hc hbig) has_44 rfl rfl rfl rfl rfl [2] [0, 1] (by decide) rfl rfl (fun w hI => ⟨hI.old hcs hout, hne⟩) ?_
      rintro _ _ ⟨rfl, rfl⟩
      refine OpsJ.yld rfl rfl rfl (Yld.assign rfl rfl) ?_
      refine OpsJ.nil ?_
      refine ExJ.thenN ?_
      refine CodeJ.seq ?_
      refine CodeJ.region ?_
      refine OpsJ.yld rfl rfl rfl (Yld.move rfl rfl) ?_
      refine OpsJ.op rfl ?_
      refine OpJ.call (rdTwo rb db off c (pos + 2) x.data.length (hd ++ t) w hdl (by rw [msg_drop hh (by omega), show pos + 2 - 12 = pos - 12 + 2 by omega]; exact hr2) (by omega) hc hbig) has_44 rfl rfl rfl rfl rfl [0] [1, 2] (by decide) rfl rfl (fun w hI => ⟨hI.old hcs hout, hne⟩) ?_
      rintro _ _ ⟨rfl, rfl⟩
      refine OpsJ.yld rfl rfl rfl (Yld.convInt rfl Tryd.underlying22 Tryd.underlying3 rfl) ?_
      rw [i64_wrap x.data.length (by omega)]
      refine OpsJ.yld rfl rfl rfl (Yld.assign rfl rfl) ?_
      refine OpsJ.nil ?_
      refine ExJ.thenN ?_
      refine CodeJ.region ?_
      refine OpsJ.yld rfl rfl rfl (Yld.move rfl rfl) ?_
      refine OpsJ.yld rfl rfl rfl (Yld.move rfl rfl) ?_
      refine OpsJ.yld rfl rfl rfl (Yld.move rfl rfl) ?_
      refine OpsJ.yld rfl rfl rfl (Yld.move rfl rfl) ?_
      refine OpsJ.op rfl ?_
      refine OpJ.call (takeB_spec rb db off c (pos + 2 + 2) x.data (hd ++ t) w (by omega) hc hbig) has_75 rfl rfl rfl rfl rfl [0] [1, 2] (by decide) rfl rfl (fun _ _ => trivial) ?_
      rintro t31 _ ⟨htook, rfl⟩
      refine OpsJ.op rfl ?_
      refine OpJ.buildSlice (xs := [.tmp 31]) elt_162 rfl rfl rfl rfl rfl rfl (by rcases htook with ⟨p, c, rfl, _⟩ | ⟨c, rfl⟩ <;> rfl) (by decide) fun parts hparts => ?_
      refine OpsJ.op rfl ?_
      refine OpJ.call (joined_spec _ [x.data] (by simp; omega) (by simp)) has_66 rfl rfl rfl rfl rfl [] [0, 1, 2, 3] (by decide) rfl rfl (Inv.parts (i := 0) rfl rfl ⟨fun w hI => htook.bytes (hI.old hpart hout), trivial⟩) ?_
      rintro _ _ ⟨p33, c33, rfl, rfl⟩
      simp only [flat_one]
      have hq2 : ∀ w, (ownB 5 (.slice p33 x.data.length c33) x.data).holds w ∧ (Res.ro q bs hq).holds w → ∀ y ∈ ss ++ [⟨x.key, .slice p33 x.data.length c33, x.data⟩], Bytes w y.dataV y.data := by
        intro w hw r hr
        rcases List.mem_append.1 hr with h | h
        · exact hqs w hw.2.1 r h
        · simp at h
          subst h
          exact Own.bytes hw.1.1
      refine OpsJ.yld rfl rfl rfl (build_pair ⟨x.key, .slice p33 x.data.length c33, x.data⟩ rfl rfl rfl) ?_
      refine OpsJ.op rfl ?_
      refine OpJ.buildSlice (xs := [.tmp 34]) elt_84 rfl rfl rfl rfl rfl rfl (by rfl) (by decide) fun one hone => ?_
      refine OpsJ.op rfl ?_
      refine OpJ.appendL (cells := PairD.cells) (i := 4) (news := ⟨x.key, .slice p33 x.data.length c33, x.data⟩) elt_84 rfl rfl rfl rfl rfl rfl (fun w hI => Inv.src hI (i := 0) rfl Tryd.underlying84 (fun u hu => PairD.ones (Inv.bytes (k := 1) rfl w hI) u hu)) (by omega) fun p36 c36 => ?_
      refine OpsJ.yld rfl rfl rfl (Yld.assign rfl rfl) ?_
      refine OpsJ.nil ?_
      refine ExJ.blockN ?_
      exact ExJ.againP ⟨j + 1, pos + 2 + 2 + x.data.length, p36, c36, ss ++ [⟨x.key, .slice p33 x.data.length c33, x.data⟩], _, _, _, by omega, by omega, by rw [hpe, hdr, List.length_append, pairW_len]; omega, hnext, by rw [take_snoc _ _ _ hx, List.map_append, List.map_append, hkd]; rfl, hq2, rfl, rfl, rfl⟩ (by omega) ⟨rfl, rfl, rfl, trivial⟩ fun w hI => by have hJ := (hI.pick (is := [1, 5, 4, 3]) (by decide) rfl).join; exact hJ.pick (is := [1, 0, 2]) (by decide) rfl
    · have hjl : j = ps.length := by
        rcases Nat.lt_or_ge j ps.length with h | h
        · obtain ⟨x, hx⟩ : ∃ x, ps[j]? = some x := ⟨ps[j], List.getElem?_eq_getElem h⟩
          have := pairsW_drop hx
          rw [this, List.length_append, pairW_len] at hpe
          omega
        · omega
      subst hjl
      rw [List.drop_length] at hpe
      have hpe : e = pos := hpe
      subst hpe
      rw [List.take_length] at hkd
      refine CodeJ.exit ?_
      refine ExJ.thenX ?_
      refine ExJ.thenX ?_
      refine ExJ.blockHit ?_
      refine ExJ.thenN ?_
      refine CodeJ.seq ?_
      refine CodeJ.region ?_
      refine OpsJ.yld rfl rfl rfl (Yld.move rfl rfl) ?_
      refine OpsJ.yld rfl rfl rfl (Yld.assign rfl rfl) ?_
      refine OpsJ.nil ?_
      refine ExJ.thenN ?_
      refine CodeJ.ret ?_
      refine ExJ.ret1 Tryd.results95 rfl ⟨p, c', ss, _, _, _, rfl, rfl, ?_, hkd⟩ fun w hI => by have hJ := (hI.pick (is := [0, 1, 2]) (by decide) rfl).join; exact hJ.pick (is := [1, 0]) (by decide) rfl
      intro w hw
      exact ⟨Own.row hw.1.1, hqs w hw.2.1⟩
  · exact absurd g14 (by decide)
end Go.Proofs.YtamobccbioafmaaDoor
