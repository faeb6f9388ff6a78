/-
  Facts of the program's tables that the reader's walks use.
-/
import Derived.Test.YtamobccbioafmaaDoorBg
import Derived.Test.YtamobccbioafmaaDoorBa
namespace Go.Proofs.YtamobccbioafmaaDoor
open Go
set_option maxRecDepth 100000
theorem fa_101_0 : FieldAt Tryd.prog 101 0 0 := by unfold FieldAt; kernel_rfl
theorem fa_101_1 : FieldAt Tryd.prog 101 1 1 := by unfold FieldAt; kernel_rfl
theorem fa_101_2 : FieldAt Tryd.prog 101 2 2 := by unfold FieldAt; kernel_rfl
theorem fa_101_3 : FieldAt Tryd.prog 101 3 3 := by unfold FieldAt; kernel_rfl
theorem fa_86_4 : FieldAt Tryd.prog 86 4 4 := by unfold FieldAt; kernel_rfl
theorem fa_86_8 : FieldAt Tryd.prog 86 8 8 := by unfold FieldAt; kernel_rfl
theorem has_11 : Has Tryd.prog 11 := ⟨_, Tryd.func11, by kernel_rfl, rfl⟩
theorem has_22 : Has Tryd.prog 22 := ⟨_, Tryd.func22, by kernel_rfl, rfl⟩
theorem has_24 : Has Tryd.prog 24 := ⟨_, Tryd.func24, by kernel_rfl, rfl⟩
theorem has_25 : Has Tryd.prog 25 := ⟨_, Tryd.func25, by kernel_rfl, rfl⟩
theorem has_42 : Has Tryd.prog 42 := ⟨_, Tryd.func42, by kernel_rfl, rfl⟩
theorem has_43 : Has Tryd.prog 43 := ⟨_, Tryd.func43, by kernel_rfl, rfl⟩
theorem has_44 : Has Tryd.prog 44 := ⟨_, Tryd.func44, by kernel_rfl, rfl⟩
theorem has_45 : Has Tryd.prog 45 := ⟨_, Tryd.func45, by kernel_rfl, rfl⟩
theorem has_46 : Has Tryd.prog 46 := ⟨_, Tryd.func46, by kernel_rfl, rfl⟩
theorem has_75 : Has Tryd.prog 75 := ⟨_, Tryd.func75, by kernel_rfl, rfl⟩
theorem has_76 : Has Tryd.prog 76 := ⟨_, Tryd.func76, by kernel_rfl, rfl⟩
theorem has_77 : Has Tryd.prog 77 := ⟨_, Tryd.func77, by kernel_rfl, rfl⟩
theorem has_87 : Has Tryd.prog 87 := ⟨_, Tryd.func87, by kernel_rfl, rfl⟩
theorem has_88 : Has Tryd.prog 88 := ⟨_, Tryd.func88, by kernel_rfl, rfl⟩
theorem has_94 : Has Tryd.prog 94 := ⟨_, Tryd.func94, by kernel_rfl, rfl⟩
theorem has_95 : Has Tryd.prog 95 := ⟨_, Tryd.func95, by kernel_rfl, rfl⟩
theorem places_101 : places Tryd.prog 101 = some [(0, 1), (1, 1), (2, 1), (3, 1)] := by kernel_rfl
theorem places_161 : places Tryd.prog 161 = some [(0, 1), (1, 1)] := by kernel_rfl
theorem places_82 : places Tryd.prog 82 = some [(0, 1), (1, 1), (2, 1)] := by kernel_rfl
theorem sz_30 : (Tryd.prog.info? 30).map (·.size) = some 1 := by kernel_rfl
theorem sz_37 : (Tryd.prog.info? 37).map (·.size) = some 1 := by kernel_rfl
theorem sz_4 : (Tryd.prog.info? 4).map (·.size) = some 1 := by kernel_rfl
theorem sz_84 : (Tryd.prog.info? 84).map (·.size) = some 1 := by kernel_rfl
theorem zero_101 : (Tryd.prog.info? 101).bind (·.zero) = some (.agg #[.slice none 0 0, .int .i64 0, .bool false, .bool false]) := by kernel_rfl
end Go.Proofs.YtamobccbioafmaaDoor

/-
  Contracts of the reference's reader: bytes, numbers, names.
-/
namespace Go.Proofs.YtamobccbioafmaaDoor
open Go
set_option maxRecDepth 100000

/-- a reader's memory -/
def rdB (rb : Nat) (v : Value) (at_ : Nat) (w : Bool) : Res := .blk rb #[v, .int .i64 (at_ : Nat), .bool false, .bool w] 101

theorem part_bytes {w : World} {db off : Nat} {msg : List UInt8} (h : Cells w db off (bytesV msg)) {k : Nat} {l : List UInt8} (hl : (msg.drop k).take l.length = l) (hk : k + l.length ≤ msg.length) : Cells w db (off + k) (bytesV l) := by
  refine h.part (k := k) ?_ (by simpa [bytesV_len] using hk)
  have : (bytesV msg).drop k = bytesV (msg.drop k) := by simp [bytesV]
  rw [this, bytesV_len]
  have e : (bytesV (msg.drop k)).take l.length = bytesV ((msg.drop k).take l.length) := by simp [bytesV]
  rw [e, hl]
theorem byte_cell {w : World} {db off : Nat} {msg : List UInt8} (h : Cells w db off (bytesV msg)) {k : Nat} {c : UInt8} (hk : msg[k]? = some c) : Cells w db (off + k * 1) [.int .u8 c.toNat] :=
  h.one (by simp [bytesV, hk])

theorem take_spec (rb db off c at_ n : Nat) (msg : List UInt8) (w : Bool) (hn : 1 ≤ n) (hl : at_ + n ≤ msg.length) (hc : msg.length ≤ c) (hbig : msg.length ≤ 1000000000000000000) :
    Spec Tryd.prog 75 [.pointer (some ⟨rb, 0, none⟩), .int .i64 (n : Nat)] [rdB rb (.slice (some ⟨db, off, none⟩) msg.length c) at_ w] (fun _ => True)
      (fun x H' => x = .slice (some ⟨db, off + at_, none⟩) n (c - at_) ∧ H' = [rdB rb (.slice (some ⟨db, off, none⟩) msg.length c) (at_ + n) w]) := by
  refine Spec.of Tryd.func75 rfl Tryd.ntmps75 rfl fun w0 _ => ?_
  refine CodeJ.seq ?_
  refine CodeJ.region ?_
  refine OpsJ.yld rfl rfl rfl (Yld.assign rfl rfl) ?_
  refine OpsJ.nil ?_
  refine ExJ.thenN ?_
  refine CodeJ.seq ?_
  refine CodeJ.seq ?_
  refine CodeJ.any (fuel := 22) (listed := #[false, false, false, false, false, false, false, false, false, false, false, false, false, false, false, false, false, false, false, false, false, false]) [0] rfl follows_mixed rfl rfl ?_
  refine AnyJ.take (fuel := 21) (listed' := #[true, false, false, false, false, false, false, false, false, false, false, false, false, false, false, false, false, false, false, false, false, false]) 0 rfl (by kernel_rfl) (by kernel_rfl) (by kernel_rfl) rfl rfl rfl rfl (Yld.move rfl rfl) (fun w hI => hI.pick (is := [0]) (by decide) rfl) ?_
  refine AnyJ.take (fuel := 20) (listed' := #[true, true, false, false, false, false, false, false, false, false, false, false, false, false, false, false, false, false, false, false, false, false]) 1 rfl (by kernel_rfl) (by kernel_rfl) (by kernel_rfl) rfl rfl rfl rfl (Yld.nilCheck rfl rfl) (fun w hI => hI.pick (is := [0]) (by decide) rfl) ?_
  refine AnyJ.take (fuel := 19) (listed' := #[true, true, true, false, false, false, false, false, false, false, false, false, false, false, false, false, false, false, false, false, false, false]) 2 rfl (by kernel_rfl) (by kernel_rfl) (by kernel_rfl) rfl rfl rfl rfl (Yld.fieldAddr fa_101_2 rfl rfl) (fun w hI => hI.pick (is := [0]) (by decide) rfl) ?_
  refine AnyJ.take (fuel := 18) (listed' := #[true, true, true, true, false, false, false, false, false, false, false, false, false, false, false, false, false, false, false, false, false, false]) 3 rfl (by kernel_rfl) (by kernel_rfl) (by kernel_rfl) rfl rfl rfl rfl (Yld.load1 rfl Tryd.underlying4 rfl rfl (fun w hI => Inv.cell1 hI (i := 0) rfl rfl)) (fun w hI => hI.pick (is := [0]) (by decide) rfl) ?_
  refine AnyJ.take (fuel := 17) (listed' := #[true, true, true, true, true, false, false, false, false, false, false, false, false, false, false, false, false, false, false, false, false, false]) 4 rfl (by kernel_rfl) (by kernel_rfl) (by kernel_rfl) rfl rfl rfl rfl (Yld.move rfl rfl) (fun w hI => hI.pick (is := [0]) (by decide) rfl) ?_
  refine AnyJ.splitB (s := 9) rfl (fun g9 => ?_) (fun g9 => ?_)
  · exact absurd g9 (by decide)
  · refine AnyJ.takeT (fuel := 16) (listed' := #[true, true, true, true, true, true, false, false, false, false, false, false, false, false, false, false, false, false, false, false, false, false]) 5 rfl (by kernel_rfl) (by kernel_rfl) (by kernel_rfl) rfl rfl rfl rfl rfl rfl (Yld.move rfl rfl) (fun w hI => hI.pick (is := [0]) (by decide) rfl) ?_
    refine AnyJ.takeT (fuel := 15) (listed' := #[true, true, true, true, true, true, true, false, false, false, false, false, false, false, false, false, false, false, false, false, false, false]) 6 rfl (by kernel_rfl) (by kernel_rfl) (by kernel_rfl) rfl rfl rfl rfl rfl rfl (Yld.intBin rfl rfl rfl rfl) (fun w hI => hI.pick (is := [0]) (by decide) rfl) ?_
    refine AnyJ.take (fuel := 14) (listed' := #[true, true, true, true, true, true, true, true, false, false, false, false, false, false, false, false, false, false, false, false, false, false]) 7 rfl (by kernel_rfl) (by kernel_rfl) (by kernel_rfl) rfl rfl rfl rfl (Yld.pickF rfl rfl rfl) (fun w hI => hI.pick (is := [0]) (by decide) rfl) ?_
    refine AnyJ.take (fuel := 13) (listed' := #[true, true, true, true, true, true, true, true, true, false, false, false, false, false, false, false, false, false, false, false, false, false]) 8 rfl (by kernel_rfl) (by kernel_rfl) (by kernel_rfl) rfl rfl rfl rfl (Yld.move rfl rfl) (fun w hI => hI.pick (is := [0]) (by decide) rfl) ?_
    refine AnyJ.splitP (s := 13) rfl (fun g13 => ?_) (fun g13 => ?_)
    · exact absurd g13 (by omega)
    · refine AnyJ.takeT (fuel := 12) (listed' := #[true, true, true, true, true, true, true, true, true, true, false, false, false, false, false, false, false, false, false, false, false, false]) 9 rfl (by kernel_rfl) (by kernel_rfl) (by kernel_rfl) rfl rfl rfl rfl rfl rfl (Yld.move rfl rfl) (fun w hI => hI.pick (is := [0]) (by decide) rfl) ?_
      refine AnyJ.takeT (fuel := 11) (listed' := #[true, true, true, true, true, true, true, true, true, true, true, false, false, false, false, false, false, false, false, false, false, false]) 10 rfl (by kernel_rfl) (by kernel_rfl) (by kernel_rfl) rfl rfl rfl rfl rfl rfl (Yld.move rfl rfl) (fun w hI => hI.pick (is := [0]) (by decide) rfl) ?_
      refine AnyJ.takeT (fuel := 10) (listed' := #[true, true, true, true, true, true, true, true, true, true, true, true, false, false, false, false, false, false, false, false, false, false]) 11 rfl (by kernel_rfl) (by kernel_rfl) (by kernel_rfl) rfl rfl rfl rfl rfl rfl (Yld.nilCheck rfl rfl) (fun w hI => hI.pick (is := [0]) (by decide) rfl) ?_
      refine AnyJ.takeT (fuel := 9) (listed' := #[true, true, true, true, true, true, true, true, true, true, true, true, true, false, false, false, false, false, false, false, false, false]) 12 rfl (by kernel_rfl) (by kernel_rfl) (by kernel_rfl) rfl rfl rfl rfl rfl rfl (Yld.fieldAddr fa_101_0 rfl rfl) (fun w hI => hI.pick (is := [0]) (by decide) rfl) ?_
      refine AnyJ.takeT (fuel := 8) (listed' := #[true, true, true, true, true, true, true, true, true, true, true, true, true, true, false, false, false, false, false, false, false, false]) 13 rfl (by kernel_rfl) (by kernel_rfl) (by kernel_rfl) rfl rfl rfl rfl rfl rfl (Yld.load1 rfl Tryd.underlying31 rfl rfl (fun w hI => Inv.cell1 hI (i := 0) rfl rfl)) (fun w hI => hI.pick (is := [0]) (by decide) rfl) ?_
      refine AnyJ.takeT (fuel := 7) (listed' := #[true, true, true, true, true, true, true, true, true, true, true, true, true, true, true, false, false, false, false, false, false, false]) 14 rfl (by kernel_rfl) (by kernel_rfl) (by kernel_rfl) rfl rfl rfl rfl rfl rfl (Yld.lenSlice rfl rfl rfl Tryd.underlying31 rfl) (fun w hI => hI.pick (is := [0]) (by decide) rfl) ?_
      refine AnyJ.takeT (fuel := 6) (listed' := #[true, true, true, true, true, true, true, true, true, true, true, true, true, true, true, true, false, false, false, false, false, false]) 15 rfl (by kernel_rfl) (by kernel_rfl) (by kernel_rfl) rfl rfl rfl rfl rfl rfl (Yld.move rfl rfl) (fun w hI => hI.pick (is := [0]) (by decide) rfl) ?_
      refine AnyJ.takeT (fuel := 5) (listed' := #[true, true, true, true, true, true, true, true, true, true, true, true, true, true, true, true, true, false, false, false, false, false]) 16 rfl (by kernel_rfl) (by kernel_rfl) (by kernel_rfl) rfl rfl rfl rfl rfl rfl (Yld.nilCheck rfl rfl) (fun w hI => hI.pick (is := [0]) (by decide) rfl) ?_
      refine AnyJ.takeT (fuel := 4) (listed' := #[true, true, true, true, true, true, true, true, true, true, true, true, true, true, true, true, true, true, false, false, false, false]) 17 rfl (by kernel_rfl) (by kernel_rfl) (by kernel_rfl) rfl rfl rfl rfl rfl rfl (Yld.fieldAddr fa_101_1 rfl rfl) (fun w hI => hI.pick (is := [0]) (by decide) rfl) ?_
      refine AnyJ.takeT (fuel := 3) (listed' := #[true, true, true, true, true, true, true, true, true, true, true, true, true, true, true, true, true, true, true, false, false, false]) 18 rfl (by kernel_rfl) (by kernel_rfl) (by kernel_rfl) rfl rfl rfl rfl rfl rfl (Yld.load1 rfl Tryd.underlying3 rfl rfl (fun w hI => Inv.cell1 hI (i := 0) rfl rfl)) (fun w hI => hI.pick (is := [0]) (by decide) rfl) ?_
      refine AnyJ.takeT (fuel := 2) (listed' := #[true, true, true, true, true, true, true, true, true, true, true, true, true, true, true, true, true, true, true, true, false, false]) 19 rfl (by kernel_rfl) (by kernel_rfl) (by kernel_rfl) rfl rfl rfl rfl rfl rfl (Yld.intBin rfl rfl rfl rfl) (fun w hI => hI.pick (is := [0]) (by decide) rfl) ?_
      rw [i64_sub _ _ (by omega) (by omega)]
      refine AnyJ.takeT (fuel := 1) (listed' := #[true, true, true, true, true, true, true, true, true, true, true, true, true, true, true, true, true, true, true, true, true, false]) 20 rfl (by kernel_rfl) (by kernel_rfl) (by kernel_rfl) rfl rfl rfl rfl rfl rfl (Yld.intBin rfl rfl rfl rfl) (fun w hI => hI.pick (is := [0]) (by decide) rfl) ?_
      refine AnyJ.take (fuel := 0) (listed' := #[true, true, true, true, true, true, true, true, true, true, true, true, true, true, true, true, true, true, true, true, true, true]) 21 rfl (by kernel_rfl) (by kernel_rfl) (by kernel_rfl) rfl rfl rfl rfl (Yld.pickF rfl rfl rfl) (fun w hI => hI.pick (is := [0]) (by decide) rfl) ?_
      refine AnyJ.done (by kernel_rfl) ?_
      refine ExJ.thenN ?_
      refine CodeJ.condP rfl (fun c26 => ?_) (fun c26 => ?_)
      · exact absurd c26 (by omega)
      · refine CodeJ.skip ?_
        refine ExJ.thenN ?_
        refine CodeJ.seq ?_
        refine CodeJ.region ?_
        refine OpsJ.yld rfl rfl rfl (Yld.move rfl rfl) ?_
        refine OpsJ.yld rfl rfl rfl (Yld.nilCheck rfl rfl) ?_
        refine OpsJ.yld rfl rfl rfl (Yld.fieldAddr fa_101_1 rfl rfl) ?_
        refine OpsJ.yld rfl rfl rfl (Yld.load1 rfl Tryd.underlying3 rfl rfl (fun w hI => Inv.cell1 hI (i := 0) rfl rfl)) ?_
        refine OpsJ.yld rfl rfl rfl (Yld.move rfl rfl) ?_
        refine OpsJ.yld rfl rfl rfl (Yld.intBin rfl rfl rfl rfl) ?_
        rw [i64_add _ _ (by omega)]
        refine OpsJ.yld rfl rfl rfl (Yld.nilCheck rfl rfl) ?_
        refine OpsJ.yld rfl rfl rfl (Yld.fieldAddr fa_101_1 rfl rfl) ?_
        refine OpsJ.op rfl ?_
        refine OpJ.store1 (i := 0) rfl rfl rfl rfl rfl sz_3 rfl rfl ?_
        refine OpsJ.nil ?_
        refine ExJ.thenN ?_
        refine CodeJ.seq ?_
        refine CodeJ.any (fuel := 16) (listed := #[false, false, false, false, false, false, false, false, false, false, false, false, false, false, false, false]) [0] rfl follows_mixed rfl rfl ?_
        refine AnyJ.take (fuel := 15) (listed' := #[true, false, false, false, false, false, false, false, false, false, false, false, false, false, false, false]) 0 rfl (by kernel_rfl) (by kernel_rfl) (by kernel_rfl) rfl rfl rfl rfl (Yld.move rfl rfl) (fun w hI => hI.pick (is := [0]) (by decide) rfl) ?_
        refine AnyJ.take (fuel := 14) (listed' := #[true, true, false, false, false, false, false, false, false, false, false, false, false, false, false, false]) 1 rfl (by kernel_rfl) (by kernel_rfl) (by kernel_rfl) rfl rfl rfl rfl (Yld.nilCheck rfl rfl) (fun w hI => hI.pick (is := [0]) (by decide) rfl) ?_
        refine AnyJ.take (fuel := 13) (listed' := #[true, true, true, false, false, false, false, false, false, false, false, false, false, false, false, false]) 2 rfl (by kernel_rfl) (by kernel_rfl) (by kernel_rfl) rfl rfl rfl rfl (Yld.fieldAddr fa_101_0 rfl rfl) (fun w hI => hI.pick (is := [0]) (by decide) rfl) ?_
        refine AnyJ.take (fuel := 12) (listed' := #[true, true, true, true, false, false, false, false, false, false, false, false, false, false, false, false]) 3 rfl (by kernel_rfl) (by kernel_rfl) (by kernel_rfl) rfl rfl rfl rfl (Yld.load1 rfl Tryd.underlying31 rfl rfl (fun w hI => Inv.cell1 hI (i := 0) rfl rfl)) (fun w hI => hI.pick (is := [0]) (by decide) rfl) ?_
        refine AnyJ.take (fuel := 11) (listed' := #[true, true, true, true, true, false, false, false, false, false, false, false, false, false, false, false]) 4 rfl (by kernel_rfl) (by kernel_rfl) (by kernel_rfl) rfl rfl rfl rfl (Yld.move rfl rfl) (fun w hI => hI.pick (is := [0]) (by decide) rfl) ?_
        refine AnyJ.take (fuel := 10) (listed' := #[true, true, true, true, true, true, false, false, false, false, false, false, false, false, false, false]) 5 rfl (by kernel_rfl) (by kernel_rfl) (by kernel_rfl) rfl rfl rfl rfl (Yld.nilCheck rfl rfl) (fun w hI => hI.pick (is := [0]) (by decide) rfl) ?_
        refine AnyJ.take (fuel := 9) (listed' := #[true, true, true, true, true, true, true, false, false, false, false, false, false, false, false, false]) 6 rfl (by kernel_rfl) (by kernel_rfl) (by kernel_rfl) rfl rfl rfl rfl (Yld.fieldAddr fa_101_1 rfl rfl) (fun w hI => hI.pick (is := [0]) (by decide) rfl) ?_
        refine AnyJ.take (fuel := 8) (listed' := #[true, true, true, true, true, true, true, true, false, false, false, false, false, false, false, false]) 7 rfl (by kernel_rfl) (by kernel_rfl) (by kernel_rfl) rfl rfl rfl rfl (Yld.load1 rfl Tryd.underlying3 rfl rfl (fun w hI => Inv.cell1 hI (i := 0) rfl rfl)) (fun w hI => hI.pick (is := [0]) (by decide) rfl) ?_
        refine AnyJ.take (fuel := 7) (listed' := #[true, true, true, true, true, true, true, true, true, false, false, false, false, false, false, false]) 8 rfl (by kernel_rfl) (by kernel_rfl) (by kernel_rfl) rfl rfl rfl rfl (Yld.move rfl rfl) (fun w hI => hI.pick (is := [0]) (by decide) rfl) ?_
        refine AnyJ.take (fuel := 6) (listed' := #[true, true, true, true, true, true, true, true, true, true, false, false, false, false, false, false]) 9 rfl (by kernel_rfl) (by kernel_rfl) (by kernel_rfl) rfl rfl rfl rfl (Yld.intBin rfl rfl rfl rfl) (fun w hI => hI.pick (is := [0]) (by decide) rfl) ?_
        rw [i64_sub _ _ (by omega) (by omega), show at_ + n - n = at_ by omega]
        refine AnyJ.take (fuel := 5) (listed' := #[true, true, true, true, true, true, true, true, true, true, true, false, false, false, false, false]) 10 rfl (by kernel_rfl) (by kernel_rfl) (by kernel_rfl) rfl rfl rfl rfl (Yld.move rfl rfl) (fun w hI => hI.pick (is := [0]) (by decide) rfl) ?_
        refine AnyJ.take (fuel := 4) (listed' := #[true, true, true, true, true, true, true, true, true, true, true, true, false, false, false, false]) 11 rfl (by kernel_rfl) (by kernel_rfl) (by kernel_rfl) rfl rfl rfl rfl (Yld.nilCheck rfl rfl) (fun w hI => hI.pick (is := [0]) (by decide) rfl) ?_
        refine AnyJ.take (fuel := 3) (listed' := #[true, true, true, true, true, true, true, true, true, true, true, true, true, false, false, false]) 12 rfl (by kernel_rfl) (by kernel_rfl) (by kernel_rfl) rfl rfl rfl rfl (Yld.fieldAddr fa_101_1 rfl rfl) (fun w hI => hI.pick (is := [0]) (by decide) rfl) ?_
        refine AnyJ.take (fuel := 2) (listed' := #[true, true, true, true, true, true, true, true, true, true, true, true, true, true, false, false]) 13 rfl (by kernel_rfl) (by kernel_rfl) (by kernel_rfl) rfl rfl rfl rfl (Yld.load1 rfl Tryd.underlying3 rfl rfl (fun w hI => Inv.cell1 hI (i := 0) rfl rfl)) (fun w hI => hI.pick (is := [0]) (by decide) rfl) ?_
        refine AnyJ.take (fuel := 1) (listed' := #[true, true, true, true, true, true, true, true, true, true, true, true, true, true, true, false]) 14 rfl (by kernel_rfl) (by kernel_rfl) (by kernel_rfl) rfl rfl rfl rfl (Yld.sliceSl (lo := at_) (hi := at_ + n) rfl Tryd.underlying31 sz_5 rfl rfl rfl (by omega) (by omega) (by omega)) (fun w hI => hI.pick (is := [0]) (by decide) rfl) ?_
        refine AnyJ.take (fuel := 0) (listed' := #[true, true, true, true, true, true, true, true, true, true, true, true, true, true, true, true]) 15 rfl (by kernel_rfl) (by kernel_rfl) (by kernel_rfl) rfl rfl rfl rfl (Yld.assign rfl rfl) (fun w hI => hI.pick (is := [0]) (by decide) rfl) ?_
        refine AnyJ.done (by kernel_rfl) ?_
        refine ExJ.thenN ?_
        refine CodeJ.ret ?_
        exact ExJ.ret1 Tryd.results75 rfl ⟨by rw [show at_ + n - at_ = n by omega], rfl⟩ fun w hI => hI

theorem toNat_ofNat {x : Nat} (h : x < 256) : (UInt8.ofNat x).toNat = x := by simp; omega
theorem or_split (x k : Nat) : x / 2 ^ k * 2 ^ k ||| x % 2 ^ k = x := by
  rw [Nat.mul_comm, ← Nat.two_pow_add_eq_or_of_lt (Nat.mod_lt _ (Nat.two_pow_pos k))]
  exact Nat.div_add_mod x (2 ^ k)
theorem rd16 (x : Nat) (hx : x < 65536) : IntKind.u16.wrap ((BitVec.ofInt IntKind.u16.bits (IntKind.u16.wrap (IntKind.u16.wrap ((UInt8.ofNat (x / 256)).toNat : Int) * 2 ^ min (8 : Int).toNat IntKind.u16.bits)) ||| BitVec.ofInt IntKind.u16.bits (IntKind.u16.wrap ((UInt8.ofNat x).toNat : Int))).toNat : Int) = (x : Int) := by
  have e1 : ((UInt8.ofNat (x / 256)).toNat : Nat) = x / 256 := toNat_ofNat (by omega)
  have e2 : ((UInt8.ofNat x).toNat : Nat) = x % 256 := by simp
  rw [e1, e2, u16_of (x / 256) (by omega), u16_of (x % 256) (by omega)]
  have e3 : ((x / 256 : Nat) : Int) * 2 ^ min (8 : Int).toNat IntKind.u16.bits = ((x / 256 * 256 : Nat) : Int) := by
    have : min (8 : Int).toNat IntKind.u16.bits = 8 := rfl
    rw [this]
    push_cast
    rfl
  rw [e3, u16_of (x / 256 * 256) (by omega), u16_or _ _ (by omega) (by omega)]
  have := or_split x 8
  simp only [show (2 : Nat) ^ 8 = 256 from rfl] at this
  rw [this]
theorem rdTwo (rb db off c at_ x : Nat) (msg : List UInt8) (w : Bool) (hx : x < 65536) (hb : (msg.drop at_).take 2 = be16 x) (hl : at_ + 2 ≤ msg.length) (hc : msg.length ≤ c) (hbig : msg.length ≤ 1000000000000000000) :
    Spec Tryd.prog 44 [.pointer (some ⟨rb, 0, none⟩)] [rdB rb (.slice (some ⟨db, off, none⟩) msg.length c) at_ w] (fun w1 => Cells w1 db off (bytesV msg) ∧ db ≠ rb)
      (fun y H' => y = .int .u16 (x : Nat) ∧ H' = [rdB rb (.slice (some ⟨db, off, none⟩) msg.length c) (at_ + 2) w]) := by
  refine Spec.of Tryd.func44 rfl Tryd.ntmps44 rfl fun w0 hR => ?_
  obtain ⟨hcs, hne⟩ := hR
  have hout : db ∉ fp [rdB rb (.slice (some ⟨db, off, none⟩) msg.length c) at_ w] := by simpa [fp, rdB, Res.ats] using hne
  have hpart : Cells w0 db (off + at_) (bytesV (be16 x)) := part_bytes hcs (by rw [be16_len]; exact hb) (by rw [be16_len]; exact hl)
  have h0 : Cells w0 db (off + at_ + 0 * 1) [.int .u8 (UInt8.ofNat (x / 256)).toNat] := hpart.one (k := 0) rfl
  have h1 : Cells w0 db (off + at_ + 1 * 1) [.int .u8 (UInt8.ofNat x).toNat] := hpart.one (k := 1) rfl
  refine CodeJ.seq ?_
  refine CodeJ.region ?_
  refine OpsJ.yld rfl rfl rfl (Yld.assign rfl rfl) ?_
  refine OpsJ.nil ?_
  refine ExJ.thenN ?_
  refine CodeJ.seq ?_
  refine CodeJ.region ?_
  refine OpsJ.yld rfl rfl rfl (Yld.move rfl rfl) ?_
  refine OpsJ.op rfl ?_
  refine OpJ.call (take_spec rb db off c at_ 2 msg w (by decide) hl hc hbig) has_75 rfl rfl rfl rfl rfl [0] [] (by decide) rfl rfl (fun _ _ => trivial) ?_
  rintro _ _ ⟨rfl, rfl⟩
  refine OpsJ.yld rfl rfl rfl (Yld.assign rfl rfl) ?_
  refine OpsJ.nil ?_
  refine ExJ.thenN ?_
  refine CodeJ.seq ?_
  refine CodeJ.any (fuel := 11) (listed := #[false, false, false, false, false, false, false, false, false, false, false]) [0] rfl follows_mixed rfl rfl ?_
  refine AnyJ.take (fuel := 10) (listed' := #[true, false, false, false, false, false, false, false, false, false, false]) 0 rfl (by kernel_rfl) (by kernel_rfl) (by kernel_rfl) rfl rfl rfl rfl (Yld.move rfl rfl) (fun w hI => hI.pick (is := [0]) (by decide) rfl) ?_
  refine AnyJ.take (fuel := 9) (listed' := #[true, true, false, false, false, false, false, false, false, false, false]) 1 rfl (by kernel_rfl) (by kernel_rfl) (by kernel_rfl) rfl rfl rfl rfl (Yld.indexAddr (i := 0) rfl Tryd.underlying31 sz_5 rfl rfl (by decide)) (fun w hI => hI.pick (is := [0]) (by decide) rfl) ?_
  refine AnyJ.take (fuel := 8) (listed' := #[true, true, true, false, false, false, false, false, false, false, false]) 2 rfl (by kernel_rfl) (by kernel_rfl) (by kernel_rfl) rfl rfl rfl rfl (Yld.load1 rfl Tryd.underlying5 rfl rfl (fun w hI => hI.old h0 hout)) (fun w hI => hI.pick (is := [0]) (by decide) rfl) ?_
  refine AnyJ.take (fuel := 7) (listed' := #[true, true, true, true, false, false, false, false, false, false, false]) 3 rfl (by kernel_rfl) (by kernel_rfl) (by kernel_rfl) rfl rfl rfl rfl (Yld.convInt rfl Tryd.underlying5 Tryd.underlying22 rfl) (fun w hI => hI.pick (is := [0]) (by decide) rfl) ?_
  refine AnyJ.take (fuel := 6) (listed' := #[true, true, true, true, true, false, false, false, false, false, false]) 4 rfl (by kernel_rfl) (by kernel_rfl) (by kernel_rfl) rfl rfl rfl rfl (Yld.shl rfl rfl rfl (by decide)) (fun w hI => hI.pick (is := [0]) (by decide) rfl) ?_
  refine AnyJ.take (fuel := 5) (listed' := #[true, true, true, true, true, true, false, false, false, false, false]) 5 rfl (by kernel_rfl) (by kernel_rfl) (by kernel_rfl) rfl rfl rfl rfl (Yld.move rfl rfl) (fun w hI => hI.pick (is := [0]) (by decide) rfl) ?_
  refine AnyJ.take (fuel := 4) (listed' := #[true, true, true, true, true, true, true, false, false, false, false]) 6 rfl (by kernel_rfl) (by kernel_rfl) (by kernel_rfl) rfl rfl rfl rfl (Yld.indexAddr (i := 1) rfl Tryd.underlying31 sz_5 rfl rfl (by decide)) (fun w hI => hI.pick (is := [0]) (by decide) rfl) ?_
  refine AnyJ.take (fuel := 3) (listed' := #[true, true, true, true, true, true, true, true, false, false, false]) 7 rfl (by kernel_rfl) (by kernel_rfl) (by kernel_rfl) rfl rfl rfl rfl (Yld.load1 rfl Tryd.underlying5 rfl rfl (fun w hI => hI.old h1 hout)) (fun w hI => hI.pick (is := [0]) (by decide) rfl) ?_
  refine AnyJ.take (fuel := 2) (listed' := #[true, true, true, true, true, true, true, true, true, false, false]) 8 rfl (by kernel_rfl) (by kernel_rfl) (by kernel_rfl) rfl rfl rfl rfl (Yld.convInt rfl Tryd.underlying5 Tryd.underlying22 rfl) (fun w hI => hI.pick (is := [0]) (by decide) rfl) ?_
  refine AnyJ.take (fuel := 1) (listed' := #[true, true, true, true, true, true, true, true, true, true, false]) 9 rfl (by kernel_rfl) (by kernel_rfl) (by kernel_rfl) rfl rfl rfl rfl (Yld.intBin rfl rfl rfl rfl) (fun w hI => hI.pick (is := [0]) (by decide) rfl) ?_
  rw [rd16 x hx]
  refine AnyJ.take (fuel := 0) (listed' := #[true, true, true, true, true, true, true, true, true, true, true]) 10 rfl (by kernel_rfl) (by kernel_rfl) (by kernel_rfl) rfl rfl rfl rfl (Yld.assign rfl rfl) (fun w hI => hI.pick (is := [0]) (by decide) rfl) ?_
  refine AnyJ.done (by kernel_rfl) ?_
  refine ExJ.thenN ?_
  refine CodeJ.ret ?_
  exact ExJ.ret1 Tryd.results44 rfl ⟨rfl, rfl⟩ fun w hI => hI

theorem u32_wrap' (x : Nat) (h : x < 4294967296) : IntKind.u32.wrap (x : Int) = (x : Int) := IntWalk.u32_in _ (by omega)
theorem u32_or (x y : Nat) (hx : x < 4294967296) (hy : y < 4294967296) : IntKind.u32.wrap ((BitVec.ofInt IntKind.u32.bits (x : Int) ||| BitVec.ofInt IntKind.u32.bits (y : Int)).toNat : Int) = ((x ||| y : Nat) : Int) := by
  have hb : IntKind.u32.bits = 32 := rfl
  have e1 : BitVec.ofInt 32 (x : Int) = BitVec.ofNat 32 x := by simp
  have e2 : BitVec.ofInt 32 (y : Int) = BitVec.ofNat 32 y := by simp
  rw [hb, e1, e2, BitVec.toNat_or, BitVec.toNat_ofNat, BitVec.toNat_ofNat, Nat.mod_eq_of_lt hx, Nat.mod_eq_of_lt hy]
  exact u32_wrap' _ (Nat.or_lt_two_pow (n := 32) hx hy)
theorem rd32 (x : Nat) (hx : x < 4294967296) : IntKind.u32.wrap ((BitVec.ofInt IntKind.u32.bits (IntKind.u32.wrap (IntKind.u32.wrap ((x / 65536 % 65536 : Nat) : Int) * 2 ^ min (16 : Int).toNat IntKind.u32.bits)) ||| BitVec.ofInt IntKind.u32.bits (IntKind.u32.wrap ((x % 65536 : Nat) : Int))).toNat : Int) = (x : Int) := by
  rw [u32_wrap' (x / 65536 % 65536) (by omega), u32_wrap' (x % 65536) (by omega)]
  have e3 : ((x / 65536 % 65536 : Nat) : Int) * 2 ^ min (16 : Int).toNat IntKind.u32.bits = ((x / 65536 * 65536 : Nat) : Int) := by
    have : min (16 : Int).toNat IntKind.u32.bits = 16 := rfl
    have h2 : (2 : Int) ^ 16 = 65536 := by decide
    rw [this, h2, Nat.mod_eq_of_lt (show x / 65536 < 65536 by omega)]
    omega
  rw [e3, u32_wrap' (x / 65536 * 65536) (by omega), u32_or _ _ (by omega) (by omega)]
  have := or_split x 16
  simp only [show (2 : Nat) ^ 16 = 65536 from rfl] at this
  rw [this]
theorem rdFour (rb db off c at_ x : Nat) (msg : List UInt8) (w : Bool) (hx : x < 4294967296) (hb : (msg.drop at_).take 4 = b4 x) (hl : at_ + 4 ≤ msg.length) (hc : msg.length ≤ c) (hbig : msg.length ≤ 1000000000000000000) :
    Spec Tryd.prog 87 [.pointer (some ⟨rb, 0, none⟩)] [rdB rb (.slice (some ⟨db, off, none⟩) msg.length c) at_ w] (fun w1 => Cells w1 db off (bytesV msg) ∧ db ≠ rb)
      (fun y H' => y = .int .u32 (x : Nat) ∧ H' = [rdB rb (.slice (some ⟨db, off, none⟩) msg.length c) (at_ + 4) w]) := by
  refine Spec.of Tryd.func87 rfl Tryd.ntmps87 rfl fun w0 hR => ?_
  obtain ⟨hcs, hne⟩ := hR
  have hout : db ∉ fp [rdB rb (.slice (some ⟨db, off, none⟩) msg.length c) at_ w] := by simpa [fp, rdB, Res.ats] using hne
  have hb1 : (msg.drop at_).take 2 = be16 (x / 65536 % 65536) := by
    have : ((msg.drop at_).take 4).take 2 = (b4 x).take 2 := by rw [hb]
    rw [List.take_take] at this
    exact this
  have hb2 : (msg.drop (at_ + 2)).take 2 = be16 (x % 65536) := by
    have : ((msg.drop at_).take 4).drop 2 = (b4 x).drop 2 := by rw [hb]
    rw [List.drop_take, List.drop_drop] at this
    exact this
  refine CodeJ.seq ?_
  refine CodeJ.region ?_
  refine OpsJ.yld rfl rfl rfl (Yld.assign rfl rfl) ?_
  refine OpsJ.nil ?_
  refine ExJ.thenN ?_
  refine CodeJ.seq ?_
  refine CodeJ.region ?_
  refine OpsJ.yld rfl rfl rfl (Yld.move rfl rfl) ?_
  refine OpsJ.op rfl ?_
  refine OpJ.call (rdTwo rb db off c at_ (x / 65536 % 65536) msg w (by omega) hb1 (by omega) hc hbig) has_44 rfl rfl rfl rfl rfl [0] [] (by decide) rfl rfl (fun w hI => ⟨hI.old hcs hout, hne⟩) ?_
  rintro _ _ ⟨rfl, rfl⟩
  refine OpsJ.yld rfl rfl rfl (Yld.assign rfl rfl) ?_
  refine OpsJ.nil ?_
  refine ExJ.thenN ?_
  refine CodeJ.seq ?_
  refine CodeJ.region ?_
  refine OpsJ.yld rfl rfl rfl (Yld.move rfl rfl) ?_
  refine OpsJ.yld rfl rfl rfl (Yld.convInt rfl Tryd.underlying22 Tryd.underlying30 rfl) ?_
  refine OpsJ.yld rfl rfl rfl (Yld.shl rfl rfl rfl (by decide)) ?_
  refine OpsJ.yld rfl rfl rfl (Yld.move rfl rfl) ?_
  refine OpsJ.op rfl ?_
  refine OpJ.call (rdTwo rb db off c (at_ + 2) (x % 65536) msg w (by omega) hb2 (by omega) hc hbig) has_44 rfl rfl rfl rfl rfl [0] [] (by decide) rfl rfl (fun w hI => ⟨hI.old hcs hout, hne⟩) ?_
  rintro _ _ ⟨rfl, rfl⟩
  refine OpsJ.yld rfl rfl rfl (Yld.convInt rfl Tryd.underlying22 Tryd.underlying30 rfl) ?_
  refine OpsJ.yld rfl rfl rfl (Yld.intBin rfl rfl rfl rfl) ?_
  rw [rd32 x hx]
  refine OpsJ.yld rfl rfl rfl (Yld.assign rfl rfl) ?_
  refine OpsJ.nil ?_
  refine ExJ.thenN ?_
  refine CodeJ.ret ?_
  exact ExJ.ret1 Tryd.results87 rfl ⟨rfl, rfl⟩ fun w hI => hI

theorem dotted_spec (b off c : Nat) (l : List UInt8) (hd : 46 ∉ l) (hl : l.length ≤ 1000000) :
    Spec Tryd.prog 76 [.slice (some ⟨b, off, none⟩) l.length c] [] (fun w => Cells w b off (bytesV l)) (fun x H' => x = .bool false ∧ H' = []) := by
  refine Spec.of Tryd.func76 rfl Tryd.ntmps76 rfl fun w0 hcs => ?_
  refine CodeJ.seq ?_
  refine CodeJ.region ?_
  refine OpsJ.yld rfl rfl rfl (Yld.assign rfl rfl) ?_
  refine OpsJ.nil ?_
  refine ExJ.thenN ?_
  refine CodeJ.seq ?_
  refine CodeJ.seq ?_
  refine CodeJ.region ?_
  refine OpsJ.yld rfl rfl rfl (Yld.move rfl rfl) ?_
  refine OpsJ.yld rfl rfl rfl (Yld.lenSlice rfl rfl rfl Tryd.underlying31 rfl) ?_
  refine OpsJ.yld rfl rfl rfl (Yld.move rfl rfl) ?_
  refine OpsJ.nil ?_
  refine ExJ.thenN ?_
  refine CodeJ.block ?_
  refine CodeJ.loopP (fun L H m => ∃ j : Nat, j ≤ l.length ∧ L = [(5, .slice (some ⟨b, off, none⟩) l.length c), (6, .int .i64 l.length), (7, .int .i64 j)] ∧ H = [] ∧ m = l.length - j) ⟨0, Nat.zero_le _, rfl, rfl, rfl⟩ ⟨rfl, rfl, rfl, trivial⟩ (fun w hI => hI) ?_
  rintro _ _ _ ⟨j, hj, rfl, rfl, rfl⟩
  refine CodeJ.seq ?_
  refine CodeJ.region ?_
  refine OpsJ.yld rfl rfl rfl (Yld.intBin rfl rfl rfl rfl) ?_
  refine OpsJ.nil ?_
  refine ExJ.thenN ?_
  refine CodeJ.seq ?_
  refine CodeJ.condP rfl (fun c8 => ?_) (fun c8 => ?_)
  · have hj' : j < l.length := by omega
    obtain ⟨x, hx⟩ : ∃ x, l[j]? = some x := ⟨l[j], List.getElem?_eq_getElem hj'⟩
    have hxd : x ≠ 46 := fun h => hd (by rw [← h]; exact List.mem_of_getElem? hx)
    refine CodeJ.skip ?_
    refine ExJ.thenN ?_
    refine CodeJ.seq ?_
    refine CodeJ.block ?_
    refine CodeJ.seq ?_
    refine CodeJ.region ?_
    refine OpsJ.yld rfl rfl rfl (Yld.indexAddr rfl Tryd.underlying31 sz_5 rfl rfl hj') ?_
    refine OpsJ.yld rfl rfl rfl (Yld.load1 rfl Tryd.underlying5 rfl rfl (fun w hI => hI.old (byte_cell hcs hx) (by simp [fp]))) ?_
    refine OpsJ.yld rfl rfl rfl (Yld.assign rfl rfl) ?_
    refine OpsJ.nil ?_
    refine ExJ.thenN ?_
    refine CodeJ.seq ?_
    refine CodeJ.region ?_
    refine OpsJ.yld rfl rfl rfl (Yld.move rfl rfl) ?_
    refine OpsJ.yld rfl rfl rfl (Yld.intBin rfl rfl rfl rfl) ?_
    refine OpsJ.nil ?_
    refine ExJ.thenN ?_
    refine CodeJ.cond rfl (fun c12 => ?_) (fun c12 => ?_)
    · have h1 : (x.toNat : Int) = 46 := by simpa using c12
      have h2 : x.toNat = (46 : UInt8).toNat := by show x.toNat = 46; omega
      exact absurd (UInt8.toNat_inj.1 h2) hxd
    · refine CodeJ.skip ?_
      refine ExJ.blockN ?_
      refine ExJ.thenN ?_
      refine CodeJ.region ?_
      refine OpsJ.yld rfl rfl rfl (Yld.intBin rfl rfl rfl rfl) ?_
      rw [i64_succ j (by omega)]
      refine OpsJ.yld rfl rfl rfl (Yld.move rfl rfl) ?_
      refine OpsJ.nil ?_
      exact ExJ.againP ⟨j + 1, by omega, rfl, rfl, rfl⟩ (by omega) ⟨rfl, rfl, rfl, trivial⟩ fun w hI => hI
  · refine CodeJ.exit ?_
    refine ExJ.thenX ?_
    refine ExJ.thenX ?_
    refine ExJ.blockHit ?_
    refine ExJ.thenN ?_
    refine CodeJ.seq ?_
    refine CodeJ.region ?_
    refine OpsJ.yld rfl rfl rfl (Yld.assign rfl rfl) ?_
    refine OpsJ.nil ?_
    refine ExJ.thenN ?_
    refine CodeJ.ret ?_
    exact ExJ.ret1 Tryd.results76 rfl ⟨rfl, rfl⟩ fun w hI => hI

/-! ### what stands at a name's place -/
theorem ptr_byte (p : Nat) (hp : p < 16384) : (UInt8.ofNat (p / 256 ||| 192)).toNat = 192 + p / 256 := by
  have h : ∀ x : Nat, x < 64 → (UInt8.ofNat (x ||| 192)).toNat = 192 + x := by decide
  exact h _ (by omega)
theorem drop_two {l : List UInt8} {i : Nat} {a b : UInt8} (h : (l.drop i).take 2 = [a, b]) : l[i]? = some a ∧ l[i + 1]? = some b := by
  have h0 : ((l.drop i).take 2)[0]? = some a := by rw [h]; rfl
  have h1 : ((l.drop i).take 2)[1]? = some b := by rw [h]; rfl
  rw [List.getElem?_take, if_pos (by decide), List.getElem?_drop] at h0 h1
  exact ⟨by simpa using h0, h1⟩
theorem RdN.zero {t : List UInt8} {k start at_ : Nat} {ls : List (List UInt8)} {e : Nat} {w : Bool} (h : RdN t k start at_ ls e w) (h0 : t[at_ - 12]? = some 0) : ls = [] ∧ e = at_ + 1 ∧ w = true := by
  cases h with
  | nil h1 h2 => exact ⟨rfl, rfl, rfl⟩
  | lab h1 h2 h3 h4 h5 h6 h =>
    rw [h0] at h2
    have := congrArg UInt8.toNat (Option.some.inj h2)
    rw [toNat_ofNat (by omega)] at this
    simp at this
    omega
  | ptr h1 h2 h3 h4 h =>
    have := (drop_two h2).1
    rw [h0] at this
    have := congrArg UInt8.toNat (Option.some.inj this)
    rw [ptr_byte _ h3] at this
    simp at this
    omega
theorem RdN.label {t : List UInt8} {k start at_ : Nat} {ls : List (List UInt8)} {e : Nat} {w : Bool} (h : RdN t k start at_ ls e w) {nb : UInt8} (h0 : t[at_ - 12]? = some nb) (hz : nb.toNat ≠ 0) (hn : nb.toNat < 64) :
    ∃ k' l ls', k = k' + 1 ∧ ls = l :: ls' ∧ nb.toNat = l.length ∧ 0 < l.length ∧ (t.drop (at_ - 12 + 1)).take l.length = l ∧ 46 ∉ l ∧ RdN t k' start (at_ + 1 + l.length) ls' e w := by
  cases h with
  | nil h1 h2 =>
    rw [h0] at h2
    injection h2 with h2
    subst h2
    exact absurd rfl hz
  | lab h1 h2 h3 h4 h5 h6 h =>
    rw [h0] at h2
    injection h2 with h2
    exact ⟨_, _, _, rfl, rfl, by rw [h2, toNat_ofNat (by omega)], h3, h5, h6, h⟩
  | ptr h1 h2 h3 h4 h =>
    have := (drop_two h2).1
    rw [h0] at this
    injection this with this
    rw [this, ptr_byte _ h3] at hn
    omega
theorem RdN.jump {t : List UInt8} {k start at_ : Nat} {ls : List (List UInt8)} {e : Nat} {w : Bool} (h : RdN t k start at_ ls e w) {nb : UInt8} (h0 : t[at_ - 12]? = some nb) (hn : ¬ nb.toNat < 64) :
    ∃ k' p e' w', k = k' + 1 ∧ nb.toNat = 192 + p / 256 ∧ t[at_ - 12 + 1]? = some (UInt8.ofNat p) ∧ p < 16384 ∧ p < start ∧ RdN t k' p p ls e' w' ∧ e = at_ + 2 ∧ w = false := by
  cases h with
  | nil h1 h2 =>
    rw [h0] at h2
    injection h2 with h2
    subst h2
    exact absurd (by decide) hn
  | lab h1 h2 h3 h4 h5 h6 h =>
    rw [h0] at h2
    injection h2 with h2
    rw [h2, toNat_ofNat (by omega)] at hn
    omega
  | ptr h1 h2 h3 h4 h =>
    have h5 := drop_two h2
    rw [h0] at h5
    have h6 := h5.1
    injection h6 with h6
    exact ⟨_, _, _, _, rfl, by rw [h6, ptr_byte _ h3], h5.2, h3, h4, h, rfl, rfl⟩

theorem msg_get {hd t : List UInt8} (hh : hd.length = 12) {i : Nat} (hi : 12 ≤ i) : (hd ++ t)[i]? = t[i - 12]? := by rw [List.getElem?_append_right (by omega), hh]
theorem msg_drop {hd t : List UInt8} (hh : hd.length = 12) {i : Nat} (hi : 12 ≤ i) : (hd ++ t).drop i = t.drop (i - 12) := by
  rw [List.drop_append, List.drop_of_length_le (by omega), hh, List.nil_append]
theorem rdPtr (p : Nat) (hp : p < 16384) : IntKind.i64.wrap ((BitVec.ofInt IntKind.i64.bits (IntKind.i64.wrap (((p / 256 : Nat) : Int) * 2 ^ min (8 : Int).toNat IntKind.i64.bits)) ||| BitVec.ofInt IntKind.i64.bits (IntKind.i64.wrap ((UInt8.ofNat p).toNat : Int))).toNat : Int) = (p : Int) := by
  have e2 : ((UInt8.ofNat p).toNat : Nat) = p % 256 := by simp
  rw [e2, i64_wrap (p % 256) (by omega)]
  have e3 : ((p / 256 : Nat) : Int) * 2 ^ min (8 : Int).toNat IntKind.i64.bits = ((p / 256 * 256 : Nat) : Int) := by
    have : min (8 : Int).toNat IntKind.i64.bits = 8 := rfl
    rw [this]
    push_cast
    rfl
  have hb : IntKind.i64.bits = 64 := rfl
  rw [e3, i64_wrap (p / 256 * 256) (by omega), hb]
  have e1 : BitVec.ofInt 64 ((p / 256 * 256 : Nat) : Int) = BitVec.ofNat 64 (p / 256 * 256) := BitVec.ofInt_natCast _ _
  have e4 : BitVec.ofInt 64 ((p % 256 : Nat) : Int) = BitVec.ofNat 64 (p % 256) := BitVec.ofInt_natCast _ _
  have := or_split p 8
  simp only [show (2 : Nat) ^ 8 = 256 from rfl] at this
  rw [e1, e4, BitVec.toNat_or, BitVec.toNat_ofNat, BitVec.toNat_ofNat, Nat.mod_eq_of_lt (show p / 256 * 256 < 2 ^ 64 by omega), Nat.mod_eq_of_lt (show p % 256 < 2 ^ 64 by omega), this]
  exact i64_wrap _ (by omega)
theorem str_join (a b : List UInt8) : ((⟨a.toArray⟩ : ByteArray) ++ ⟨b.toArray⟩) = ⟨(a ++ b).toArray⟩ := by
  apply ByteArray.ext
  simp
theorem txt_snoc (ls : List (List UInt8)) (l : List UInt8) : txt (ls ++ [l]) = txt ls ++ (l ++ [46]) := by simp [txt]
theorem txt_nil (ls : List (List UInt8)) (h : txt ls = []) : ls = [] := by
  cases ls with
  | nil => rfl
  | cons l r => simp [txt] at h

theorem rdName (rb db off c k0 at0 E : Nat) (hd t : List UInt8) (hh : hd.length = 12) (LS : List (List UInt8)) (w0_ W : Bool) (hrd0 : RdN t k0 at0 at0 LS E W) (hc : (hd ++ t).length ≤ c) (hbig : (hd ++ t).length ≤ 1000000000000000000) (hts : (txt LS).length ≤ 1000000) :
    Spec Tryd.prog 45 [.pointer (some ⟨rb, 0, none⟩)] [rdB rb (.slice (some ⟨db, off, none⟩) (hd ++ t).length c) at0 w0_] (fun w1 => Cells w1 db off (bytesV (hd ++ t)) ∧ db ≠ rb)
      (fun y H' => y = strV (nameTxt LS) ∧ H' = [rdB rb (.slice (some ⟨db, off, none⟩) (hd ++ t).length c) E (w0_ && W)]) := by
  refine Spec.of Tryd.func45 rfl Tryd.ntmps45 rfl fun w0 hR => ?_
  obtain ⟨hcs, hne⟩ := hR
  have hout : db ∉ fp [rdB rb (.slice (some ⟨db, off, none⟩) (hd ++ t).length c) at0 w0_] := by simpa [fp, rdB, Res.ats] using hne
  have hml : (hd ++ t).length = 12 + t.length := by rw [List.length_append, hh]
  refine CodeJ.seq ?_
  refine CodeJ.region ?_
  refine OpsJ.yld rfl rfl rfl (Yld.assign rfl rfl) ?_
  refine OpsJ.nil ?_
  refine ExJ.thenN ?_
  refine CodeJ.seq ?_
  refine CodeJ.region ?_
  refine OpsJ.yld rfl rfl rfl (Yld.assign rfl rfl) ?_
  refine OpsJ.nil ?_
  refine ExJ.thenN ?_
  refine CodeJ.seq ?_
  refine CodeJ.any (fuel := 11) (listed := #[false, false, false, false, false, false, false, false, false, false, false]) [0] rfl follows_mixed rfl rfl ?_
  refine AnyJ.take (fuel := 10) (listed' := #[true, false, false, false, false, false, false, false, false, false, false]) 0 rfl (by kernel_rfl) (by kernel_rfl) (by kernel_rfl) rfl rfl rfl rfl (Yld.move rfl rfl) (fun w hI => hI.pick (is := [0]) (by decide) rfl) ?_
  refine AnyJ.take (fuel := 9) (listed' := #[true, true, false, false, false, false, false, false, false, false, false]) 1 rfl (by kernel_rfl) (by kernel_rfl) (by kernel_rfl) rfl rfl rfl rfl (Yld.nilCheck rfl rfl) (fun w hI => hI.pick (is := [0]) (by decide) rfl) ?_
  refine AnyJ.take (fuel := 8) (listed' := #[true, true, true, false, false, false, false, false, false, false, false]) 2 rfl (by kernel_rfl) (by kernel_rfl) (by kernel_rfl) rfl rfl rfl rfl (Yld.fieldAddr fa_101_1 rfl rfl) (fun w hI => hI.pick (is := [0]) (by decide) rfl) ?_
  refine AnyJ.take (fuel := 7) (listed' := #[true, true, true, true, false, false, false, false, false, false, false]) 3 rfl (by kernel_rfl) (by kernel_rfl) (by kernel_rfl) rfl rfl rfl rfl (Yld.load1 rfl Tryd.underlying3 rfl rfl (fun w hI => Inv.cell1 hI (i := 0) rfl rfl)) (fun w hI => hI.pick (is := [0]) (by decide) rfl) ?_
  refine AnyJ.take (fuel := 6) (listed' := #[true, true, true, true, true, false, false, false, false, false, false]) 4 rfl (by kernel_rfl) (by kernel_rfl) (by kernel_rfl) rfl rfl rfl rfl (Yld.move rfl rfl) (fun w hI => hI.pick (is := [0]) (by decide) rfl) ?_
  refine AnyJ.take (fuel := 5) (listed' := #[true, true, true, true, true, true, false, false, false, false, false]) 5 rfl (by kernel_rfl) (by kernel_rfl) (by kernel_rfl) rfl rfl rfl rfl (Yld.nilCheck rfl rfl) (fun w hI => hI.pick (is := [0]) (by decide) rfl) ?_
  refine AnyJ.take (fuel := 4) (listed' := #[true, true, true, true, true, true, true, false, false, false, false]) 6 rfl (by kernel_rfl) (by kernel_rfl) (by kernel_rfl) rfl rfl rfl rfl (Yld.fieldAddr fa_101_1 rfl rfl) (fun w hI => hI.pick (is := [0]) (by decide) rfl) ?_
  refine AnyJ.take (fuel := 3) (listed' := #[true, true, true, true, true, true, true, true, false, false, false]) 7 rfl (by kernel_rfl) (by kernel_rfl) (by kernel_rfl) rfl rfl rfl rfl (Yld.load1 rfl Tryd.underlying3 rfl rfl (fun w hI => Inv.cell1 hI (i := 0) rfl rfl)) (fun w hI => hI.pick (is := [0]) (by decide) rfl) ?_
  refine AnyJ.take (fuel := 2) (listed' := #[true, true, true, true, true, true, true, true, true, false, false]) 8 rfl (by kernel_rfl) (by kernel_rfl) (by kernel_rfl) rfl rfl rfl rfl (Yld.assign rfl rfl) (fun w hI => hI.pick (is := [0]) (by decide) rfl) ?_
  refine AnyJ.take (fuel := 1) (listed' := #[true, true, true, true, true, true, true, true, true, true, false]) 9 rfl (by kernel_rfl) (by kernel_rfl) (by kernel_rfl) rfl rfl rfl rfl (Yld.assign rfl rfl) (fun w hI => hI.pick (is := [0]) (by decide) rfl) ?_
  refine AnyJ.take (fuel := 0) (listed' := #[true, true, true, true, true, true, true, true, true, true, true]) 10 rfl (by kernel_rfl) (by kernel_rfl) (by kernel_rfl) rfl rfl rfl rfl (Yld.assign rfl rfl) (fun w hI => hI.pick (is := [0]) (by decide) rfl) ?_
  refine AnyJ.done (by kernel_rfl) ?_
  refine ExJ.thenN ?_
  refine CodeJ.seq ?_
  refine CodeJ.block ?_
  refine CodeJ.loopP (fun L H m => ∃ (k start at_ : Nat) (ls done : List (List UInt8)) (e : Nat) (w j : Bool) (ra : Nat) (wh : Bool), RdN t k start at_ ls e w ∧ done ++ ls = LS ∧ (if j then ra = E ∧ wh = false ∧ W = false else ra = at0 ∧ e = E ∧ w = W ∧ wh = w0_) ∧ start ≤ 1000000000000000000 ∧
  L = [(0, .pointer (some ⟨rb, 0, none⟩)), (3, strV (txt done)), (4, .int .i64 at_), (5, .int .i64 start), (6, .bool j)] ∧ H = [rdB rb (.slice (some ⟨db, off, none⟩) (hd ++ t).length c) ra wh] ∧ m = k) ⟨k0, at0, at0, LS, [], E, W, false, at0, w0_, hrd0, rfl, ⟨rfl, rfl, rfl, rfl⟩, by have := hrd0.at_lt; omega, rfl, rfl, rfl⟩ ⟨rfl, rfl, rfl, rfl, rfl, trivial⟩ (fun w hI => hI) ?_
  rintro _ _ _ ⟨k, start, at_, ls, done, e, w, j, ra, wh, hrd, hdone, hj, hsb, rfl, rfl, rfl⟩
  refine CodeJ.seq ?_
  refine CodeJ.seq ?_
  refine CodeJ.region ?_
  refine OpsJ.yld rfl rfl rfl (Yld.move rfl rfl) ?_
  refine OpsJ.yld rfl rfl rfl (Yld.nilCheck rfl rfl) ?_
  refine OpsJ.yld rfl rfl rfl (Yld.fieldAddr fa_101_2 rfl rfl) ?_
  refine OpsJ.yld rfl rfl rfl (Yld.load1 rfl Tryd.underlying4 rfl rfl (fun w hI => Inv.cell1 hI (i := 0) rfl rfl)) ?_
  refine OpsJ.yld rfl rfl rfl (Yld.not rfl rfl) ?_
  refine OpsJ.nil ?_
  refine ExJ.thenN ?_
  refine CodeJ.condT rfl ?_
  refine CodeJ.skip ?_
  refine ExJ.thenN ?_
  refine CodeJ.block ?_
  refine CodeJ.seq ?_
  refine CodeJ.seq ?_
  refine CodeJ.region ?_
  have hlt := hrd.at_lt
  obtain ⟨nb, hnb⟩ : ∃ nb, t[at_ - 12]? = some nb := ⟨_, List.getElem?_eq_getElem (show at_ - 12 < t.length by omega)⟩
  have hmb : (hd ++ t)[at_]? = some nb := by rw [msg_get hh hlt.1]; exact hnb
  have hnl : nb.toNat < 256 := nb.toNat_lt
  refine OpsJ.yld rfl rfl rfl (Yld.move rfl rfl) ?_
  refine OpsJ.yld rfl rfl rfl (Yld.move rfl rfl) ?_
  refine OpsJ.yld rfl rfl rfl (Yld.nilCheck rfl rfl) ?_
  refine OpsJ.yld rfl rfl rfl (Yld.fieldAddr fa_101_0 rfl rfl) ?_
  refine OpsJ.yld rfl rfl rfl (Yld.load1 rfl Tryd.underlying31 rfl rfl (fun w hI => Inv.cell1 hI (i := 0) rfl rfl)) ?_
  refine OpsJ.yld rfl rfl rfl (Yld.lenSlice rfl rfl rfl Tryd.underlying31 rfl) ?_
  refine OpsJ.yld rfl rfl rfl (Yld.intBin rfl rfl rfl rfl) ?_
  refine OpsJ.nil ?_
  refine ExJ.thenN ?_
  refine CodeJ.condP rfl (fun c28 => ?_) (fun c28 => ?_)
  · exact absurd c28 (by omega)
  · refine CodeJ.skip ?_
    refine ExJ.thenN ?_
    refine CodeJ.seq ?_
    refine CodeJ.region ?_
    refine OpsJ.yld rfl rfl rfl (Yld.move rfl rfl) ?_
    refine OpsJ.yld rfl rfl rfl (Yld.nilCheck rfl rfl) ?_
    refine OpsJ.yld rfl rfl rfl (Yld.fieldAddr fa_101_0 rfl rfl) ?_
    refine OpsJ.yld rfl rfl rfl (Yld.load1 rfl Tryd.underlying31 rfl rfl (fun w hI => Inv.cell1 hI (i := 0) rfl rfl)) ?_
    refine OpsJ.yld rfl rfl rfl (Yld.move rfl rfl) ?_
    refine OpsJ.yld rfl rfl rfl (Yld.indexAddr (i := at_) rfl Tryd.underlying31 sz_5 rfl rfl (by omega)) ?_
    refine OpsJ.yld rfl rfl rfl (Yld.load1 rfl Tryd.underlying5 rfl rfl (fun w hI => hI.old (byte_cell hcs hmb) hout)) ?_
    refine OpsJ.yld rfl rfl rfl (Yld.convInt rfl Tryd.underlying5 Tryd.underlying3 rfl) ?_
    rw [i64_wrap _ (by omega)]
    refine OpsJ.yld rfl rfl rfl (Yld.assign rfl rfl) ?_
    refine OpsJ.nil ?_
    refine ExJ.thenN ?_
    refine CodeJ.block ?_
    refine CodeJ.seq ?_
    refine CodeJ.region ?_
    refine OpsJ.yld rfl rfl rfl (Yld.move rfl rfl) ?_
    refine OpsJ.yld rfl rfl rfl (Yld.intBin rfl rfl rfl rfl) ?_
    refine OpsJ.yld rfl rfl rfl (Yld.assign rfl rfl) ?_
    refine OpsJ.nil ?_
    refine ExJ.thenN ?_
    refine CodeJ.cond rfl (fun c43 => ?_) (fun c43 => ?_)
    · have h0 : nb.toNat = 0 := by
        have : (nb.toNat : Int) = 0 := by simpa using c43
        omega
      have h0' : nb = 0 := UInt8.toNat_inj.1 h0
      obtain ⟨hls, he, hw⟩ := hrd.zero (by rw [hnb, h0'])
      subst hls
      rw [List.append_nil] at hdone
      subst hdone
      refine CodeJ.seq ?_
      refine CodeJ.seq ?_
      refine CodeJ.region ?_
      refine OpsJ.yld rfl rfl rfl (Yld.move rfl rfl) ?_
      refine OpsJ.yld rfl rfl rfl (Yld.not rfl rfl) ?_
      refine OpsJ.nil ?_
      refine ExJ.thenN ?_
      refine CodeJ.cond rfl (fun c47 => ?_) (fun c47 => ?_)
      · obtain rfl : j = false := by simpa using c47
        obtain ⟨h1, h2, h3, h4⟩ := hj
        refine CodeJ.region ?_
        refine OpsJ.yld rfl rfl rfl (Yld.move rfl rfl) ?_
        refine OpsJ.yld rfl rfl rfl (Yld.move rfl rfl) ?_
        refine OpsJ.yld rfl rfl rfl (Yld.intBin rfl rfl rfl rfl) ?_
        rw [i64_succ _ (by omega)]
        refine OpsJ.yld rfl rfl rfl (Yld.nilCheck rfl rfl) ?_
        refine OpsJ.yld rfl rfl rfl (Yld.fieldAddr fa_101_1 rfl rfl) ?_
        refine OpsJ.op rfl ?_
        refine OpJ.store1 (i := 0) rfl rfl rfl rfl rfl sz_3 rfl rfl ?_
        refine OpsJ.nil ?_
        refine ExJ.thenN ?_
        refine CodeJ.seq ?_
        refine CodeJ.seq ?_
        refine CodeJ.region ?_
        refine OpsJ.yld rfl rfl rfl (Yld.move rfl rfl) ?_
        refine OpsJ.yld rfl rfl rfl (Yld.strEq rfl rfl rfl) ?_
        refine OpsJ.nil ?_
        refine ExJ.thenN ?_
        refine CodeJ.cond rfl (fun c54 => ?_) (fun c54 => ?_)
        · have hz : txt done = [] := by
            have := c54
            rw [toList_strV, show (⟨#[]⟩ : ByteArray).toList = [] from toList_strV []] at this
            simpa using this
          have hdn := txt_nil _ hz
          subst hdn
          refine CodeJ.seq ?_
          refine CodeJ.region ?_
          refine OpsJ.yld rfl rfl rfl (Yld.assign rfl rfl) ?_
          refine OpsJ.nil ?_
          refine ExJ.thenN ?_
          refine CodeJ.ret ?_
          refine ExJ.thenR ?_
          refine ExJ.blockR ?_
          refine ExJ.blockR ?_
          refine ExJ.thenR ?_
          refine ExJ.blockR ?_
          refine ExJ.thenR ?_
          exact ExJ.ret1 Tryd.results45 rfl ⟨rfl, by rw [h4, ← h3, hw, ← h2, he]; simp; rfl⟩ fun w hI => hI
        · have hnn : done ≠ [] := by
            intro h
            have hh2 := c54
            rw [h, toList_strV, show (⟨#[]⟩ : ByteArray).toList = [] from toList_strV []] at hh2
            simp [txt] at hh2
          refine CodeJ.skip ?_
          refine ExJ.thenN ?_
          refine CodeJ.seq ?_
          refine CodeJ.region ?_
          refine OpsJ.yld rfl rfl rfl (Yld.move rfl rfl) ?_
          refine OpsJ.yld rfl rfl rfl (Yld.assign rfl rfl) ?_
          refine OpsJ.nil ?_
          refine ExJ.thenN ?_
          refine CodeJ.ret ?_
          refine ExJ.blockR ?_
          refine ExJ.blockR ?_
          refine ExJ.thenR ?_
          refine ExJ.blockR ?_
          refine ExJ.thenR ?_
          exact ExJ.ret1 Tryd.results45 rfl ⟨by rw [nameTxt, if_neg hnn], by rw [h4, ← h3, hw, ← h2, he]; simp; rfl⟩ fun w hI => hI
      · obtain rfl : j = true := by simpa using c47
        obtain ⟨h1, h2, h5⟩ := hj
        refine CodeJ.skip ?_
        refine ExJ.thenN ?_
        refine CodeJ.seq ?_
        refine CodeJ.seq ?_
        refine CodeJ.region ?_
        refine OpsJ.yld rfl rfl rfl (Yld.move rfl rfl) ?_
        refine OpsJ.yld rfl rfl rfl (Yld.strEq rfl rfl rfl) ?_
        refine OpsJ.nil ?_
        refine ExJ.thenN ?_
        refine CodeJ.cond rfl (fun c54 => ?_) (fun c54 => ?_)
        · have hz : txt done = [] := by
            have := c54
            rw [toList_strV, show (⟨#[]⟩ : ByteArray).toList = [] from toList_strV []] at this
            simpa using this
          have hdn := txt_nil _ hz
          subst hdn
          refine CodeJ.seq ?_
          refine CodeJ.region ?_
          refine OpsJ.yld rfl rfl rfl (Yld.assign rfl rfl) ?_
          refine OpsJ.nil ?_
          refine ExJ.thenN ?_
          refine CodeJ.ret ?_
          refine ExJ.thenR ?_
          refine ExJ.blockR ?_
          refine ExJ.blockR ?_
          refine ExJ.thenR ?_
          refine ExJ.blockR ?_
          refine ExJ.thenR ?_
          exact ExJ.ret1 Tryd.results45 rfl ⟨rfl, by rw [h1, h2, h5, Bool.and_false]⟩ fun w hI => hI
        · have hnn : done ≠ [] := by
            intro h
            have hh2 := c54
            rw [h, toList_strV, show (⟨#[]⟩ : ByteArray).toList = [] from toList_strV []] at hh2
            simp [txt] at hh2
          refine CodeJ.skip ?_
          refine ExJ.thenN ?_
          refine CodeJ.seq ?_
          refine CodeJ.region ?_
          refine OpsJ.yld rfl rfl rfl (Yld.move rfl rfl) ?_
          refine OpsJ.yld rfl rfl rfl (Yld.assign rfl rfl) ?_
          refine OpsJ.nil ?_
          refine ExJ.thenN ?_
          refine CodeJ.ret ?_
          refine ExJ.blockR ?_
          refine ExJ.blockR ?_
          refine ExJ.thenR ?_
          refine ExJ.blockR ?_
          refine ExJ.thenR ?_
          exact ExJ.ret1 Tryd.results45 rfl ⟨by rw [nameTxt, if_neg hnn], by rw [h1, h2, h5, Bool.and_false]⟩ fun w hI => hI
    · have hz : nb.toNat ≠ 0 := fun h => by simp [h] at c43
      refine CodeJ.seq ?_
      refine CodeJ.region ?_
      refine OpsJ.yld rfl rfl rfl (Yld.move rfl rfl) ?_
      refine OpsJ.yld rfl rfl rfl (Yld.intBin rfl rfl rfl rfl) ?_
      refine OpsJ.yld rfl rfl rfl (Yld.move rfl rfl) ?_
      refine OpsJ.splitP (s := 59) rfl (fun g59 => ?_) (fun g59 => ?_)
      · obtain ⟨k', l, ls', hk, hls, hnl2, hlp, hlt2, hld, hrd'⟩ := hrd.label hnb hz (by omega)
        have hlt3 := hrd'.at_lt
        have htl : (hd ++ t).drop (at_ + 1) = t.drop (at_ - 12 + 1) := by rw [msg_drop hh (by omega), show at_ + 1 - 12 = at_ - 12 + 1 by omega]
        have hlab : Cells w0 db (off + (at_ + 1)) (bytesV l) := part_bytes hcs (by rw [htl]; exact hlt2) (by omega)
        have hll : (txt (done ++ [l])).length ≤ 1000000 := by
          refine Nat.le_trans ?_ hts
          rw [← hdone, hls]
          simp only [txt, List.map_append, List.map_cons, List.map_nil, List.flatten_append, List.length_append, List.flatten_cons, List.flatten_nil, List.length_nil]
          omega
        rw [txt_snoc, List.length_append, List.length_append, List.length_singleton] at hll
        refine OpsJ.opT rfl rfl rfl ?_
        refine OpJ.yld rfl rfl (Yld.move rfl rfl) ?_
        refine OpsJ.opT rfl rfl rfl ?_
        refine OpJ.yld rfl rfl (Yld.intBin rfl rfl rfl rfl) ?_
        rw [i64_succ _ (by omega)]
        refine OpsJ.opT rfl rfl rfl ?_
        refine OpJ.yld rfl rfl (Yld.move rfl rfl) ?_
        refine OpsJ.opT rfl rfl rfl ?_
        refine OpJ.yld rfl rfl (Yld.intBin rfl rfl rfl rfl) ?_
        rw [i64_add _ _ (by omega)]
        refine OpsJ.opT rfl rfl rfl ?_
        refine OpJ.yld rfl rfl (Yld.move rfl rfl) ?_
        refine OpsJ.opT rfl rfl rfl ?_
        refine OpJ.yld rfl rfl (Yld.nilCheck rfl rfl) ?_
        refine OpsJ.opT rfl rfl rfl ?_
        refine OpJ.yld rfl rfl (Yld.fieldAddr fa_101_0 rfl rfl) ?_
        refine OpsJ.opT rfl rfl rfl ?_
        refine OpJ.yld rfl rfl (Yld.load1 rfl Tryd.underlying31 rfl rfl (fun w hI => Inv.cell1 hI (i := 0) rfl rfl)) ?_
        refine OpsJ.opT rfl rfl rfl ?_
        refine OpJ.yld rfl rfl (Yld.lenSlice rfl rfl rfl Tryd.underlying31 rfl) ?_
        refine OpsJ.opT rfl rfl rfl ?_
        refine OpJ.yld rfl rfl (Yld.intBin rfl rfl rfl rfl) ?_
        refine OpsJ.yld rfl rfl rfl (Yld.pickT rfl rfl rfl) ?_
        refine OpsJ.yld rfl rfl rfl (Yld.assign rfl rfl) ?_
        refine OpsJ.nil ?_
        refine ExJ.thenN ?_
        refine CodeJ.condP rfl (fun c56 => ?_) (fun c56 => ?_)
        · refine CodeJ.seq ?_
          refine CodeJ.region ?_
          refine OpsJ.yld rfl rfl rfl (Yld.move rfl rfl) ?_
          refine OpsJ.yld rfl rfl rfl (Yld.move rfl rfl) ?_
          refine OpsJ.yld rfl rfl rfl (Yld.nilCheck rfl rfl) ?_
          refine OpsJ.yld rfl rfl rfl (Yld.fieldAddr fa_101_0 rfl rfl) ?_
          refine OpsJ.yld rfl rfl rfl (Yld.load1 rfl Tryd.underlying31 rfl rfl (fun w hI => Inv.cell1 hI (i := 0) rfl rfl)) ?_
          refine OpsJ.yld rfl rfl rfl (Yld.move rfl rfl) ?_
          refine OpsJ.yld rfl rfl rfl (Yld.intBin rfl rfl rfl rfl) ?_
          rw [i64_succ _ (by omega)]
          refine OpsJ.yld rfl rfl rfl (Yld.move rfl rfl) ?_
          refine OpsJ.yld rfl rfl rfl (Yld.intBin rfl rfl rfl rfl) ?_
          rw [i64_succ _ (by omega)]
          refine OpsJ.yld rfl rfl rfl (Yld.move rfl rfl) ?_
          refine OpsJ.yld rfl rfl rfl (Yld.intBin rfl rfl rfl rfl) ?_
          rw [i64_add _ _ (by omega)]
          refine OpsJ.yld rfl rfl rfl (Yld.sliceSl (lo := at_ + 1) (hi := at_ + 1 + nb.toNat) rfl Tryd.underlying31 sz_5 rfl rfl rfl (by omega) (by omega) (by omega)) ?_
          rw [show at_ + 1 + nb.toNat - (at_ + 1) = l.length by omega]
          refine OpsJ.op rfl ?_
          refine OpJ.call (dotted_spec db (off + (at_ + 1)) _ l hld (by omega)) has_76 rfl rfl rfl rfl rfl [] [0] (by decide) rfl rfl (fun w hI => hI.old hlab hout) ?_
          rintro _ _ ⟨rfl, rfl⟩
          refine OpsJ.yld rfl rfl rfl (Yld.nilCheck rfl rfl) ?_
          refine OpsJ.yld rfl rfl rfl (Yld.fieldAddr fa_101_2 rfl rfl) ?_
          refine OpsJ.op rfl ?_
          refine OpJ.store1 (i := 0) rfl rfl rfl rfl rfl sz_4 rfl rfl ?_
          refine OpsJ.nil ?_
          refine ExJ.thenN ?_
          refine CodeJ.seq ?_
          refine CodeJ.region ?_
          refine OpsJ.yld rfl rfl rfl (Yld.move rfl rfl) ?_
          refine OpsJ.yld rfl rfl rfl (Yld.move rfl rfl) ?_
          refine OpsJ.yld rfl rfl rfl (Yld.nilCheck rfl rfl) ?_
          refine OpsJ.yld rfl rfl rfl (Yld.fieldAddr fa_101_0 rfl rfl) ?_
          refine OpsJ.yld rfl rfl rfl (Yld.load1 rfl Tryd.underlying31 rfl rfl (fun w hI => Inv.cell1 hI (i := 0) rfl rfl)) ?_
          refine OpsJ.yld rfl rfl rfl (Yld.move rfl rfl) ?_
          refine OpsJ.yld rfl rfl rfl (Yld.intBin rfl rfl rfl rfl) ?_
          rw [i64_succ _ (by omega)]
          refine OpsJ.yld rfl rfl rfl (Yld.move rfl rfl) ?_
          refine OpsJ.yld rfl rfl rfl (Yld.intBin rfl rfl rfl rfl) ?_
          rw [i64_succ _ (by omega)]
          refine OpsJ.yld rfl rfl rfl (Yld.move rfl rfl) ?_
          refine OpsJ.yld rfl rfl rfl (Yld.intBin rfl rfl rfl rfl) ?_
          rw [i64_add _ _ (by omega)]
          refine OpsJ.yld rfl rfl rfl (Yld.sliceSl (lo := at_ + 1) (hi := at_ + 1 + nb.toNat) rfl Tryd.underlying31 sz_5 rfl rfl rfl (by omega) (by omega) (by omega)) ?_
          rw [show at_ + 1 + nb.toNat - (at_ + 1) = l.length by omega]
          refine OpsJ.yld rfl rfl rfl (Yld.bytesStrV (bs := l) rfl Tryd.underlying31 Tryd.underlying5 Tryd.underlying9 rfl (fun w hI => .inr ⟨_, _, _, rfl, hI.old hlab hout⟩)) ?_
          refine OpsJ.yld rfl rfl rfl (Yld.strAdd rfl rfl rfl (by show (⟨l.toArray⟩ : ByteArray).size + 1 ≤ _; simp [ByteArray.size]; omega)) ?_
          refine OpsJ.yld rfl rfl rfl (Yld.strAdd rfl rfl rfl (by show (⟨(txt done).toArray⟩ : ByteArray).size + ((⟨l.toArray⟩ : ByteArray) ++ ⟨#[46]⟩).size ≤ _; simp [ByteArray.size]; omega)) ?_
          rw [show ((⟨(txt done).toArray⟩ : ByteArray) ++ ((⟨l.toArray⟩ : ByteArray) ++ ⟨#[46]⟩)) = ⟨(txt done ++ (l ++ [46])).toArray⟩ by rw [show (⟨#[46]⟩ : ByteArray) = ⟨[(46 : UInt8)].toArray⟩ from rfl, str_join, str_join]]
          refine OpsJ.yld rfl rfl rfl (Yld.assign rfl rfl) ?_
          refine OpsJ.nil ?_
          refine ExJ.thenN ?_
          refine CodeJ.region ?_
          refine OpsJ.yld rfl rfl rfl (Yld.move rfl rfl) ?_
          refine OpsJ.yld rfl rfl rfl (Yld.move rfl rfl) ?_
          refine OpsJ.yld rfl rfl rfl (Yld.intBin rfl rfl rfl rfl) ?_
          rw [show (1 : Int) + (nb.toNat : Int) = ((1 + nb.toNat : Nat) : Int) by omega, i64_wrap _ (by omega)]
          refine OpsJ.yld rfl rfl rfl (Yld.intBin rfl rfl rfl rfl) ?_
          rw [i64_add _ _ (by omega), show at_ + (1 + nb.toNat) = at_ + 1 + l.length by omega]
          refine OpsJ.yld rfl rfl rfl (Yld.assign rfl rfl) ?_
          refine OpsJ.nil ?_
          refine ExJ.blockN ?_
          refine ExJ.blockN ?_
          exact ExJ.againP ⟨k', start, at_ + 1 + l.length, ls', done ++ [l], e, w, j, ra, wh, hrd', by rw [← hdone, hls]; simp, hj, hsb, rfl, rfl, rfl⟩ (by omega) ⟨rfl, by rw [txt_snoc]; rfl, rfl, rfl, rfl, trivial⟩ fun w hI => hI
        · exact absurd c56 (by omega)
      · obtain ⟨k', p, e', w', hk, hnp, hlo, hp, hps, hrd', he, hw'⟩ := hrd.jump hnb (by omega)
        have hlo' : (hd ++ t)[at_ + 1]? = some (UInt8.ofNat p) := by rw [msg_get hh (by omega), show at_ + 1 - 12 = at_ - 12 + 1 by omega]; exact hlo
        have hlt3 := (List.getElem?_eq_some_iff.1 hlo').1
        refine OpsJ.opF rfl rfl rfl rfl rfl rfl ?_
        refine OpsJ.opF rfl rfl rfl rfl rfl rfl ?_
        refine OpsJ.opF rfl rfl rfl rfl rfl rfl ?_
        refine OpsJ.opF rfl rfl rfl rfl rfl rfl ?_
        refine OpsJ.opF rfl rfl rfl rfl rfl rfl ?_
        refine OpsJ.opF rfl rfl rfl rfl rfl rfl ?_
        refine OpsJ.opF rfl rfl rfl rfl rfl rfl ?_
        refine OpsJ.opF rfl rfl rfl rfl rfl rfl ?_
        refine OpsJ.opF rfl rfl rfl rfl rfl rfl ?_
        refine OpsJ.opF rfl rfl rfl rfl rfl rfl ?_
        refine OpsJ.yld rfl rfl rfl (Yld.pickF rfl rfl rfl) ?_
        refine OpsJ.yld rfl rfl rfl (Yld.assign rfl rfl) ?_
        refine OpsJ.nil ?_
        refine ExJ.thenN ?_
        refine CodeJ.condF rfl ?_
        refine CodeJ.seq ?_
        refine CodeJ.region ?_
        refine OpsJ.yld rfl rfl rfl (Yld.move rfl rfl) ?_
        refine OpsJ.yld rfl rfl rfl (Yld.intBin rfl rfl rfl rfl) ?_
        refine OpsJ.yld rfl rfl rfl (Yld.move rfl rfl) ?_
        refine OpsJ.splitP (s := 108) rfl (fun g108 => ?_) (fun g108 => ?_)
        · refine OpsJ.opT rfl rfl rfl ?_
          refine OpJ.yld rfl rfl (Yld.move rfl rfl) ?_
          refine OpsJ.opT rfl rfl rfl ?_
          refine OpJ.yld rfl rfl (Yld.intBin rfl rfl rfl rfl) ?_
          rw [i64_succ _ (by omega)]
          refine OpsJ.opT rfl rfl rfl ?_
          refine OpJ.yld rfl rfl (Yld.move rfl rfl) ?_
          refine OpsJ.opT rfl rfl rfl ?_
          refine OpJ.yld rfl rfl (Yld.nilCheck rfl rfl) ?_
          refine OpsJ.opT rfl rfl rfl ?_
          refine OpJ.yld rfl rfl (Yld.fieldAddr fa_101_0 rfl rfl) ?_
          refine OpsJ.opT rfl rfl rfl ?_
          refine OpJ.yld rfl rfl (Yld.load1 rfl Tryd.underlying31 rfl rfl (fun w hI => Inv.cell1 hI (i := 0) rfl rfl)) ?_
          refine OpsJ.opT rfl rfl rfl ?_
          refine OpJ.yld rfl rfl (Yld.lenSlice rfl rfl rfl Tryd.underlying31 rfl) ?_
          refine OpsJ.opT rfl rfl rfl ?_
          refine OpJ.yld rfl rfl (Yld.intBin rfl rfl rfl rfl) ?_
          refine OpsJ.yld rfl rfl rfl (Yld.pickT rfl rfl rfl) ?_
          refine OpsJ.yld rfl rfl rfl (Yld.assign rfl rfl) ?_
          refine OpsJ.nil ?_
          refine ExJ.thenN ?_
          refine CodeJ.condP rfl (fun c105 => ?_) (fun c105 => ?_)
          · refine CodeJ.seq ?_
            refine CodeJ.region ?_
            refine OpsJ.yld rfl rfl rfl (Yld.move rfl rfl) ?_
            refine OpsJ.yld rfl rfl rfl (Yld.intBin rfl rfl rfl rfl) ?_
            rw [show (nb.toNat : Int) - 192 = ((p / 256 : Nat) : Int) by omega, i64_wrap (p / 256) (by omega)]
            refine OpsJ.yld rfl rfl rfl (Yld.shl rfl rfl rfl (by decide)) ?_
            refine OpsJ.yld rfl rfl rfl (Yld.move rfl rfl) ?_
            refine OpsJ.yld rfl rfl rfl (Yld.nilCheck rfl rfl) ?_
            refine OpsJ.yld rfl rfl rfl (Yld.fieldAddr fa_101_0 rfl rfl) ?_
            refine OpsJ.yld rfl rfl rfl (Yld.load1 rfl Tryd.underlying31 rfl rfl (fun w hI => Inv.cell1 hI (i := 0) rfl rfl)) ?_
            refine OpsJ.yld rfl rfl rfl (Yld.move rfl rfl) ?_
            refine OpsJ.yld rfl rfl rfl (Yld.intBin rfl rfl rfl rfl) ?_
            rw [i64_succ _ (by omega)]
            refine OpsJ.yld rfl rfl rfl (Yld.indexAddr (i := at_ + 1) rfl Tryd.underlying31 sz_5 rfl rfl hlt3) ?_
            refine OpsJ.yld rfl rfl rfl (Yld.load1 rfl Tryd.underlying5 rfl rfl (fun w hI => hI.old (byte_cell hcs hlo') hout)) ?_
            refine OpsJ.yld rfl rfl rfl (Yld.convInt rfl Tryd.underlying5 Tryd.underlying3 rfl) ?_
            refine OpsJ.yld rfl rfl rfl (Yld.intBin rfl rfl rfl rfl) ?_
            rw [rdPtr p hp]
            refine OpsJ.yld rfl rfl rfl (Yld.assign rfl rfl) ?_
            refine OpsJ.nil ?_
            refine ExJ.thenN ?_
            refine CodeJ.seq ?_
            refine CodeJ.seq ?_
            refine CodeJ.region ?_
            refine OpsJ.yld rfl rfl rfl (Yld.move rfl rfl) ?_
            refine OpsJ.yld rfl rfl rfl (Yld.not rfl rfl) ?_
            refine OpsJ.nil ?_
            refine ExJ.thenN ?_
            refine CodeJ.cond rfl (fun c132 => ?_) (fun c132 => ?_)
            · obtain rfl : j = false := by simpa using c132
              refine CodeJ.region ?_
              refine OpsJ.yld rfl rfl rfl (Yld.move rfl rfl) ?_
              refine OpsJ.yld rfl rfl rfl (Yld.move rfl rfl) ?_
              refine OpsJ.yld rfl rfl rfl (Yld.intBin rfl rfl rfl rfl) ?_
              rw [show (at_ : Int) + 2 = ((at_ + 2 : Nat) : Int) by omega, i64_wrap _ (by omega)]
              refine OpsJ.yld rfl rfl rfl (Yld.nilCheck rfl rfl) ?_
              refine OpsJ.yld rfl rfl rfl (Yld.fieldAddr fa_101_1 rfl rfl) ?_
              refine OpsJ.op rfl ?_
              refine OpJ.store1 (i := 0) rfl rfl rfl rfl rfl sz_3 rfl rfl ?_
              refine OpsJ.nil ?_
              refine ExJ.thenN ?_
              refine CodeJ.seq ?_
              refine CodeJ.region ?_
              refine OpsJ.yld rfl rfl rfl (Yld.move rfl rfl) ?_
              refine OpsJ.yld rfl rfl rfl (Yld.move rfl rfl) ?_
              refine OpsJ.yld rfl rfl rfl (Yld.move rfl rfl) ?_
              refine OpsJ.yld rfl rfl rfl (Yld.intBin rfl rfl rfl rfl) ?_
              rw [show decide ((p : Int) ≥ (start : Int)) = false by simp; omega]
              refine OpsJ.yld rfl rfl rfl (Yld.nilCheck rfl rfl) ?_
              refine OpsJ.yld rfl rfl rfl (Yld.fieldAddr fa_101_2 rfl rfl) ?_
              refine OpsJ.op rfl ?_
              refine OpJ.store1 (i := 0) rfl rfl rfl rfl rfl sz_4 rfl rfl ?_
              refine OpsJ.nil ?_
              refine ExJ.thenN ?_
              refine CodeJ.seq ?_
              refine CodeJ.region ?_
              refine OpsJ.yld rfl rfl rfl (Yld.move rfl rfl) ?_
              refine OpsJ.yld rfl rfl rfl (Yld.move rfl rfl) ?_
              refine OpsJ.yld rfl rfl rfl (Yld.assign rfl rfl) ?_
              refine OpsJ.yld rfl rfl rfl (Yld.assign rfl rfl) ?_
              refine OpsJ.yld rfl rfl rfl (Yld.assign rfl rfl) ?_
              refine OpsJ.nil ?_
              refine ExJ.thenN ?_
              refine CodeJ.region ?_
              refine OpsJ.yld rfl rfl rfl (Yld.move rfl rfl) ?_
              refine OpsJ.yld rfl rfl rfl (Yld.nilCheck rfl rfl) ?_
              refine OpsJ.yld rfl rfl rfl (Yld.fieldAddr fa_101_3 rfl rfl) ?_
              refine OpsJ.op rfl ?_
              refine OpJ.store1 (i := 0) rfl rfl rfl rfl rfl sz_4 rfl rfl ?_
              refine OpsJ.nil ?_
              refine ExJ.blockN ?_
              refine ExJ.blockN ?_
              exact ExJ.againP ⟨k', p, p, ls, done, e', w', true, at_ + 2, false, hrd', hdone, by obtain ⟨_, h2, h3, _⟩ := hj; exact ⟨by omega, rfl, by rw [← h3, hw']⟩, by omega, rfl, rfl, rfl⟩ (by omega) ⟨rfl, rfl, rfl, rfl, rfl, trivial⟩ fun w hI => hI
            · obtain rfl : j = true := by simpa using c132
              refine CodeJ.skip ?_
              refine ExJ.thenN ?_
              refine CodeJ.seq ?_
              refine CodeJ.region ?_
              refine OpsJ.yld rfl rfl rfl (Yld.move rfl rfl) ?_
              refine OpsJ.yld rfl rfl rfl (Yld.move rfl rfl) ?_
              refine OpsJ.yld rfl rfl rfl (Yld.move rfl rfl) ?_
              refine OpsJ.yld rfl rfl rfl (Yld.intBin rfl rfl rfl rfl) ?_
              rw [show decide ((p : Int) ≥ (start : Int)) = false by simp; omega]
              refine OpsJ.yld rfl rfl rfl (Yld.nilCheck rfl rfl) ?_
              refine OpsJ.yld rfl rfl rfl (Yld.fieldAddr fa_101_2 rfl rfl) ?_
              refine OpsJ.op rfl ?_
              refine OpJ.store1 (i := 0) rfl rfl rfl rfl rfl sz_4 rfl rfl ?_
              refine OpsJ.nil ?_
              refine ExJ.thenN ?_
              refine CodeJ.seq ?_
              refine CodeJ.region ?_
              refine OpsJ.yld rfl rfl rfl (Yld.move rfl rfl) ?_
              refine OpsJ.yld rfl rfl rfl (Yld.move rfl rfl) ?_
              refine OpsJ.yld rfl rfl rfl (Yld.assign rfl rfl) ?_
              refine OpsJ.yld rfl rfl rfl (Yld.assign rfl rfl) ?_
              refine OpsJ.yld rfl rfl rfl (Yld.assign rfl rfl) ?_
              refine OpsJ.nil ?_
              refine ExJ.thenN ?_
              refine CodeJ.region ?_
              refine OpsJ.yld rfl rfl rfl (Yld.move rfl rfl) ?_
              refine OpsJ.yld rfl rfl rfl (Yld.nilCheck rfl rfl) ?_
              refine OpsJ.yld rfl rfl rfl (Yld.fieldAddr fa_101_3 rfl rfl) ?_
              refine OpsJ.op rfl ?_
              refine OpJ.store1 (i := 0) rfl rfl rfl rfl rfl sz_4 rfl rfl ?_
              refine OpsJ.nil ?_
              refine ExJ.blockN ?_
              refine ExJ.blockN ?_
              exact ExJ.againP ⟨k', p, p, ls, done, e', w', true, ra, false, hrd', hdone, ⟨hj.1, rfl, hj.2.2⟩, by omega, rfl, rfl, rfl⟩ (by omega) ⟨rfl, rfl, rfl, rfl, rfl, trivial⟩ fun w hI => hI
          · exact absurd c105 (by omega)
        · exact absurd g108 (by omega)
end Go.Proofs.YtamobccbioafmaaDoor

/-
  Plain: what the reader finds in a message.
-/
namespace Go.Proofs.YtamobccbioafmaaDoor
open Go
set_option maxRecDepth 100000

/-- what stands in a body, from a place to a place -/
abbrev BodyAt := List UInt8 → Nat → Nat → RecD → Prop
def RecAt (K : Kind) (BA : BodyAt) (t : List UInt8) (at_ e : Nat) (x : RecD) : Prop :=
  ∃ k ls w n, RdN t k at_ at_ ls n w ∧ x.name.data.toList = nameTxt ls ∧ n + 10 ≤ e ∧ e ≤ 12 + t.length ∧ e - (n + 10) < 65536 ∧ (t.drop (n - 12)).take 10 = rh10 (K.typ x) x.cls x.ttl (e - (n + 10)) ∧ BA t (n + 10) e x
def RecsAt (K : Kind) (BA : BodyAt) (t : List UInt8) : Nat → Nat → List RecD → Prop
  | at_, e, [] => at_ = e
  | at_, e, x :: r => ∃ n, RecAt K BA t at_ n x ∧ RecsAt K BA t n e r
def AskAt (t : List UInt8) (at_ e : Nat) (a : AskD) : Prop :=
  ∃ k ls w n, RdN t k at_ at_ ls n w ∧ a.name.data.toList = nameTxt ls ∧ e = n + 4 ∧ e ≤ 12 + t.length ∧ (t.drop (n - 12)).take 4 = be16 a.typ ++ be16 a.cls
def AsksAt (t : List UInt8) : Nat → Nat → List AskD → Prop
  | at_, e, [] => at_ = e
  | at_, e, a :: r => ∃ n, AskAt t at_ n a ∧ AsksAt t n e r

theorem part_app {t : List UInt8} (u : List UInt8) {i n : Nat} {l : List UInt8} (h : (t.drop i).take n = l) (hl : l.length = n) : ((t ++ u).drop i).take n = l := by
  have h1 : n ≤ (t.drop i).length := by
    have := congrArg List.length h
    simp only [List.length_take] at this
    omega
  by_cases hi : i ≤ t.length
  · rw [List.drop_append_of_le_length hi, List.take_append_of_le_length h1]
    exact h
  · simp only [List.length_drop] at h1
    have : n = 0 := by omega
    subst this
    simp at h
    subst h
    simp
/-- bodies stay where they are when more is written -/
def BodyAt.Grows (BA : BodyAt) : Prop := ∀ (t u : List UInt8) (at_ e : Nat) (x : RecD), BA t at_ e x → BA (t ++ u) at_ e x
theorem RecAt.app {K : Kind} {BA : BodyAt} (hg : BA.Grows) {t : List UInt8} (u : List UInt8) {at_ e : Nat} {x : RecD} (h : RecAt K BA t at_ e x) : RecAt K BA (t ++ u) at_ e x := by
  obtain ⟨k, ls, w, n, h1, h2, h3, h4, h5, h6, h7⟩ := h
  exact ⟨k, ls, w, n, h1.app u, h2, h3, by rw [List.length_append]; omega, h5, part_app u h6 rfl, hg _ _ _ _ _ h7⟩
theorem RecsAt.app {K : Kind} {BA : BodyAt} (hg : BA.Grows) {t : List UInt8} (u : List UInt8) : ∀ {at_ e : Nat} {rs : List RecD}, RecsAt K BA t at_ e rs → RecsAt K BA (t ++ u) at_ e rs
  | _, _, [], h => h
  | _, _, _ :: _, ⟨n, h1, h2⟩ => ⟨n, h1.app hg u, RecsAt.app hg u h2⟩
theorem AskAt.app {t : List UInt8} (u : List UInt8) {at_ e : Nat} {a : AskD} (h : AskAt t at_ e a) : AskAt (t ++ u) at_ e a := by
  obtain ⟨k, ls, w, n, h1, h2, h3, h4, h5⟩ := h
  exact ⟨k, ls, w, n, h1.app u, h2, h3, by rw [List.length_append]; omega, part_app u h5 rfl⟩
theorem AsksAt.app {t : List UInt8} (u : List UInt8) : ∀ {at_ e : Nat} {qs : List AskD}, AsksAt t at_ e qs → AsksAt (t ++ u) at_ e qs
  | _, _, [], h => h
  | _, _, _ :: _, ⟨n, h1, h2⟩ => ⟨n, h1.app u, AsksAt.app u h2⟩
theorem RecsAt.snoc {K : Kind} {BA : BodyAt} {t : List UInt8} : ∀ {at_ e e' : Nat} {rs : List RecD} {x : RecD}, RecsAt K BA t at_ e rs → RecAt K BA t e e' x → RecsAt K BA t at_ e' (rs ++ [x])
  | _, _, e', [], x, h, h2 => by subst h; exact ⟨e', h2, rfl⟩
  | _, _, _, _ :: _, _, ⟨n, h1, h3⟩, h2 => ⟨n, h1, RecsAt.snoc h3 h2⟩
theorem AsksAt.snoc {t : List UInt8} : ∀ {at_ e e' : Nat} {qs : List AskD} {a : AskD}, AsksAt t at_ e qs → AskAt t e e' a → AsksAt t at_ e' (qs ++ [a])
  | _, _, e', [], a, h, h2 => by subst h; exact ⟨e', h2, rfl⟩
  | _, _, _, _ :: _, _, ⟨n, h1, h3⟩, h2 => ⟨n, h1, AsksAt.snoc h3 h2⟩
theorem RecsAt.le {K : Kind} {BA : BodyAt} {t : List UInt8} : ∀ {at_ e : Nat} {rs : List RecD}, RecsAt K BA t at_ e rs → at_ ≤ 12 + t.length → e ≤ 12 + t.length ∧ at_ ≤ e
  | _, _, [], h, hl => by subst h; exact ⟨hl, Nat.le_refl _⟩
  | _, _, _ :: _, ⟨n, h1, h2⟩, _ => by
    obtain ⟨k, ls, w, m, a1, a2, a3, a4, a5, a6, a7⟩ := h1
    have := RecsAt.le h2 a4
    have := a1.at_lt
    omega
theorem AsksAt.le {t : List UInt8} : ∀ {at_ e : Nat} {qs : List AskD}, AsksAt t at_ e qs → at_ ≤ 12 + t.length → e ≤ 12 + t.length ∧ at_ ≤ e
  | _, _, [], h, hl => by subst h; exact ⟨hl, Nat.le_refl _⟩
  | _, _, _ :: _, ⟨n, h1, h2⟩, _ => by
    obtain ⟨k, ls, w, m, a1, a2, a3, a4, a5⟩ := h1
    have := AsksAt.le h2 a4
    have := a1.at_lt
    omega

/-- a record that was read: it is written as the given one -/
structure Back (K : Kind) (k : Nat) (x x' : RecD) : Prop where
  kind : x'.kind = (k : Nat)
  ok : K.recOk x' = true
  wire : K.recWire x' = K.recWire x
  fit : RecFit x'
  ones : oneCells x'.cells = true
def Backs (K : Kind) (k : Nat) : List RecD → List RecD → Prop
  | [], [] => True
  | x :: r, x' :: r' => Back K k x x' ∧ Backs K k r r'
  | _, _ => False
theorem Backs.len {K : Kind} {k : Nat} : ∀ {rs rs' : List RecD}, Backs K k rs rs' → rs'.length = rs.length
  | [], [], _ => rfl
  | _ :: _, _ :: _, h => by simp [Backs.len h.2]
  | [], _ :: _, h => h.elim
  | _ :: _, [], h => h.elim
theorem Backs.snoc {K : Kind} {k : Nat} : ∀ {rs rs' : List RecD} {x x' : RecD}, Backs K k rs rs' → Back K k x x' → Backs K k (rs ++ [x]) (rs' ++ [x'])
  | [], [], _, _, _, h => ⟨h, trivial⟩
  | _ :: _, _ :: _, _, _, h, h2 => ⟨h.1, Backs.snoc h.2 h2⟩
  | [], _ :: _, _, _, h, _ => h.elim
  | _ :: _, [], _, _, h, _ => h.elim
theorem Backs.from_ {K : Kind} {k : Nat} : ∀ {rs rs' : List RecD}, Backs K k rs rs' → ∀ r' ∈ rs', ∃ r, Back K k r r'
  | [], [], _, _, h => by cases h
  | r :: _, _ :: _, h, r', hr => by
    rcases List.mem_cons.1 hr with rfl | hr
    · exact ⟨r, h.1⟩
    · exact Backs.from_ h.2 r' hr
  | [], _ :: _, h, _, _ => h.elim
  | _ :: _, [], h, _, _ => h.elim
theorem Backs.map {K : Kind} {k : Nat} : ∀ {rs rs' : List RecD}, Backs K k rs rs' → rs'.map K.recWire = rs.map K.recWire
  | [], [], _ => rfl
  | _ :: _, _ :: _, h => by simp [Backs.map h.2, h.1.wire]
  | [], _ :: _, h => h.elim
  | _ :: _, [], h => h.elim

/-! ### the kind of a type -/
def kindN (t : Nat) : Nat := if t = 1 then 1 else if t = 2 then 2 else if t = 5 then 3 else if t = 6 then 4 else if t = 12 then 5 else if t = 15 then 6 else if t = 16 then 7 else if t = 28 then 8 else if t = 33 then 9 else if t = 41 then 10 else if t = 64 then 11 else if t = 65 then 12 else 13
theorem kindN_at (k : Nat) (h1 : 1 ≤ k) (h2 : k < 13) : kindN (typeN k 0) = k := by
  rcases (by omega : k = 1 ∨ k = 2 ∨ k = 3 ∨ k = 4 ∨ k = 5 ∨ k = 6 ∨ k = 7 ∨ k = 8 ∨ k = 9 ∨ k = 10 ∨ k = 11 ∨ k = 12) with h | h | h | h | h | h | h | h | h | h | h | h <;> subst h <;> rfl
theorem kindN_none (t : Nat) (h : ∀ j, 1 ≤ j → j < 13 → typeN j 0 ≠ t) : kindN t = 13 := by
  have g : ∀ j s, 1 ≤ j → j < 13 → typeN j 0 = s → ¬ t = s := fun j s a b c e => h j a b (by rw [c, e])
  unfold kindN
  rw [if_neg (g 1 1 (by decide) (by decide) rfl), if_neg (g 2 2 (by decide) (by decide) rfl), if_neg (g 3 5 (by decide) (by decide) rfl), if_neg (g 4 6 (by decide) (by decide) rfl), if_neg (g 5 12 (by decide) (by decide) rfl), if_neg (g 6 15 (by decide) (by decide) rfl), if_neg (g 7 16 (by decide) (by decide) rfl), if_neg (g 8 28 (by decide) (by decide) rfl), if_neg (g 9 33 (by decide) (by decide) rfl), if_neg (g 10 41 (by decide) (by decide) rfl), if_neg (g 11 64 (by decide) (by decide) rfl), if_neg (g 12 65 (by decide) (by decide) rfl)]

/-! ### the bits of a header -/
theorem flag_and (b : Bool) (x m : Nat) : flagN b x &&& m = flagN b (x &&& m) := by cases b <;> simp [flagN]
theorem flag_ne (b : Bool) (x : Nat) (h : x ≠ 0) : ((flagN b x : Nat) != 0) = b := by cases b <;> simp [flagN, h]
theorem bits_and (h : Hd) (m : Nat) : h.bits &&& m = (flagN h.qr (32768 &&& m) ||| (h.op * 2048 % 65536 &&& m) ||| flagN h.aa (1024 &&& m) ||| flagN h.tc (512 &&& m) ||| flagN h.rd (256 &&& m)) ||| (flagN h.ra (128 &&& m) ||| flagN h.ad (32 &&& m) ||| flagN h.cd (16 &&& m) ||| (h.code &&& m)) := by
  simp only [Hd.bits, Nat.and_or_distrib_right, flag_and]
theorem bits_lt (h : Hd) (hw : h.wf) : h.bits < 65536 := by
  unfold Hd.bits
  exact or_lt _ _ (or_lt _ _ (or_lt _ _ (or_lt _ _ (or_lt _ _ (flagN_lt _ _ (by decide)) (Nat.mod_lt _ (by decide))) (flagN_lt _ _ (by decide))) (flagN_lt _ _ (by decide))) (flagN_lt _ _ (by decide))) (or_lt _ _ (or_lt _ _ (or_lt _ _ (flagN_lt _ _ (by decide)) (flagN_lt _ _ (by decide))) (flagN_lt _ _ (by decide))) hw.2.2)
theorem flag0 (b : Bool) : flagN b 0 = 0 := by cases b <;> rfl
theorem bits_flag (h : Hd) (hok : h.ok = true) : (h.bits &&& 32768 = flagN h.qr 32768) ∧ (h.bits &&& 1024 = flagN h.aa 1024) ∧ (h.bits &&& 512 = flagN h.tc 512) ∧ (h.bits &&& 256 = flagN h.rd 256) ∧ (h.bits &&& 128 = flagN h.ra 128) ∧ (h.bits &&& 32 = flagN h.ad 32) ∧ (h.bits &&& 16 = flagN h.cd 16) ∧ (h.bits &&& 64 = 0) ∧ (h.bits &&& 15 = h.code) ∧ (h.bits / 2048 &&& 15 = h.op) := by
  simp only [Hd.ok, Bool.and_eq_true, decide_eq_true_eq] at hok
  obtain ⟨ho, hcd⟩ := hok
  have o1 : ∀ m ∈ [32768, 1024, 512, 256, 128, 32, 16, 64, 15], ∀ op : Nat, op < 16 → op * 2048 % 65536 &&& m = 0 := by decide
  have c1 : ∀ m ∈ [32768, 1024, 512, 256, 128, 32, 16, 64], ∀ op : Nat, op < 16 → op &&& m = 0 := by decide
  have c2 : ∀ op : Nat, op < 16 → op &&& 15 = op := by decide
  have hdiv : ∀ x y : Nat, (x ||| y) / 2048 = x / 2048 ||| y / 2048 := fun x y => by
    have := Nat.shiftRight_or_distrib (a := x) (b := y) (i := 11)
    simpa [Nat.shiftRight_eq_div_pow] using this
  have o2 : ∀ op : Nat, op < 16 → op * 2048 % 65536 / 2048 = op := by decide
  have c3 : h.code / 2048 = 0 := by omega
  have f : ∀ (b : Bool) (x : Nat), flagN b x / 2048 = flagN b (x / 2048) := fun b x => by cases b <;> simp [flagN]
  refine ⟨?_, ?_, ?_, ?_, ?_, ?_, ?_, ?_, ?_, ?_⟩
  · rw [bits_and, o1 32768 (by decide) _ ho, c1 32768 (by decide) _ hcd]; simp [flag0]
  · rw [bits_and, o1 1024 (by decide) _ ho, c1 1024 (by decide) _ hcd]; simp [flag0]
  · rw [bits_and, o1 512 (by decide) _ ho, c1 512 (by decide) _ hcd]; simp [flag0]
  · rw [bits_and, o1 256 (by decide) _ ho, c1 256 (by decide) _ hcd]; simp [flag0]
  · rw [bits_and, o1 128 (by decide) _ ho, c1 128 (by decide) _ hcd]; simp [flag0]
  · rw [bits_and, o1 32 (by decide) _ ho, c1 32 (by decide) _ hcd]; simp [flag0]
  · rw [bits_and, o1 16 (by decide) _ ho, c1 16 (by decide) _ hcd]; simp [flag0]
  · rw [bits_and, o1 64 (by decide) _ ho, c1 64 (by decide) _ hcd]; simp [flag0]
  · rw [bits_and, o1 15 (by decide) _ ho, c2 _ hcd]; simp [flag0]
  · simp only [Hd.bits, hdiv, f, o2 _ ho, c3]
    simp only [Nat.and_or_distrib_right, flag_and, c2 _ ho]
    cases h.qr <;> simp [flagN]
theorem u16_and (x y : Nat) (hx : x < 65536) (hy : y < 65536) : IntKind.u16.wrap ((BitVec.ofInt IntKind.u16.bits (x : Int) &&& BitVec.ofInt IntKind.u16.bits (y : Int)).toNat : Int) = ((x &&& y : Nat) : Int) := by
  have hb : IntKind.u16.bits = 16 := rfl
  have e1 : BitVec.ofInt 16 (x : Int) = BitVec.ofNat 16 x := BitVec.ofInt_natCast _ _
  have e2 : BitVec.ofInt 16 (y : Int) = BitVec.ofNat 16 y := BitVec.ofInt_natCast _ _
  rw [hb, e1, e2, BitVec.toNat_and, BitVec.toNat_ofNat, BitVec.toNat_ofNat, Nat.mod_eq_of_lt (show x < 2 ^ 16 from hx), Nat.mod_eq_of_lt (show y < 2 ^ 16 from hy)]
  exact u16_of _ (Nat.lt_of_le_of_lt Nat.and_le_left hx)
/-- a bit that is read -/
theorem bit_read (x m : Nat) (M : Int) (hM : M = (m : Nat)) (hx : x < 65536) (hm : m < 65536) (hm0 : m ≠ 0) (b : Bool) (h : x &&& m = flagN b m) : (IntKind.u16.wrap ((BitVec.ofInt IntKind.u16.bits (x : Int) &&& BitVec.ofInt IntKind.u16.bits M).toNat : Int) != 0) = b := by
  subst hM
  rw [u16_and x m hx hm, h]
  cases b
  · rfl
  · simp [flagN, hm0]
theorem four_read (x m r : Nat) (M : Int) (hM : M = (m : Nat)) (hx : x < 65536) (hm : m < 65536) (h : x &&& m = r) : IntKind.u16.wrap ((BitVec.ofInt IntKind.u16.bits (x : Int) &&& BitVec.ofInt IntKind.u16.bits M).toNat : Int) = (r : Nat) := by
  subst hM
  rw [u16_and x m hx hm, h]
theorem shr11 (x : Nat) : ((x : Int).fdiv (2 ^ min (11 : Int).toNat IntKind.u16.bits)) = ((x / 2048 : Nat) : Int) := by
  simp [IntKind.bits]
  rw [Int.fdiv_eq_ediv_of_nonneg _ (by omega)]
end Go.Proofs.YtamobccbioafmaaDoor

/-
  Contracts of the reference's reader: kinds, records.
-/
namespace Go.Proofs.YtamobccbioafmaaDoor
open Go
set_option maxRecDepth 100000

theorem build_kind {o : Oper} {n : Nat} {L : List (Nat × Value)} {I : World → Prop} {parts : Array (Nat × Operand)} (k : Int) (ho : o.op = .build 86 parts) (hv : evp L parts.toList = some [(5, .int .i64 k)]) : Yld Tryd.prog o n L I (.agg (RecD.cells { zRec with kind := k }).toArray) :=
  Yld.build places_86 zero_86 ho hv (by kernel_rfl)
theorem kindOf_spec (t : Nat) : Spec Tryd.prog 43 [.int .u16 (t : Nat)] [] (fun _ => True) (fun x H' => x = .int .i64 (kindN t : Nat) ∧ H' = []) := by
  refine Spec.of Tryd.func43 rfl Tryd.ntmps43 rfl fun w0 _ => ?_
  refine CodeJ.seq ?_
  refine CodeJ.region ?_
  refine OpsJ.yld rfl rfl rfl (Yld.assign rfl rfl) ?_
  refine OpsJ.nil ?_
  refine ExJ.thenN ?_
  refine CodeJ.seq ?_
  refine CodeJ.seq ?_
  refine CodeJ.region ?_
  refine OpsJ.yld rfl rfl rfl (Yld.assign rfl rfl) ?_
  refine OpsJ.nil ?_
  refine ExJ.thenN ?_
  refine CodeJ.block ?_
  refine CodeJ.loopP (fun L H m => ∃ k : Nat, 1 ≤ k ∧ k ≤ 13 ∧ (∀ j, 1 ≤ j → j < k → typeN j 0 ≠ t) ∧ L = [(0, .int .u16 (t : Nat)), (3, .int .i64 k)] ∧ H = [] ∧ m = 13 - k) ⟨1, by decide, by decide, fun j h1 h2 => by omega, rfl, rfl, rfl⟩ ⟨rfl, rfl, trivial⟩ (fun w hI => hI) ?_
  rintro _ _ _ ⟨k, hk1, hk2, hno, rfl, rfl, rfl⟩
  refine CodeJ.seq ?_
  refine CodeJ.seq ?_
  refine CodeJ.region ?_
  refine OpsJ.yld rfl rfl rfl (Yld.move rfl rfl) ?_
  refine OpsJ.yld rfl rfl rfl (Yld.intBin rfl rfl rfl rfl) ?_
  refine OpsJ.nil ?_
  refine ExJ.thenN ?_
  refine CodeJ.condP rfl (fun c5 => ?_) (fun c5 => ?_)
  · refine CodeJ.skip ?_
    refine ExJ.thenN ?_
    refine CodeJ.seq ?_
    refine CodeJ.block ?_
    refine CodeJ.seq ?_
    refine CodeJ.region ?_
    refine OpsJ.yld rfl rfl rfl (Yld.move rfl rfl) ?_
    refine OpsJ.yld rfl rfl rfl (build_kind (k : Nat) rfl rfl) ?_
    refine OpsJ.op rfl ?_
    refine OpJ.call (typeOf_spec { zRec with kind := (k : Nat) } k (by omega) rfl) has_71 rfl rfl rfl rfl rfl [] [] (by decide) rfl rfl (fun _ _ => trivial) ?_
    rintro _ _ ⟨rfl, rfl⟩
    refine OpsJ.yld rfl rfl rfl (Yld.move rfl rfl) ?_
    refine OpsJ.yld rfl rfl rfl (Yld.intBin rfl rfl rfl rfl) ?_
    refine OpsJ.nil ?_
    refine ExJ.thenN ?_
    refine CodeJ.cond rfl (fun c12 => ?_) (fun c12 => ?_)
    · have ht : typeN k 0 = t := by
        have h1 : ((typeN k zRec.typ : Nat) : Int) = (t : Nat) := by simpa using c12
        have h2 : typeN k zRec.typ = t := by omega
        exact h2
      have hkt : kindN t = k := by rw [← ht]; exact kindN_at k hk1 (by omega)
      refine CodeJ.seq ?_
      refine CodeJ.region ?_
      refine OpsJ.yld rfl rfl rfl (Yld.move rfl rfl) ?_
      refine OpsJ.yld rfl rfl rfl (Yld.assign rfl rfl) ?_
      refine OpsJ.nil ?_
      refine ExJ.thenN ?_
      refine CodeJ.ret ?_
      refine ExJ.blockR ?_
      refine ExJ.thenR ?_
      refine ExJ.thenR ?_
      refine ExJ.blockR ?_
      refine ExJ.thenR ?_
      exact ExJ.ret1 Tryd.results43 rfl ⟨by rw [hkt], rfl⟩ fun w hI => hI
    · have hne : typeN k 0 ≠ t := fun h => by
        have := c12
        change (((typeN k 0 : Nat) : Int) == (t : Nat)) = false at this
        rw [h] at this
        simp at this
      refine CodeJ.skip ?_
      refine ExJ.blockN ?_
      refine ExJ.thenN ?_
      refine CodeJ.region ?_
      refine OpsJ.yld rfl rfl rfl (Yld.move rfl rfl) ?_
      refine OpsJ.yld rfl rfl rfl (Yld.intBin rfl rfl rfl rfl) ?_
      rw [i64_succ k (by omega)]
      refine OpsJ.yld rfl rfl rfl (Yld.assign rfl rfl) ?_
      refine OpsJ.nil ?_
      exact ExJ.againP ⟨k + 1, by omega, by omega, fun j h1 h2 => by rcases (by omega : j < k ∨ j = k) with h | h; exact hno j h1 h; subst h; exact hne, rfl, rfl, rfl⟩ (by omega) ⟨rfl, rfl, trivial⟩ fun w hI => hI
  · obtain rfl : k = 13 := by omega
    have hkt : kindN t = 13 := kindN_none t fun j h1 h2 => hno j h1 h2
    refine CodeJ.exit ?_
    refine ExJ.thenX ?_
    refine ExJ.thenX ?_
    refine ExJ.blockHit ?_
    refine ExJ.thenN ?_
    refine CodeJ.seq ?_
    refine CodeJ.region ?_
    refine OpsJ.yld rfl rfl rfl (Yld.assign rfl rfl) ?_
    refine OpsJ.nil ?_
    refine ExJ.thenN ?_
    refine CodeJ.ret ?_
    exact ExJ.ret1 Tryd.results43 rfl ⟨by rw [hkt]; rfl, rfl⟩ fun w hI => hI

/-- a record when its body begins to be read -/
def startRec (k : Nat) (x : RecD) (typ len : Nat) : RecD := { zRec with name := x.name, typ := typ, cls := x.cls, ttl := x.ttl, len := len, kind := (k : Nat) }
/-- how the bodies of a kind are read -/
def BodyReads (K : Kind) (k : Nat) (BA : BodyAt) : Prop := ∀ (x : RecD) (hd t : List UInt8) (rb xb db off c at_ e : Nat) (w : Bool), hd.length = 12 → BA t at_ e x → K.recOk x = true → RecFit x → x.wf → (hd ++ t).length ≤ c → (hd ++ t).length ≤ 1000000000000000000 → 12 ≤ at_ → at_ ≤ e → e ≤ 12 + t.length → e - at_ < 65536 →
  Spec Tryd.prog 88 [.pointer (some ⟨rb, 0, none⟩), .pointer (some ⟨xb, 0, none⟩), .int .i64 (e : Nat)] [rdB rb (.slice (some ⟨db, off, none⟩) (hd ++ t).length c) at_ w, .blk xb (startRec k x (K.typ x) (e - at_)).cells.toArray 86]
    (fun w1 => Cells w1 db off (bytesV (hd ++ t)) ∧ db ≠ rb ∧ db ≠ xb)
    (fun _ H' => ∃ w' x' q bs hq, H' = [rdB rb (.slice (some ⟨db, off, none⟩) (hd ++ t).length c) e w', .blk xb x'.cells.toArray 86, .ro q bs hq] ∧ (∀ w, q w → RecOk w x') ∧ Back K k x x')

theorem build_start {o : Oper} {n : Nat} {L : List (Nat × Value)} {I : World → Prop} {parts : Array (Nat × Operand)} (x : RecD) (typ len : Nat) (ho : o.op = .build 86 parts) (hv : evp L parts.toList = some [(0, .string x.name), (1, .int .u16 (typ : Nat)), (2, .int .u16 (x.cls : Nat)), (3, .int .u32 (x.ttl : Nat)), (4, .int .u16 (len : Nat))]) : Yld Tryd.prog o n L I (.agg (startRec 0 x typ len).cells.toArray) :=
  Yld.build places_86 zero_86 ho hv (by kernel_rfl)
theorem str_eta (s : ByteArray) : (⟨s.data.toList.toArray⟩ : ByteArray) = s := by cases s; simp
theorem nameTxt_txt (ls : List (List UInt8)) : (txt ls).length ≤ (nameTxt ls).length := by
  unfold nameTxt
  split
  · next h => subst h; simp [txt]
  · exact Nat.le_refl _

theorem record_spec (K : Kind) (k : Nat) (BA : BodyAt) (hbody : BodyReads K k BA) (x : RecD) (hok : K.recOk x = true) (hfit : RecFit x) (hwf : x.wf) (htyp : K.typ x < 65536) (hkind : kindN (K.typ x) = k) (hd t : List UInt8) (hh : hd.length = 12) (rb db off c at_ e : Nat) (w : Bool) (hrec : RecAt K BA t at_ e x) (hc : (hd ++ t).length ≤ c) (hbig : (hd ++ t).length ≤ 1000000000000000) :
    Spec Tryd.prog 77 [.pointer (some ⟨rb, 0, none⟩)] [rdB rb (.slice (some ⟨db, off, none⟩) (hd ++ t).length c) at_ w] (fun w1 => Cells w1 db off (bytesV (hd ++ t)) ∧ db ≠ rb)
      (fun y H' => ∃ w' x' q bs hq, y = .agg x'.cells.toArray ∧ H' = [rdB rb (.slice (some ⟨db, off, none⟩) (hd ++ t).length c) e w', .ro q bs hq] ∧ (∀ w, q w → RecOk w x') ∧ Back K k x x') := by
  refine Spec.of Tryd.func77 rfl Tryd.ntmps77 rfl fun w0 hR => ?_
  obtain ⟨hcs, hne⟩ := hR
  have hout : db ∉ fp [rdB rb (.slice (some ⟨db, off, none⟩) (hd ++ t).length c) at_ w] := by simpa [fp, rdB, Res.ats] using hne
  have hdb : db < w0.heap.size := hcs.lt
  obtain ⟨k0, ls, W, n, hrd, hname, hn10, hel, hlen, hhead, hba⟩ := hrec
  have hnlt := hrd.at_lt
  have hml : (hd ++ t).length = 12 + t.length := by rw [List.length_append, hh]
  have hnm : strV (nameTxt ls) = .string x.name := by rw [← hname]; exact congrArg Value.string (str_eta x.name)
  have hnk : nameOk x.name.data.toList = true := by
    have := hok
    simp only [Kind.recOk, Bool.and_eq_true] at this
    exact this.1
  have hts : (txt ls).length ≤ 1000000 := by
    have h1 := nameTxt_txt ls
    rw [← hname] at h1
    have := (nameOk_pname hnk).le
    omega
  have hparts : ((hd ++ t).drop n).take 10 = rh10 (K.typ x) x.cls x.ttl (e - (n + 10)) := by rw [msg_drop hh (by omega)]; exact hhead
  have q1 : ((hd ++ t).drop n).take 2 = be16 (K.typ x) := by
    have := congrArg (List.take 2) hparts
    rw [List.take_take] at this
    exact this
  have q2 : ((hd ++ t).drop (n + 2)).take 2 = be16 x.cls := by
    have := congrArg (fun l => (List.drop 2 l).take 2) hparts
    simp only [List.drop_take, List.drop_drop, List.take_take] at this
    exact this
  have q3 : ((hd ++ t).drop (n + 4)).take 4 = b4 x.ttl := by
    have := congrArg (fun l => (List.drop 4 l).take 4) hparts
    simp only [List.drop_take, List.drop_drop, List.take_take] at this
    exact this
  have q4 : ((hd ++ t).drop (n + 8)).take 2 = be16 (e - (n + 10)) := by
    have := congrArg (fun l => (List.drop 8 l).take 2) hparts
    simp only [List.drop_take, List.drop_drop, List.take_take] at this
    exact this
  refine CodeJ.seq ?_
  refine CodeJ.region ?_
  refine OpsJ.op rfl ?_
  refine OpJ.alloc rfl rfl rfl zero_86 fun res hres => ?_
  refine OpsJ.nil ?_
  refine ExJ.thenN ?_
  refine CodeJ.seq ?_
  refine CodeJ.region ?_
  refine OpsJ.yld rfl rfl rfl (Yld.move rfl rfl) ?_
  refine OpsJ.op rfl ?_
  refine OpJ.call (rdName rb db off c k0 at_ n hd t hh ls w W hrd hc (by omega) hts) has_45 rfl rfl rfl rfl rfl [1] [0] (by decide) rfl rfl (fun w hI => ⟨hI.old hcs hout, hne⟩) ?_
  rintro _ _ ⟨rfl, rfl⟩
  rw [hnm]
  refine OpsJ.yld rfl rfl rfl (Yld.move rfl rfl) ?_
  refine OpsJ.op rfl ?_
  refine OpJ.call (rdTwo rb db off c n (K.typ x) (hd ++ t) (w && W) htyp q1 (by omega) hc (by omega)) has_44 rfl rfl rfl rfl rfl [0] [1] (by decide) rfl rfl (fun w hI => ⟨hI.old hcs hout, hne⟩) ?_
  rintro _ _ ⟨rfl, rfl⟩
  refine OpsJ.yld rfl rfl rfl (Yld.move rfl rfl) ?_
  refine OpsJ.op rfl ?_
  refine OpJ.call (rdTwo rb db off c (n + 2) x.cls (hd ++ t) (w && W) hwf.cls q2 (by omega) hc (by omega)) has_44 rfl rfl rfl rfl rfl [0] [1] (by decide) rfl rfl (fun w hI => ⟨hI.old hcs hout, hne⟩) ?_
  rintro _ _ ⟨rfl, rfl⟩
  refine OpsJ.yld rfl rfl rfl (Yld.move rfl rfl) ?_
  refine OpsJ.op rfl ?_
  refine OpJ.call (rdFour rb db off c (n + 4) x.ttl (hd ++ t) (w && W) hwf.ttl q3 (by omega) hc (by omega)) has_87 rfl rfl rfl rfl rfl [0] [1] (by decide) rfl rfl (fun w hI => ⟨hI.old hcs hout, hne⟩) ?_
  rintro _ _ ⟨rfl, rfl⟩
  refine OpsJ.yld rfl rfl rfl (Yld.move rfl rfl) ?_
  refine OpsJ.op rfl ?_
  refine OpJ.call (rdTwo rb db off c (n + 8) (e - (n + 10)) (hd ++ t) (w && W) hlen q4 (by omega) hc (by omega)) has_44 rfl rfl rfl rfl rfl [0] [1] (by decide) rfl rfl (fun w hI => ⟨hI.old hcs hout, hne⟩) ?_
  rintro _ _ ⟨rfl, rfl⟩
  refine OpsJ.yld rfl rfl rfl (build_start x (K.typ x) (e - (n + 10)) rfl rfl) ?_
  refine OpsJ.op rfl ?_
  refine OpJ.alloc rfl rfl rfl zero_86 fun xb hxb => ?_
  refine OpsJ.op rfl ?_
  refine OpJ.storeW (i := 0) rfl rfl rfl rfl sz_86 rfl rfl rfl ?_
  refine OpsJ.nil ?_
  refine ExJ.thenN ?_
  refine CodeJ.seq ?_
  refine CodeJ.region ?_
  refine OpsJ.yld rfl rfl rfl (Yld.fieldAddr fa_86_1 rfl rfl) ?_
  refine OpsJ.yld rfl rfl rfl (Yld.load1 rfl Tryd.underlying22 rfl rfl (fun w hI => Inv.cell1 hI (i := 0) rfl rfl)) ?_
  refine OpsJ.op rfl ?_
  refine OpJ.call (kindOf_spec (K.typ x)) has_43 rfl rfl rfl rfl rfl [] [0, 1, 2] (by decide) rfl rfl (fun _ _ => trivial) ?_
  rintro _ _ ⟨rfl, rfl⟩
  rw [hkind]
  refine OpsJ.yld rfl rfl rfl (Yld.fieldAddr fa_86_5 rfl rfl) ?_
  refine OpsJ.op rfl ?_
  refine OpJ.store1 (i := 0) rfl rfl rfl rfl rfl sz_3 rfl rfl ?_
  refine OpsJ.nil ?_
  refine ExJ.thenN ?_
  refine CodeJ.seq ?_
  refine CodeJ.any (fuel := 9) (listed := #[false, false, false, false, false, false, false, false, false]) [0, 1, 2] rfl follows_mixed rfl rfl ?_
  refine AnyJ.take (fuel := 8) (listed' := #[true, false, false, false, false, false, false, false, false]) 0 rfl (by kernel_rfl) (by kernel_rfl) (by kernel_rfl) rfl rfl rfl rfl (Yld.move rfl rfl) (fun w hI => hI.pick (is := [0, 1, 2]) (by decide) rfl) ?_
  refine AnyJ.take (fuel := 7) (listed' := #[true, true, false, false, false, false, false, false, false]) 1 rfl (by kernel_rfl) (by kernel_rfl) (by kernel_rfl) rfl rfl rfl rfl (Yld.nilCheck rfl rfl) (fun w hI => hI.pick (is := [0, 1, 2]) (by decide) rfl) ?_
  refine AnyJ.take (fuel := 6) (listed' := #[true, true, true, false, false, false, false, false, false]) 2 rfl (by kernel_rfl) (by kernel_rfl) (by kernel_rfl) rfl rfl rfl rfl (Yld.fieldAddr fa_101_1 rfl rfl) (fun w hI => hI.pick (is := [0, 1, 2]) (by decide) rfl) ?_
  refine AnyJ.take (fuel := 5) (listed' := #[true, true, true, true, false, false, false, false, false]) 3 rfl (by kernel_rfl) (by kernel_rfl) (by kernel_rfl) rfl rfl rfl rfl (Yld.load1 rfl Tryd.underlying3 rfl rfl (fun w hI => Inv.cell1 hI (i := 1) rfl rfl)) (fun w hI => hI.pick (is := [0, 1, 2]) (by decide) rfl) ?_
  refine AnyJ.take (fuel := 4) (listed' := #[true, true, true, true, true, false, false, false, false]) 4 rfl (by kernel_rfl) (by kernel_rfl) (by kernel_rfl) rfl rfl rfl rfl (Yld.fieldAddr fa_86_4 rfl rfl) (fun w hI => hI.pick (is := [0, 1, 2]) (by decide) rfl) ?_
  refine AnyJ.take (fuel := 3) (listed' := #[true, true, true, true, true, true, false, false, false]) 5 rfl (by kernel_rfl) (by kernel_rfl) (by kernel_rfl) rfl rfl rfl rfl (Yld.load1 (v := .int .u16 ((e - (n + 10) : Nat) : Int)) rfl Tryd.underlying22 rfl rfl (fun w hI => Inv.cell1 hI (i := 0) rfl rfl)) (fun w hI => hI.pick (is := [0, 1, 2]) (by decide) rfl) ?_
  refine AnyJ.take (fuel := 2) (listed' := #[true, true, true, true, true, true, true, false, false]) 6 rfl (by kernel_rfl) (by kernel_rfl) (by kernel_rfl) rfl rfl rfl rfl (Yld.convInt rfl Tryd.underlying22 Tryd.underlying3 rfl) (fun w hI => hI.pick (is := [0, 1, 2]) (by decide) rfl) ?_
  rw [i64_wrap (e - (n + 10)) (by omega)]
  refine AnyJ.take (fuel := 1) (listed' := #[true, true, true, true, true, true, true, true, false]) 7 rfl (by kernel_rfl) (by kernel_rfl) (by kernel_rfl) rfl rfl rfl rfl (Yld.intBin rfl rfl rfl rfl) (fun w hI => hI.pick (is := [0, 1, 2]) (by decide) rfl) ?_
  rw [i64_add _ _ (by omega), show n + 8 + 2 + (e - (n + 10)) = e by omega]
  refine AnyJ.take (fuel := 0) (listed' := #[true, true, true, true, true, true, true, true, true]) 8 rfl (by kernel_rfl) (by kernel_rfl) (by kernel_rfl) rfl rfl rfl rfl (Yld.assign rfl rfl) (fun w hI => hI.pick (is := [0, 1, 2]) (by decide) rfl) ?_
  refine AnyJ.done (by kernel_rfl) ?_
  refine ExJ.thenN ?_
  refine CodeJ.seq ?_
  refine CodeJ.seq ?_
  refine CodeJ.region ?_
  refine OpsJ.yld rfl rfl rfl (Yld.move rfl rfl) ?_
  refine OpsJ.yld rfl rfl rfl (Yld.move rfl rfl) ?_
  refine OpsJ.yld rfl rfl rfl (Yld.nilCheck rfl rfl) ?_
  refine OpsJ.yld rfl rfl rfl (Yld.fieldAddr fa_101_0 rfl rfl) ?_
  refine OpsJ.yld rfl rfl rfl (Yld.load1 rfl Tryd.underlying31 rfl rfl (fun w hI => Inv.cell1 hI (i := 1) rfl rfl)) ?_
  refine OpsJ.yld rfl rfl rfl (Yld.lenSlice rfl rfl rfl Tryd.underlying31 rfl) ?_
  refine OpsJ.yld rfl rfl rfl (Yld.intBin rfl rfl rfl rfl) ?_
  refine OpsJ.nil ?_
  refine ExJ.thenN ?_
  refine CodeJ.condP rfl (fun c34 => ?_) (fun c34 => ?_)
  · exact absurd c34 (by omega)
  · refine CodeJ.skip ?_
    refine ExJ.thenN ?_
    refine CodeJ.seq ?_
    refine CodeJ.region ?_
    refine OpsJ.yld rfl rfl rfl (Yld.move rfl rfl) ?_
    refine OpsJ.yld rfl rfl rfl (Yld.move rfl rfl) ?_
    refine OpsJ.op rfl ?_
    refine OpJ.call (hbody x hd t rb xb db off c (n + 8 + 2) e (w && W) hh (by rw [show n + 8 + 2 = n + 10 by omega]; exact hba) hok hfit hwf hc (by omega) (by omega) (by omega) hel (by omega)) has_88 rfl rfl rfl rfl rfl [1, 0] [2] (by decide) rfl rfl (fun w hI => ⟨hI.old hcs hout, hne, fun h => by omega⟩) ?_
    rintro _ _ ⟨w', x', q, bs, hq, rfl, hqr, hback⟩
    refine OpsJ.nil ?_
    refine ExJ.thenN ?_
    refine CodeJ.seq ?_
    refine CodeJ.region ?_
    refine OpsJ.yld rfl rfl rfl (Yld.loadN (vs := x'.cells) rfl Tryd.underlying86 rfl sz_86 rfl (fun w hI => Inv.whole hI (i := 1) rfl)) ?_
    refine OpsJ.op rfl ?_
    refine OpJ.storeW (i := 3) rfl rfl rfl rfl sz_86 rfl hback.ones rfl ?_
    refine OpsJ.nil ?_
    refine ExJ.thenN ?_
    refine CodeJ.ret ?_
    exact ExJ.retC (vs := x'.cells) Tryd.results77 rfl Tryd.underlying86 rfl sz_86 (fun w hI => Inv.whole hI (i := 3) rfl) ⟨w', x', q, bs, hq, rfl, rfl, hqr, hback⟩ fun w hI => hI.pick (is := [0, 2]) (by decide) rfl

theorem records_spec (K : Kind) (k : Nat) (BA : BodyAt) (hbody : BodyReads K k BA) (rs : List RecD) (hok : ∀ x ∈ rs, K.recOk x = true ∧ RecFit x ∧ x.wf ∧ K.typ x < 65536 ∧ kindN (K.typ x) = k) (hn : rs.length < 65536) (hd t : List UInt8) (hh : hd.length = 12) (rb db off c at_ e : Nat) (w : Bool) (hrec : RecsAt K BA t at_ e rs) (_hal : at_ ≤ 12 + t.length) (hc : (hd ++ t).length ≤ c) (hbig : (hd ++ t).length ≤ 1000000000000000) :
    Spec Tryd.prog 46 [.pointer (some ⟨rb, 0, none⟩), .int .i64 (rs.length : Nat)] [rdB rb (.slice (some ⟨db, off, none⟩) (hd ++ t).length c) at_ w] (fun w1 => Cells w1 db off (bytesV (hd ++ t)) ∧ db ≠ rb)
      (fun y H' => ∃ w' p c' ss q bs hq, y = .slice p rs.length c' ∧ H' = [rdB rb (.slice (some ⟨db, off, none⟩) (hd ++ t).length c) e w', .ro q bs hq] ∧ (∀ w, q w → Recs w (.slice p rs.length c') ss) ∧ Backs K k rs ss) := by
  refine Spec.of Tryd.func46 rfl Tryd.ntmps46 rfl fun w0 hR => ?_
  obtain ⟨hcs, hne⟩ := hR
  have hout : db ∉ fp [rdB rb (.slice (some ⟨db, off, none⟩) (hd ++ t).length c) at_ w] := by simpa [fp, rdB, Res.ats] using hne
  refine CodeJ.turnH (fun w hI => hI.roNil (p := fun _ => True) (fun _ => trivial)) ?_
  refine CodeJ.seq ?_
  refine CodeJ.region ?_
  refine OpsJ.yld rfl rfl rfl (Yld.assign rfl rfl) ?_
  refine OpsJ.nil ?_
  refine ExJ.thenN ?_
  refine CodeJ.seq ?_
  refine CodeJ.region ?_
  refine OpsJ.op rfl ?_
  refine OpJ.buildSlice (xs := []) elt_38 rfl rfl rfl rfl rfl rfl (by rfl) (by decide) fun acc hacc => ?_
  refine OpsJ.yld rfl rfl rfl (Yld.assign rfl rfl) ?_
  refine OpsJ.nil ?_
  refine ExJ.thenN ?_
  refine CodeJ.seq ?_
  refine CodeJ.seq ?_
  refine CodeJ.region ?_
  refine OpsJ.yld rfl rfl rfl (Yld.assign rfl rfl) ?_
  refine OpsJ.nil ?_
  refine ExJ.thenN ?_
  refine CodeJ.block ?_
  refine CodeJ.loopP (fun L H m => ∃ (j pos : Nat) (w' : Bool) (p : Option Addr) (c' : Nat) (ss : List RecD) (q : World → Prop) (bs : List Nat) (hq : ∀ w w' : World, (∀ b ∈ bs, w'.heap[b]? = w.heap[b]?) → q w → q w'), j ≤ rs.length ∧ RecsAt K BA t pos e (rs.drop j) ∧ Backs K k (rs.take j) ss ∧ (∀ w, q w → ∀ r ∈ ss, RecOk w r) ∧
  L = [(0, .pointer (some ⟨rb, 0, none⟩)), (1, .int .i64 (rs.length : Nat)), (5, .slice p ss.length c'), (6, .int .i64 j)] ∧ H = [ownL 86 16 RecD.cells (.slice p ss.length c') ss, .ro q bs hq, rdB rb (.slice (some ⟨db, off, none⟩) (hd ++ t).length c) pos w'] ∧ m = rs.length - j) ⟨0, at_, w, some ⟨acc, 0, none⟩, 0, [], fun _ => True, [], fun _ _ _ _ => trivial, Nat.zero_le _, hrec, trivial, fun _ _ r hr => (by cases hr), rfl, rfl, rfl⟩ ⟨rfl, rfl, rfl, rfl, trivial⟩ (fun w hI => hI) ?_
  rintro _ _ _ ⟨j, pos, w', p, c', ss, q, bs, hq, hj, hra, hbk, hqs, rfl, rfl, rfl⟩
  refine CodeJ.seq ?_
  refine CodeJ.seq ?_
  refine CodeJ.region ?_
  refine OpsJ.yld rfl rfl rfl (Yld.move rfl rfl) ?_
  refine OpsJ.yld rfl rfl rfl (Yld.move rfl rfl) ?_
  refine OpsJ.yld rfl rfl rfl (Yld.intBin rfl rfl rfl rfl) ?_
  refine OpsJ.yld rfl rfl rfl (Yld.move rfl rfl) ?_
  refine OpsJ.splitP (s := 11) rfl (fun g11 => ?_) (fun g11 => ?_)
  · have hj' : j < rs.length := by omega
    obtain ⟨x, hx⟩ : ∃ x, rs[j]? = some x := ⟨rs[j], List.getElem?_eq_getElem hj'⟩
    have hdr : rs.drop j = x :: rs.drop (j + 1) := by
      rw [List.drop_eq_getElem_cons hj']
      congr 1
      exact (List.getElem?_eq_some_iff.1 hx).2
    rw [hdr] at hra
    obtain ⟨n, hra1, hra2⟩ := hra
    obtain ⟨o1, o2, o3, o4, o5⟩ := hok x (List.mem_of_getElem? hx)
    have hsl : ss.length = j := by rw [hbk.len, List.length_take]; omega
    refine OpsJ.opT rfl rfl rfl ?_
    refine OpJ.yld rfl rfl (Yld.move rfl rfl) ?_
    refine OpsJ.opT rfl rfl rfl ?_
    refine OpJ.yld rfl rfl (Yld.nilCheck rfl rfl) ?_
    refine OpsJ.opT rfl rfl rfl ?_
    refine OpJ.yld rfl rfl (Yld.fieldAddr fa_101_2 rfl rfl) ?_
    refine OpsJ.opT rfl rfl rfl ?_
    refine OpJ.yld rfl rfl (Yld.load1 rfl Tryd.underlying4 rfl rfl (fun w hI => Inv.cell1 hI (i := 2) rfl rfl)) ?_
    refine OpsJ.opT rfl rfl rfl ?_
    refine OpJ.yld rfl rfl (Yld.not rfl rfl) ?_
    refine OpsJ.yld rfl rfl rfl (Yld.pickT rfl rfl rfl) ?_
    refine OpsJ.nil ?_
    refine ExJ.thenN ?_
    refine CodeJ.cond rfl (fun c17 => ?_) (fun c17 => ?_)
    · refine CodeJ.skip ?_
      refine ExJ.thenN ?_
      refine CodeJ.seq ?_
      refine CodeJ.block ?_
      refine CodeJ.region ?_
      refine OpsJ.yld rfl rfl rfl (Yld.move rfl rfl) ?_
      refine OpsJ.yld rfl rfl rfl (Yld.move rfl rfl) ?_
      refine OpsJ.op rfl ?_
      refine OpJ.call (record_spec K k BA hbody x o1 o2 o3 o4 o5 hd t hh rb db off c pos n w' hra1 hc hbig) has_77 rfl rfl rfl rfl rfl [2] [0, 1] (by decide) rfl rfl (fun w hI => ⟨hI.old hcs hout, hne⟩) ?_
      rintro _ _ ⟨w2, x', q2, bs2, hq2', rfl, rfl, hqr, hback⟩
      have hq2 : ∀ w, (Res.ro q2 bs2 hq2').holds w ∧ (Res.ro q bs hq).holds w → ∀ r ∈ ss ++ [x'], RecOk w r := by
        intro w hw r hr
        rcases List.mem_append.1 hr with h | h
        · exact hqs w hw.2.1 r h
        · simp at h
          subst h
          exact hqr w hw.1.1
      refine OpsJ.op rfl ?_
      refine OpJ.buildSlice (xs := [.tmp 22]) elt_38 rfl rfl rfl rfl rfl rfl (by rfl) (by decide) fun one hone => ?_
      refine OpsJ.op rfl ?_
      refine OpJ.appendL (cells := RecD.cells) (i := 3) (news := x') elt_38 rfl rfl rfl rfl rfl rfl (fun w hI => Inv.src hI (i := 0) rfl Tryd.underlying38 (fun u hu => List.all_eq_true.1 hback.ones u hu)) (by omega) fun p24 c24 => ?_
      refine OpsJ.yld rfl rfl rfl (Yld.assign rfl rfl) ?_
      refine OpsJ.nil ?_
      refine ExJ.blockN ?_
      refine ExJ.thenN ?_
      refine CodeJ.region ?_
      refine OpsJ.yld rfl rfl rfl (Yld.move rfl rfl) ?_
      refine OpsJ.yld rfl rfl rfl (Yld.intBin rfl rfl rfl rfl) ?_
      rw [i64_succ j (by omega)]
      refine OpsJ.yld rfl rfl rfl (Yld.assign rfl rfl) ?_
      refine OpsJ.nil ?_
      exact ExJ.againP ⟨j + 1, n, w2, p24, c24, ss ++ [x'], _, _, _, by omega, hra2, by rw [take_snoc _ _ _ hx]; exact hbk.snoc hback, hq2, rfl, rfl, rfl⟩ (by omega) ⟨rfl, rfl, rfl, rfl, trivial⟩ fun w hI => by have hJ := (hI.pick (is := [2, 4, 3, 1]) (by decide) rfl).join; exact hJ.pick (is := [1, 0, 2]) (by decide) rfl
    · exact absurd c17 (by decide)
  · obtain rfl : j = rs.length := by omega
    rw [List.drop_length] at hra
    have hpe : pos = e := hra
    subst hpe
    rw [List.take_length] at hbk
    have hsl := hbk.len
    refine OpsJ.opF rfl rfl rfl rfl rfl rfl ?_
    refine OpsJ.opF rfl rfl rfl rfl rfl rfl ?_
    refine OpsJ.opF rfl rfl rfl rfl rfl rfl ?_
    refine OpsJ.opF rfl rfl rfl rfl rfl rfl ?_
    refine OpsJ.opF rfl rfl rfl rfl rfl rfl ?_
    refine OpsJ.yld rfl rfl rfl (Yld.pickF rfl rfl rfl) ?_
    refine OpsJ.nil ?_
    refine ExJ.thenN ?_
    refine CodeJ.condF rfl ?_
    refine CodeJ.exit ?_
    refine ExJ.thenX ?_
    refine ExJ.thenX ?_
    refine ExJ.blockHit ?_
    refine ExJ.thenN ?_
    refine CodeJ.seq ?_
    refine CodeJ.region ?_
    refine OpsJ.yld rfl rfl rfl (Yld.move rfl rfl) ?_
    refine OpsJ.yld rfl rfl rfl (Yld.assign rfl rfl) ?_
    refine OpsJ.nil ?_
    refine ExJ.thenN ?_
    refine CodeJ.ret ?_
    refine ExJ.ret1 Tryd.results46 rfl ⟨w', p, c', ss, _, _, _, by rw [hsl], rfl, ?_, hbk⟩ fun w hI => by have hJ := (hI.pick (is := [0, 1, 2]) (by decide) rfl).join; exact hJ.pick (is := [1, 0]) (by decide) rfl
    intro w hw
    refine ⟨?_, hqs w hw.2.1⟩
    have := Own.row hw.1.1
    rw [hsl] at this ⊢
    exact this
end Go.Proofs.YtamobccbioafmaaDoor

/-
  Contract of the reference's reader: Read.
-/
namespace Go.Proofs.YtamobccbioafmaaDoor
open Go
set_option maxRecDepth 100000
set_option maxHeartbeats 1600000

theorem ExJ.retC2 {P : Program} {n : Nat} {w0 : World} {S : List Nat} {L : List (Nat × Value)} {H : List Res} {fn : Func} {s T b off u : Nat} {vs : List Value} {v : Value} {d : TypeDesc} {H'} {w1 : World} {S1 : List Nat} {Post : Value → List Res → Prop} (hr : fn.results = #[.cell s T, .tmp u]) (hs : L.lookup s = some (.pointer (some ⟨b, off, none⟩))) (hv : L.lookup u = some v) (hu : P.underlying T = some d) (hd : (match d with | .struct _ | .array _ _ => true | _ => false) = true) (hz : (P.info? T).map (·.size) = some vs.length)
    (hc : ∀ w, Inv w0 S H w → Cells w b off vs) (hP : Post (.tuple #[.agg vs.toArray, v]) H') (hH : ∀ w, Inv w0 S H w → Inv w1 S1 H' w) :
    ExJ (bodyPost P fn (Ret w1 S1 Post)) .ret n w0 S L H :=
  ExJ.retOf (v := .tuple #[.agg vs.toArray, v]) (fun a w hE hI => by
    have h := run_loadCells_list (P := P) w ⟨b, off, none⟩ vs fun j v hj => by rw [addr_add]; exact (hc w hI).cell j v hj
    have h1 := hE.at_ s _ hs
    have h2 := hE.at_ u _ hv
    cases hq : P.info? T with
    | none => simp [hq] at hz
    | some t =>
      have ht : t.size = vs.length := by simpa [hq] using hz
      cases d <;> simp_all [results, loadVar, isAgg, run_underlying hu, sizeOf, typeInfo, asAddr]) hP hH
theorem CodeJ.addNilL {α : Type} {cells : α → List Value} {P : Program} {Q : Exit → Act → World → Prop} {n : Nat} {w0 : World} {S : List Nat} {L : List (Nat × Value)} {H : List Res} {code : Code} {T : TypeId} {sz : Nat} (h : CodeJ P Q n w0 S code L (ownL T sz cells (.slice none 0 0) ([] : List α) :: H)) : CodeJ P Q n w0 S code L H := fun a w hE hI => by
  refine h a w hE ⟨hI.keep, fun r hr => ?_, List.pairwise_cons.2 ⟨fun s _ b hb => ?_, hI.dj⟩, fun r hr b hb => ?_⟩
  · rcases List.mem_cons.1 hr with rfl | hr
    · exact ⟨.inl ⟨rfl, rfl, rfl⟩, .inl ⟨rfl, rfl, rfl⟩, Nat.le_refl _⟩
    · exact hI.hs r hr
  · simp [ownL, own, Res.ats, blkOf] at hb
  · rcases List.mem_cons.1 hr with rfl | hr
    · simp [ownL, own, Res.ats, blkOf] at hb
    · exact hI.rng r hr b hb

/-- one cell, with the block behind it told -/
theorem OpJ.store1' {P : Program} {Q : Exit → Act → World → Prop} {n : Nat} {w0 : World} {S : List Nat} {L : List (Nat × Value)} {H : List Res} {o : Oper} {M : List (Nat × Value) → List Res → Prop} {T T' : TypeId} {x y : Operand} {b off i : Nat} {v : Value} {cs cs' : Array Value} (ho : o.op = .store T x y) (hd : o.dst = none) (hx : ev L x = some (.pointer (some ⟨b, off, none⟩))) (hy : ev L y = some v)
    (h1 : v.oneCell' = true) (hz : (P.info? T).map (·.size) = some 1) (hi : H[i]? = some (.blk b cs T')) (hl : (off + 1).ble cs.size = true) (hcs : setCs cs off [v] = cs')
    (h : M L (H.set i (.blk b cs' T'))) : OpJ P Q n w0 S o L H M := OpJ.store1 ho hd hx hy h1 hz hi hl (hcs ▸ h)
def zHd : Hd := ⟨0, false, 0, false, false, false, false, false, false, 0⟩
def zMsg : MsgD := ⟨zHd, .slice none 0 0, [], .slice none 0 0, [], .slice none 0 0, [], .slice none 0 0, []⟩
/-- a message that is being read: its questions -/
def askMsg (h : Hd) (v : Value) (ss : List AskD) : MsgD := ⟨h, v, ss, .slice none 0 0, [], .slice none 0 0, [], .slice none 0 0, []⟩
theorem build_ask {o : Oper} {n : Nat} {L : List (Nat × Value)} {I : World → Prop} {parts : Array (Nat × Operand)} (a : AskD) (ho : o.op = .build 82 parts) (hv : evp L parts.toList = some [(0, .string a.name), (1, .int .u16 (a.typ : Nat)), (2, .int .u16 (a.cls : Nat))]) : Yld Tryd.prog o n L I (.agg a.cells.toArray) :=
  Yld.build places_82 zero_82 ho hv (by kernel_rfl)

/-- what was read -/
structure BackM (K : Kind) (k : Nat) (h : Hd) (qs : List AskD) (one two three : List RecD) (m' : MsgD) : Prop where
  head : m'.head = h
  asks : m'.asks = qs
  one : Backs K k one m'.one
  two : Backs K k two m'.two
  three : Backs K k three m'.three
  ones : oneCells m'.cells = true

theorem read_spec (K : Kind) (k : Nat) (BA : BodyAt) (hbody : BodyReads K k BA) (h : Hd) (hw : h.wf) (hok : h.ok = true) (qs : List AskD) (hqs : ∀ a ∈ qs, a.typ < 65536 ∧ a.cls < 65536 ∧ nameOk a.name.data.toList = true) (one two three : List RecD) (hrs : ∀ x ∈ one ++ two ++ three, K.recOk x = true ∧ RecFit x ∧ x.wf ∧ K.typ x < 65536 ∧ kindN (K.typ x) = k)
    (hl : qs.length < 60000 ∧ one.length < 60000 ∧ two.length < 60000 ∧ three.length < 60000) (t : List UInt8) (e1 e2 e3 : Nat) (ha : AsksAt t 12 e1 qs) (h1 : RecsAt K BA t e1 e2 one) (h2 : RecsAt K BA t e2 e3 two) (h3 : RecsAt K BA t e3 (12 + t.length) three) (db off c : Nat) (hd : List UInt8) (hhd : hd = headWire h [qs.length, one.length, two.length, three.length]) (hc : (hd ++ t).length ≤ c) (hbig : (hd ++ t).length ≤ 1000000000000000) :
    Spec Tryd.prog 25 [.slice (some ⟨db, off, none⟩) (hd ++ t).length c] [] (fun w1 => Cells w1 db off (bytesV (hd ++ t)))
      (fun y H' => ∃ m' q bs hq, y = .tuple #[m'.val, .bool true] ∧ H' = [.ro q bs hq] ∧ (∀ w, q w → MsgOk w m') ∧ BackM K k h qs one two three m') := by
  refine Spec.of Tryd.func25 rfl Tryd.ntmps25 rfl fun w0 hcs => ?_
  have hdb : db < w0.heap.size := hcs.lt
  have hh : hd.length = 12 := by rw [hhd]; rfl
  have hml : (hd ++ t).length = 12 + t.length := by rw [List.length_append, hh]
  have hbl := bits_lt h hw
  obtain ⟨f1, f2, f3, f4, f5, f6, f7, f8, f9, f10⟩ := bits_flag h hok
  have p0 : ((hd ++ t).drop 0).take 2 = be16 h.id := by rw [hhd]; rfl
  have p2 : ((hd ++ t).drop (0 + 2)).take 2 = be16 h.bits := by rw [hhd]; rfl
  have p4 : ((hd ++ t).drop (0 + 2 + 2)).take 2 = be16 qs.length := by rw [hhd]; exact (show _ = be16 (qs.length % 65536) from rfl).trans (by rw [Nat.mod_eq_of_lt (show qs.length < 65536 by omega)])
  have p6 : ((hd ++ t).drop (0 + 2 + 2 + 2)).take 2 = be16 one.length := by rw [hhd]; exact (show _ = be16 (one.length % 65536) from rfl).trans (by rw [Nat.mod_eq_of_lt (show one.length < 65536 by omega)])
  have p8 : ((hd ++ t).drop (0 + 2 + 2 + 2 + 2)).take 2 = be16 two.length := by rw [hhd]; exact (show _ = be16 (two.length % 65536) from rfl).trans (by rw [Nat.mod_eq_of_lt (show two.length < 65536 by omega)])
  have p10 : ((hd ++ t).drop (0 + 2 + 2 + 2 + 2 + 2)).take 2 = be16 three.length := by rw [hhd]; exact (show _ = be16 (three.length % 65536) from rfl).trans (by rw [Nat.mod_eq_of_lt (show three.length < 65536 by omega)])
  have ha' := ha.le (by omega)
  have h1' := h1.le ha'.1
  have h2' := h2.le h1'.1
  refine CodeJ.addNilL (T := 82) (sz := 3) (cells := AskD.cells) ?_
  refine CodeJ.seq ?_
  refine CodeJ.region ?_
  refine OpsJ.op rfl ?_
  refine OpJ.alloc rfl rfl rfl zero_40 fun res hres => ?_
  refine OpsJ.yld rfl rfl rfl (Yld.assign rfl rfl) ?_
  refine OpsJ.nil ?_
  refine ExJ.thenN ?_
  refine CodeJ.seq ?_
  refine CodeJ.region ?_
  refine OpsJ.yld rfl rfl rfl (Yld.move rfl rfl) ?_
  refine OpsJ.yld rfl rfl rfl (Yld.build places_101 zero_101 rfl rfl rfl) ?_
  refine OpsJ.op rfl ?_
  refine OpJ.box rfl rfl rfl rfl fun rd hrd => ?_
  refine OpsJ.yld rfl rfl rfl (Yld.assign rfl rfl) ?_
  refine OpsJ.nil ?_
  refine ExJ.thenN ?_
  refine CodeJ.seq ?_
  refine CodeJ.region ?_
  refine OpsJ.yld rfl rfl rfl (Yld.build places_40 zero_40 rfl rfl rfl) ?_
  refine OpsJ.op rfl ?_
  refine OpJ.alloc rfl rfl rfl zero_40 fun mb hmb => ?_
  refine OpsJ.op rfl ?_
  refine OpJ.storeW (i := 0) rfl rfl rfl rfl sz_40 rfl rfl rfl ?_
  refine OpsJ.nil ?_
  refine ExJ.thenN ?_
  refine CodeJ.seq ?_
  refine CodeJ.region ?_
  refine OpsJ.yld rfl rfl rfl (Yld.move rfl rfl) ?_
  refine OpsJ.op rfl ?_
  refine OpJ.call (rdTwo rd db off c 0 h.id (hd ++ t) true hw.1 p0 (by omega) hc (by omega)) has_44 rfl rfl rfl rfl rfl [1] [0, 2, 3] (by decide) rfl rfl (fun w hI => ⟨hI.old hcs (by simp [fp]), by omega⟩) ?_
  rintro _ _ ⟨rfl, rfl⟩
  refine OpsJ.yld rfl rfl rfl (Yld.fieldAddr fa_40_0 rfl rfl) ?_
  refine OpsJ.yld rfl rfl rfl (Yld.fieldAddr fa_36_0 rfl rfl) ?_
  refine OpsJ.op rfl ?_
  refine OpJ.store1' (i := 1) (cs' := (askMsg ⟨h.id, false, 0, false, false, false, false, false, false, 0⟩ (.slice none 0 0) []).cells.toArray) rfl rfl rfl rfl rfl sz_22 rfl rfl rfl ?_
  refine OpsJ.nil ?_
  refine ExJ.thenN ?_
  refine CodeJ.seq ?_
  refine CodeJ.region ?_
  refine OpsJ.yld rfl rfl rfl (Yld.move rfl rfl) ?_
  refine OpsJ.op rfl ?_
  refine OpJ.call (rdTwo rd db off c (0 + 2) h.bits (hd ++ t) true hbl p2 (by omega) hc (by omega)) has_44 rfl rfl rfl rfl rfl [0] [1, 2, 3] (by decide) rfl rfl (fun w hI => ⟨hI.old hcs (by simp [fp]), by omega⟩) ?_
  rintro _ _ ⟨rfl, rfl⟩
  refine OpsJ.yld rfl rfl rfl (Yld.assign rfl rfl) ?_
  refine OpsJ.nil ?_
  refine ExJ.thenN ?_
  refine CodeJ.seq ?_
  refine CodeJ.region ?_
  refine OpsJ.yld rfl rfl rfl (Yld.fieldAddr fa_40_0 rfl rfl) ?_
  refine OpsJ.yld rfl rfl rfl (Yld.assign rfl rfl) ?_
  refine OpsJ.nil ?_
  refine ExJ.thenN ?_
  refine CodeJ.seq ?_
  refine CodeJ.region ?_
  refine OpsJ.yld rfl rfl rfl (Yld.move rfl rfl) ?_
  refine OpsJ.yld rfl rfl rfl (Yld.move rfl rfl) ?_
  refine OpsJ.yld rfl rfl rfl (Yld.move rfl rfl) ?_
  refine OpsJ.yld rfl rfl rfl (Yld.move rfl rfl) ?_
  refine OpsJ.yld rfl rfl rfl (Yld.move rfl rfl) ?_
  refine OpsJ.yld rfl rfl rfl (Yld.move rfl rfl) ?_
  refine OpsJ.yld rfl rfl rfl (Yld.intBin rfl rfl rfl rfl) ?_
  refine OpsJ.yld rfl rfl rfl (Yld.intBin rfl rfl rfl rfl) ?_
  rw [bit_read h.bits 32768 32768 rfl hbl (by decide) (by decide) h.qr f1]
  refine OpsJ.yld rfl rfl rfl (Yld.move rfl rfl) ?_
  refine OpsJ.yld rfl rfl rfl (Yld.shr rfl rfl rfl (by decide)) ?_
  refine OpsJ.yld rfl rfl rfl (Yld.intBin rfl rfl rfl rfl) ?_
  rw [shr11, four_read (h.bits / 2048) 15 h.op 15 rfl (by omega) (by decide) f10]
  refine OpsJ.yld rfl rfl rfl (Yld.move rfl rfl) ?_
  refine OpsJ.yld rfl rfl rfl (Yld.intBin rfl rfl rfl rfl) ?_
  refine OpsJ.yld rfl rfl rfl (Yld.intBin rfl rfl rfl rfl) ?_
  rw [bit_read h.bits 1024 1024 rfl hbl (by decide) (by decide) h.aa f2]
  refine OpsJ.yld rfl rfl rfl (Yld.move rfl rfl) ?_
  refine OpsJ.yld rfl rfl rfl (Yld.intBin rfl rfl rfl rfl) ?_
  refine OpsJ.yld rfl rfl rfl (Yld.intBin rfl rfl rfl rfl) ?_
  rw [bit_read h.bits 512 512 rfl hbl (by decide) (by decide) h.tc f3]
  refine OpsJ.yld rfl rfl rfl (Yld.move rfl rfl) ?_
  refine OpsJ.yld rfl rfl rfl (Yld.intBin rfl rfl rfl rfl) ?_
  refine OpsJ.yld rfl rfl rfl (Yld.intBin rfl rfl rfl rfl) ?_
  rw [bit_read h.bits 256 256 rfl hbl (by decide) (by decide) h.rd f4]
  refine OpsJ.yld rfl rfl rfl (Yld.nilCheck rfl rfl) ?_
  refine OpsJ.yld rfl rfl rfl (Yld.fieldAddr fa_36_1 rfl rfl) ?_
  refine OpsJ.op rfl ?_
  refine OpJ.store1' (i := 1) (cs' := (askMsg ⟨h.id, h.qr, 0, false, false, false, false, false, false, 0⟩ (.slice none 0 0) []).cells.toArray) rfl rfl rfl rfl rfl sz_4 rfl rfl rfl ?_
  refine OpsJ.yld rfl rfl rfl (Yld.nilCheck rfl rfl) ?_
  refine OpsJ.yld rfl rfl rfl (Yld.fieldAddr fa_36_2 rfl rfl) ?_
  refine OpsJ.op rfl ?_
  refine OpJ.store1' (i := 1) (cs' := (askMsg ⟨h.id, h.qr, h.op, false, false, false, false, false, false, 0⟩ (.slice none 0 0) []).cells.toArray) rfl rfl rfl rfl rfl sz_22 rfl rfl rfl ?_
  refine OpsJ.yld rfl rfl rfl (Yld.nilCheck rfl rfl) ?_
  refine OpsJ.yld rfl rfl rfl (Yld.fieldAddr fa_36_3 rfl rfl) ?_
  refine OpsJ.op rfl ?_
  refine OpJ.store1' (i := 1) (cs' := (askMsg ⟨h.id, h.qr, h.op, h.aa, false, false, false, false, false, 0⟩ (.slice none 0 0) []).cells.toArray) rfl rfl rfl rfl rfl sz_4 rfl rfl rfl ?_
  refine OpsJ.yld rfl rfl rfl (Yld.nilCheck rfl rfl) ?_
  refine OpsJ.yld rfl rfl rfl (Yld.fieldAddr fa_36_4 rfl rfl) ?_
  refine OpsJ.op rfl ?_
  refine OpJ.store1' (i := 1) (cs' := (askMsg ⟨h.id, h.qr, h.op, h.aa, h.tc, false, false, false, false, 0⟩ (.slice none 0 0) []).cells.toArray) rfl rfl rfl rfl rfl sz_4 rfl rfl rfl ?_
  refine OpsJ.yld rfl rfl rfl (Yld.nilCheck rfl rfl) ?_
  refine OpsJ.yld rfl rfl rfl (Yld.fieldAddr fa_36_5 rfl rfl) ?_
  refine OpsJ.op rfl ?_
  refine OpJ.store1' (i := 1) (cs' := (askMsg ⟨h.id, h.qr, h.op, h.aa, h.tc, h.rd, false, false, false, 0⟩ (.slice none 0 0) []).cells.toArray) rfl rfl rfl rfl rfl sz_4 rfl rfl rfl ?_
  refine OpsJ.nil ?_
  refine ExJ.thenN ?_
  refine CodeJ.seq ?_
  refine CodeJ.region ?_
  refine OpsJ.yld rfl rfl rfl (Yld.move rfl rfl) ?_
  refine OpsJ.yld rfl rfl rfl (Yld.move rfl rfl) ?_
  refine OpsJ.yld rfl rfl rfl (Yld.move rfl rfl) ?_
  refine OpsJ.yld rfl rfl rfl (Yld.move rfl rfl) ?_
  refine OpsJ.yld rfl rfl rfl (Yld.move rfl rfl) ?_
  refine OpsJ.yld rfl rfl rfl (Yld.intBin rfl rfl rfl rfl) ?_
  refine OpsJ.yld rfl rfl rfl (Yld.intBin rfl rfl rfl rfl) ?_
  rw [bit_read h.bits 128 128 rfl hbl (by decide) (by decide) h.ra f5]
  refine OpsJ.yld rfl rfl rfl (Yld.move rfl rfl) ?_
  refine OpsJ.yld rfl rfl rfl (Yld.intBin rfl rfl rfl rfl) ?_
  refine OpsJ.yld rfl rfl rfl (Yld.intBin rfl rfl rfl rfl) ?_
  rw [bit_read h.bits 32 32 rfl hbl (by decide) (by decide) h.ad f6]
  refine OpsJ.yld rfl rfl rfl (Yld.move rfl rfl) ?_
  refine OpsJ.yld rfl rfl rfl (Yld.intBin rfl rfl rfl rfl) ?_
  refine OpsJ.yld rfl rfl rfl (Yld.intBin rfl rfl rfl rfl) ?_
  rw [bit_read h.bits 16 16 rfl hbl (by decide) (by decide) h.cd f7]
  refine OpsJ.yld rfl rfl rfl (Yld.move rfl rfl) ?_
  refine OpsJ.yld rfl rfl rfl (Yld.intBin rfl rfl rfl rfl) ?_
  rw [four_read h.bits 15 h.code 15 rfl hbl (by decide) f9]
  refine OpsJ.yld rfl rfl rfl (Yld.nilCheck rfl rfl) ?_
  refine OpsJ.yld rfl rfl rfl (Yld.fieldAddr fa_36_6 rfl rfl) ?_
  refine OpsJ.op rfl ?_
  refine OpJ.store1' (i := 1) (cs' := (askMsg ⟨h.id, h.qr, h.op, h.aa, h.tc, h.rd, h.ra, false, false, 0⟩ (.slice none 0 0) []).cells.toArray) rfl rfl rfl rfl rfl sz_4 rfl rfl rfl ?_
  refine OpsJ.yld rfl rfl rfl (Yld.nilCheck rfl rfl) ?_
  refine OpsJ.yld rfl rfl rfl (Yld.fieldAddr fa_36_7 rfl rfl) ?_
  refine OpsJ.op rfl ?_
  refine OpJ.store1' (i := 1) (cs' := (askMsg ⟨h.id, h.qr, h.op, h.aa, h.tc, h.rd, h.ra, h.ad, false, 0⟩ (.slice none 0 0) []).cells.toArray) rfl rfl rfl rfl rfl sz_4 rfl rfl rfl ?_
  refine OpsJ.yld rfl rfl rfl (Yld.nilCheck rfl rfl) ?_
  refine OpsJ.yld rfl rfl rfl (Yld.fieldAddr fa_36_8 rfl rfl) ?_
  refine OpsJ.op rfl ?_
  refine OpJ.store1' (i := 1) (cs' := (askMsg ⟨h.id, h.qr, h.op, h.aa, h.tc, h.rd, h.ra, h.ad, h.cd, 0⟩ (.slice none 0 0) []).cells.toArray) rfl rfl rfl rfl rfl sz_4 rfl rfl rfl ?_
  refine OpsJ.yld rfl rfl rfl (Yld.nilCheck rfl rfl) ?_
  refine OpsJ.yld rfl rfl rfl (Yld.fieldAddr fa_36_9 rfl rfl) ?_
  refine OpsJ.op rfl ?_
  refine OpJ.store1' (i := 1) (cs' := (askMsg ⟨h.id, h.qr, h.op, h.aa, h.tc, h.rd, h.ra, h.ad, h.cd, h.code⟩ (.slice none 0 0) []).cells.toArray) rfl rfl rfl rfl rfl sz_22 rfl rfl rfl ?_
  refine OpsJ.nil ?_
  refine ExJ.thenN ?_
  refine CodeJ.seq ?_
  refine CodeJ.region ?_
  refine OpsJ.yld rfl rfl rfl (Yld.move rfl rfl) ?_
  refine OpsJ.op rfl ?_
  refine OpJ.call (rdTwo rd db off c (0 + 2 + 2) qs.length (hd ++ t) true (by omega) p4 (by omega) hc (by omega)) has_44 rfl rfl rfl rfl rfl [0] [1, 2, 3] (by decide) rfl rfl (fun w hI => ⟨hI.old hcs (by simp [fp]), by omega⟩) ?_
  rintro _ _ ⟨rfl, rfl⟩
  refine OpsJ.yld rfl rfl rfl (Yld.convInt rfl Tryd.underlying22 Tryd.underlying3 rfl) ?_
  rw [i64_wrap _ (by omega)]
  refine OpsJ.yld rfl rfl rfl (Yld.move rfl rfl) ?_
  refine OpsJ.op rfl ?_
  refine OpJ.call (rdTwo rd db off c (0 + 2 + 2 + 2) one.length (hd ++ t) true (by omega) p6 (by omega) hc (by omega)) has_44 rfl rfl rfl rfl rfl [0] [1, 2, 3] (by decide) rfl rfl (fun w hI => ⟨hI.old hcs (by simp [fp]), by omega⟩) ?_
  rintro _ _ ⟨rfl, rfl⟩
  refine OpsJ.yld rfl rfl rfl (Yld.convInt rfl Tryd.underlying22 Tryd.underlying3 rfl) ?_
  rw [i64_wrap _ (by omega)]
  refine OpsJ.yld rfl rfl rfl (Yld.move rfl rfl) ?_
  refine OpsJ.op rfl ?_
  refine OpJ.call (rdTwo rd db off c (0 + 2 + 2 + 2 + 2) two.length (hd ++ t) true (by omega) p8 (by omega) hc (by omega)) has_44 rfl rfl rfl rfl rfl [0] [1, 2, 3] (by decide) rfl rfl (fun w hI => ⟨hI.old hcs (by simp [fp]), by omega⟩) ?_
  rintro _ _ ⟨rfl, rfl⟩
  refine OpsJ.yld rfl rfl rfl (Yld.convInt rfl Tryd.underlying22 Tryd.underlying3 rfl) ?_
  rw [i64_wrap _ (by omega)]
  refine OpsJ.yld rfl rfl rfl (Yld.move rfl rfl) ?_
  refine OpsJ.op rfl ?_
  refine OpJ.call (rdTwo rd db off c (0 + 2 + 2 + 2 + 2 + 2) three.length (hd ++ t) true (by omega) p10 (by omega) hc (by omega)) has_44 rfl rfl rfl rfl rfl [0] [1, 2, 3] (by decide) rfl rfl (fun w hI => ⟨hI.old hcs (by simp [fp]), by omega⟩) ?_
  rintro _ _ ⟨rfl, rfl⟩
  refine OpsJ.yld rfl rfl rfl (Yld.convInt rfl Tryd.underlying22 Tryd.underlying3 rfl) ?_
  rw [i64_wrap _ (by omega)]
  refine OpsJ.op rfl ?_
  refine OpJ.buildSlice (xs := [.tmp 76, .tmp 79, .tmp 82, .tmp 85]) elt_45 rfl rfl rfl rfl rfl rfl (by rfl) (by decide) fun cnts hcnts => ?_
  refine OpsJ.yld rfl rfl rfl (Yld.assign rfl rfl) ?_
  refine OpsJ.nil ?_
  refine ExJ.thenN ?_
  refine CodeJ.seq ?_
  refine CodeJ.seq ?_
  refine CodeJ.region ?_
  refine OpsJ.yld rfl rfl rfl (Yld.assign rfl rfl) ?_
  refine OpsJ.nil ?_
  refine ExJ.thenN ?_
  refine CodeJ.block ?_
  refine CodeJ.loopP (fun L H m => ∃ (j pos : Nat) (w' : Bool) (p : Option Addr) (c' : Nat) (ss : List AskD), j ≤ qs.length ∧ ss = qs.take j ∧ AsksAt t pos e1 (qs.drop j) ∧ 12 ≤ pos ∧
  L = [(0, .slice (some ⟨db, off, none⟩) (hd ++ t).length c), (2, .pointer (some ⟨res, 0, none⟩)), (4, .pointer (some ⟨rd, 0, none⟩)), (5, .pointer (some ⟨mb, 0, none⟩)), (6, .int .u16 (h.bits : Nat)), (8, .slice (some ⟨cnts, 0, none⟩) 4 4), (9, .int .i64 j)] ∧
  H = [ownL 82 3 AskD.cells (.slice p ss.length c') ss, .blk mb (askMsg h (.slice p ss.length c') ss).cells.toArray 40, own 3 1 (.slice (some ⟨cnts, 0, none⟩) 4 4) 4 [.int .i64 (qs.length : Nat), .int .i64 (one.length : Nat), .int .i64 (two.length : Nat), .int .i64 (three.length : Nat)], rdB rd (.slice (some ⟨db, off, none⟩) (hd ++ t).length c) pos w', .blk res zMsg.cells.toArray 40] ∧ m = qs.length - j) ⟨0, 12, true, none, 0, [], Nat.zero_le _, rfl, ha, Nat.le_refl _, rfl, rfl, rfl⟩ ⟨rfl, rfl, rfl, rfl, rfl, rfl, rfl, trivial⟩ (fun w hI => hI.pick (is := [4, 2, 0, 1, 3]) (by decide) rfl) ?_
  rintro _ _ _ ⟨j, pos, w', p, c', ss, hj, hss, hra, hpos, rfl, rfl, rfl⟩
  refine CodeJ.seq ?_
  refine CodeJ.seq ?_
  refine CodeJ.region ?_
  refine OpsJ.yld rfl rfl rfl (Yld.move rfl rfl) ?_
  refine OpsJ.yld rfl rfl rfl (Yld.move rfl rfl) ?_
  refine OpsJ.yld rfl rfl rfl (Yld.indexAddr (i := 0) rfl Tryd.underlying45 sz_3 rfl rfl (by decide)) ?_
  refine OpsJ.yld rfl rfl rfl (Yld.load1 rfl Tryd.underlying3 rfl rfl (fun w hI => (Own.cells (hI.hs _ (List.mem_of_getElem? (i := 2) rfl)).1 _ _ _ _ rfl).2.2.one (k := 0) rfl)) ?_
  refine OpsJ.yld rfl rfl rfl (Yld.intBin rfl rfl rfl rfl) ?_
  refine OpsJ.yld rfl rfl rfl (Yld.move rfl rfl) ?_
  refine OpsJ.splitP (s := 92) rfl (fun g92 => ?_) (fun g92 => ?_)
  · have hj' : j < qs.length := by omega
    obtain ⟨x, hx⟩ : ∃ x, qs[j]? = some x := ⟨qs[j], List.getElem?_eq_getElem hj'⟩
    have hdr : qs.drop j = x :: qs.drop (j + 1) := by
      rw [List.drop_eq_getElem_cons hj']
      congr 1
      exact (List.getElem?_eq_some_iff.1 hx).2
    rw [hdr] at hra
    obtain ⟨n, hra1, hra2⟩ := hra
    obtain ⟨k0, ls, W, pn, hrd, hname, hn4, hel, hhead⟩ := hra1
    obtain ⟨o1, o2, o3⟩ := hqs x (List.mem_of_getElem? hx)
    have hsl : ss.length = j := by rw [hss, List.length_take]; omega
    have hnlt := hrd.at_lt
    have hnm : strV (nameTxt ls) = .string x.name := by rw [← hname]; exact congrArg Value.string (str_eta x.name)
    have hts : (txt ls).length ≤ 1000000 := by
      have h1 := nameTxt_txt ls
      rw [← hname] at h1
      have := (nameOk_pname o3).le
      omega
    have hparts : ((hd ++ t).drop pn).take 4 = be16 x.typ ++ be16 x.cls := by rw [msg_drop hh (by omega)]; exact hhead
    have r1 : ((hd ++ t).drop pn).take 2 = be16 x.typ := by
      have := congrArg (List.take 2) hparts
      rw [List.take_take] at this
      exact this
    have r2 : ((hd ++ t).drop (pn + 2)).take 2 = be16 x.cls := by
      have := congrArg (fun l => (List.drop 2 l).take 2) hparts
      simp only [List.drop_take, List.drop_drop, List.take_take] at this
      exact this
    refine OpsJ.opT rfl rfl rfl ?_
    refine OpJ.yld rfl rfl (Yld.move rfl rfl) ?_
    refine OpsJ.opT rfl rfl rfl ?_
    refine OpJ.yld rfl rfl (Yld.nilCheck rfl rfl) ?_
    refine OpsJ.opT rfl rfl rfl ?_
    refine OpJ.yld rfl rfl (Yld.fieldAddr fa_101_2 rfl rfl) ?_
    refine OpsJ.opT rfl rfl rfl ?_
    refine OpJ.yld rfl rfl (Yld.load1 rfl Tryd.underlying4 rfl rfl (fun w hI => Inv.cell1 hI (i := 3) rfl rfl)) ?_
    refine OpsJ.opT rfl rfl rfl ?_
    refine OpJ.yld rfl rfl (Yld.not rfl rfl) ?_
    refine OpsJ.yld rfl rfl rfl (Yld.pickT rfl rfl rfl) ?_
    refine OpsJ.nil ?_
    refine ExJ.thenN ?_
    refine CodeJ.cond rfl (fun c98 => ?_) (fun c98 => ?_)
    · refine CodeJ.skip ?_
      refine ExJ.thenN ?_
      refine CodeJ.seq ?_
      refine CodeJ.block ?_
      refine CodeJ.any (fuel := 13) (listed := #[false, false, false, false, false, false, false, false, false, false, false, false, false]) [2, 4] rfl follows_mixed rfl rfl ?_
      refine AnyJ.take (fuel := 12) (listed' := #[true, false, false, false, false, false, false, false, false, false, false, false, false]) 0 rfl (by kernel_rfl) (by kernel_rfl) (by kernel_rfl) rfl rfl rfl rfl (Yld.fieldAddr fa_40_1 rfl rfl) (fun w hI => hI.pick (is := [2, 4]) (by decide) rfl) ?_
      refine AnyJ.take (fuel := 11) (listed' := #[true, false, true, false, false, false, false, false, false, false, false, false, false]) 2 rfl (by kernel_rfl) (by kernel_rfl) (by kernel_rfl) rfl rfl rfl rfl (Yld.move rfl rfl) (fun w hI => hI.pick (is := [2, 4]) (by decide) rfl) ?_
      refine AnyJ.take (fuel := 10) (listed' := #[true, false, true, false, true, false, false, false, false, false, false, false, false]) 4 rfl (by kernel_rfl) (by kernel_rfl) (by kernel_rfl) rfl rfl rfl rfl (Yld.move rfl rfl) (fun w hI => hI.pick (is := [2, 4]) (by decide) rfl) ?_
      refine AnyJ.take (fuel := 9) (listed' := #[true, false, true, false, true, false, true, false, false, false, false, false, false]) 6 rfl (by kernel_rfl) (by kernel_rfl) (by kernel_rfl) rfl rfl rfl rfl (Yld.move rfl rfl) (fun w hI => hI.pick (is := [2, 4]) (by decide) rfl) ?_
      refine AnyJ.two (fuel := 8) 1 3 (by kernel_rfl) ?_ ?_
      · refine StepJ.op (listed' := #[true, true, true, false, true, false, true, false, false, false, false, false, false]) rfl rfl rfl ?_
        refine OpJ.yld rfl rfl (Yld.load1 rfl Tryd.underlying37 rfl rfl (fun w hI => Inv.cell1 hI (i := 1) rfl rfl)) ?_
        refine ⟨fun w hI => hI.pick (is := [2, 4]) (by decide) rfl, ?_⟩
        refine AnyJ.one (fuel := 7) 3 (by kernel_rfl) ?_
        refine StepJ.op (listed' := #[true, true, true, true, true, false, true, false, false, false, false, false, false]) rfl rfl rfl ?_
        refine OpJ.call (rdName rd db off c k0 pos pn hd t hh ls w' W hrd hc (by omega) hts) has_45 rfl rfl rfl rfl rfl [3] [0, 1, 2, 4] (by decide) rfl rfl (fun w hI => ⟨hI.old hcs (by simp [fp]), by omega⟩) ?_
        rintro _ _ ⟨rfl, rfl⟩
        refine ⟨fun w hI => hI.pick (is := [3, 4]) (by decide) rfl, ?_⟩
        rw [hnm]
        refine AnyJ.one (fuel := 6) 5 (by kernel_rfl) ?_
        refine StepJ.op (listed' := #[true, true, true, true, true, true, true, false, false, false, false, false, false]) rfl rfl rfl ?_
        refine OpJ.call (rdTwo rd db off c pn x.typ (hd ++ t) (w' && W) o1 r1 (by omega) hc (by omega)) has_44 rfl rfl rfl rfl rfl [0] [1, 2, 3, 4] (by decide) rfl rfl (fun w hI => ⟨hI.old hcs (by simp [fp]), by omega⟩) ?_
        rintro _ _ ⟨rfl, rfl⟩
        refine ⟨fun w hI => hI.pick (is := [3, 4]) (by decide) rfl, ?_⟩
        refine AnyJ.one (fuel := 5) 7 (by kernel_rfl) ?_
        refine StepJ.op (listed' := #[true, true, true, true, true, true, true, true, false, false, false, false, false]) rfl rfl rfl ?_
        refine OpJ.call (rdTwo rd db off c (pn + 2) x.cls (hd ++ t) (w' && W) o2 r2 (by omega) hc (by omega)) has_44 rfl rfl rfl rfl rfl [0] [1, 2, 3, 4] (by decide) rfl rfl (fun w hI => ⟨hI.old hcs (by simp [fp]), by omega⟩) ?_
        rintro _ _ ⟨rfl, rfl⟩
        refine ⟨fun w hI => hI.pick (is := [3, 4]) (by decide) rfl, ?_⟩
        refine AnyJ.take (fuel := 4) (listed' := #[true, true, true, true, true, true, true, true, true, false, false, false, false]) 8 rfl (by kernel_rfl) (by kernel_rfl) (by kernel_rfl) rfl rfl rfl rfl (build_ask x rfl rfl) (fun w hI => hI.pick (is := [3, 4]) (by decide) rfl) ?_
        refine AnyJ.one (fuel := 3) 9 (by kernel_rfl) ?_
        refine StepJ.op (listed' := #[true, true, true, true, true, true, true, true, true, true, false, false, false]) rfl rfl rfl ?_
        refine OpJ.buildSlice (xs := [.tmp 109]) elt_37 rfl rfl rfl rfl rfl rfl (by rfl) (by decide) fun aone haone => ?_
        refine ⟨fun w hI => hI.pick (is := [4, 5]) (by decide) rfl, ?_⟩
        refine AnyJ.one (fuel := 2) 10 (by kernel_rfl) ?_
        refine StepJ.op (listed' := #[true, true, true, true, true, true, true, true, true, true, true, false, false]) rfl rfl rfl ?_
        refine OpJ.appendL (cells := AskD.cells) (i := 2) (news := x) elt_37 rfl rfl rfl rfl rfl rfl (fun w hI => Inv.src hI (i := 0) rfl Tryd.underlying37 (AskD.ones x)) (by omega) fun p111 c111 => ?_
        refine ⟨fun w hI => hI.pick (is := [4, 5]) (by decide) rfl, ?_⟩
        refine AnyJ.take (fuel := 1) (listed' := #[true, true, true, true, true, true, true, true, true, true, true, true, false]) 11 rfl (by kernel_rfl) (by kernel_rfl) (by kernel_rfl) rfl rfl rfl rfl (Yld.fieldAddr fa_40_1 rfl rfl) (fun w hI => hI.pick (is := [4, 5]) (by decide) rfl) ?_
        refine AnyJ.one (fuel := 0) 12 (by kernel_rfl) ?_
        refine StepJ.op (listed' := #[true, true, true, true, true, true, true, true, true, true, true, true, true]) rfl rfl rfl ?_
        refine OpJ.store1 (i := 3) rfl rfl rfl rfl rfl sz_37 rfl rfl ?_
        refine ⟨fun w hI => hI.pick (is := [4, 5]) (by decide) rfl, ?_⟩
        refine AnyJ.done (by kernel_rfl) ?_
        refine ExJ.blockN ?_
        refine ExJ.thenN ?_
        refine CodeJ.region ?_
        refine OpsJ.yld rfl rfl rfl (Yld.move rfl rfl) ?_
        refine OpsJ.yld rfl rfl rfl (Yld.intBin rfl rfl rfl rfl) ?_
        rw [i64_succ j (by omega)]
        refine OpsJ.yld rfl rfl rfl (Yld.assign rfl rfl) ?_
        refine OpsJ.nil ?_
        exact ExJ.againP ⟨j + 1, pn + 2 + 2, w' && W, p111, c111, ss ++ [x], by omega, by rw [hss, take_snoc _ _ _ hx], by rw [show pn + 2 + 2 = n by omega]; exact hra2, by omega, rfl, rfl, rfl⟩ (by omega) ⟨rfl, rfl, rfl, rfl, rfl, rfl, rfl, trivial⟩ fun w hI => hI.pick (is := [2, 3, 4, 1, 5]) (by decide) rfl
      · refine StepJ.op (listed' := #[true, false, true, true, true, false, true, false, false, false, false, false, false]) rfl rfl rfl ?_
        refine OpJ.call (rdName rd db off c k0 pos pn hd t hh ls w' W hrd hc (by omega) hts) has_45 rfl rfl rfl rfl rfl [3] [0, 1, 2, 4] (by decide) rfl rfl (fun w hI => ⟨hI.old hcs (by simp [fp]), by omega⟩) ?_
        rintro _ _ ⟨rfl, rfl⟩
        refine ⟨fun w hI => hI.pick (is := [3, 4]) (by decide) rfl, ?_⟩
        rw [hnm]
        refine AnyJ.two (fuel := 7) 1 5 (by kernel_rfl) ?_ ?_
        · refine StepJ.op (listed' := #[true, true, true, true, true, false, true, false, false, false, false, false, false]) rfl rfl rfl ?_
          refine OpJ.yld rfl rfl (Yld.load1 rfl Tryd.underlying37 rfl rfl (fun w hI => Inv.cell1 hI (i := 2) rfl rfl)) ?_
          refine ⟨fun w hI => hI.pick (is := [3, 4]) (by decide) rfl, ?_⟩
          refine AnyJ.one (fuel := 6) 5 (by kernel_rfl) ?_
          refine StepJ.op (listed' := #[true, true, true, true, true, true, true, false, false, false, false, false, false]) rfl rfl rfl ?_
          refine OpJ.call (rdTwo rd db off c pn x.typ (hd ++ t) (w' && W) o1 r1 (by omega) hc (by omega)) has_44 rfl rfl rfl rfl rfl [0] [1, 2, 3, 4] (by decide) rfl rfl (fun w hI => ⟨hI.old hcs (by simp [fp]), by omega⟩) ?_
          rintro _ _ ⟨rfl, rfl⟩
          refine ⟨fun w hI => hI.pick (is := [3, 4]) (by decide) rfl, ?_⟩
          refine AnyJ.one (fuel := 5) 7 (by kernel_rfl) ?_
          refine StepJ.op (listed' := #[true, true, true, true, true, true, true, true, false, false, false, false, false]) rfl rfl rfl ?_
          refine OpJ.call (rdTwo rd db off c (pn + 2) x.cls (hd ++ t) (w' && W) o2 r2 (by omega) hc (by omega)) has_44 rfl rfl rfl rfl rfl [0] [1, 2, 3, 4] (by decide) rfl rfl (fun w hI => ⟨hI.old hcs (by simp [fp]), by omega⟩) ?_
          rintro _ _ ⟨rfl, rfl⟩
          refine ⟨fun w hI => hI.pick (is := [3, 4]) (by decide) rfl, ?_⟩
          refine AnyJ.take (fuel := 4) (listed' := #[true, true, true, true, true, true, true, true, true, false, false, false, false]) 8 rfl (by kernel_rfl) (by kernel_rfl) (by kernel_rfl) rfl rfl rfl rfl (build_ask x rfl rfl) (fun w hI => hI.pick (is := [3, 4]) (by decide) rfl) ?_
          refine AnyJ.one (fuel := 3) 9 (by kernel_rfl) ?_
          refine StepJ.op (listed' := #[true, true, true, true, true, true, true, true, true, true, false, false, false]) rfl rfl rfl ?_
          refine OpJ.buildSlice (xs := [.tmp 109]) elt_37 rfl rfl rfl rfl rfl rfl (by rfl) (by decide) fun aone haone => ?_
          refine ⟨fun w hI => hI.pick (is := [4, 5]) (by decide) rfl, ?_⟩
          refine AnyJ.one (fuel := 2) 10 (by kernel_rfl) ?_
          refine StepJ.op (listed' := #[true, true, true, true, true, true, true, true, true, true, true, false, false]) rfl rfl rfl ?_
          refine OpJ.appendL (cells := AskD.cells) (i := 2) (news := x) elt_37 rfl rfl rfl rfl rfl rfl (fun w hI => Inv.src hI (i := 0) rfl Tryd.underlying37 (AskD.ones x)) (by omega) fun p111 c111 => ?_
          refine ⟨fun w hI => hI.pick (is := [4, 5]) (by decide) rfl, ?_⟩
          refine AnyJ.take (fuel := 1) (listed' := #[true, true, true, true, true, true, true, true, true, true, true, true, false]) 11 rfl (by kernel_rfl) (by kernel_rfl) (by kernel_rfl) rfl rfl rfl rfl (Yld.fieldAddr fa_40_1 rfl rfl) (fun w hI => hI.pick (is := [4, 5]) (by decide) rfl) ?_
          refine AnyJ.one (fuel := 0) 12 (by kernel_rfl) ?_
          refine StepJ.op (listed' := #[true, true, true, true, true, true, true, true, true, true, true, true, true]) rfl rfl rfl ?_
          refine OpJ.store1 (i := 3) rfl rfl rfl rfl rfl sz_37 rfl rfl ?_
          refine ⟨fun w hI => hI.pick (is := [4, 5]) (by decide) rfl, ?_⟩
          refine AnyJ.done (by kernel_rfl) ?_
          refine ExJ.blockN ?_
          refine ExJ.thenN ?_
          refine CodeJ.region ?_
          refine OpsJ.yld rfl rfl rfl (Yld.move rfl rfl) ?_
          refine OpsJ.yld rfl rfl rfl (Yld.intBin rfl rfl rfl rfl) ?_
          rw [i64_succ j (by omega)]
          refine OpsJ.yld rfl rfl rfl (Yld.assign rfl rfl) ?_
          refine OpsJ.nil ?_
          exact ExJ.againP ⟨j + 1, pn + 2 + 2, w' && W, p111, c111, ss ++ [x], by omega, by rw [hss, take_snoc _ _ _ hx], by rw [show pn + 2 + 2 = n by omega]; exact hra2, by omega, rfl, rfl, rfl⟩ (by omega) ⟨rfl, rfl, rfl, rfl, rfl, rfl, rfl, trivial⟩ fun w hI => hI.pick (is := [2, 3, 4, 1, 5]) (by decide) rfl
        · refine StepJ.op (listed' := #[true, false, true, true, true, true, true, false, false, false, false, false, false]) rfl rfl rfl ?_
          refine OpJ.call (rdTwo rd db off c pn x.typ (hd ++ t) (w' && W) o1 r1 (by omega) hc (by omega)) has_44 rfl rfl rfl rfl rfl [0] [1, 2, 3, 4] (by decide) rfl rfl (fun w hI => ⟨hI.old hcs (by simp [fp]), by omega⟩) ?_
          rintro _ _ ⟨rfl, rfl⟩
          refine ⟨fun w hI => hI.pick (is := [3, 4]) (by decide) rfl, ?_⟩
          refine AnyJ.two (fuel := 6) 1 7 (by kernel_rfl) ?_ ?_
          · refine StepJ.op (listed' := #[true, true, true, true, true, true, true, false, false, false, false, false, false]) rfl rfl rfl ?_
            refine OpJ.yld rfl rfl (Yld.load1 rfl Tryd.underlying37 rfl rfl (fun w hI => Inv.cell1 hI (i := 2) rfl rfl)) ?_
            refine ⟨fun w hI => hI.pick (is := [3, 4]) (by decide) rfl, ?_⟩
            refine AnyJ.one (fuel := 5) 7 (by kernel_rfl) ?_
            refine StepJ.op (listed' := #[true, true, true, true, true, true, true, true, false, false, false, false, false]) rfl rfl rfl ?_
            refine OpJ.call (rdTwo rd db off c (pn + 2) x.cls (hd ++ t) (w' && W) o2 r2 (by omega) hc (by omega)) has_44 rfl rfl rfl rfl rfl [0] [1, 2, 3, 4] (by decide) rfl rfl (fun w hI => ⟨hI.old hcs (by simp [fp]), by omega⟩) ?_
            rintro _ _ ⟨rfl, rfl⟩
            refine ⟨fun w hI => hI.pick (is := [3, 4]) (by decide) rfl, ?_⟩
            refine AnyJ.take (fuel := 4) (listed' := #[true, true, true, true, true, true, true, true, true, false, false, false, false]) 8 rfl (by kernel_rfl) (by kernel_rfl) (by kernel_rfl) rfl rfl rfl rfl (build_ask x rfl rfl) (fun w hI => hI.pick (is := [3, 4]) (by decide) rfl) ?_
            refine AnyJ.one (fuel := 3) 9 (by kernel_rfl) ?_
            refine StepJ.op (listed' := #[true, true, true, true, true, true, true, true, true, true, false, false, false]) rfl rfl rfl ?_
            refine OpJ.buildSlice (xs := [.tmp 109]) elt_37 rfl rfl rfl rfl rfl rfl (by rfl) (by decide) fun aone haone => ?_
            refine ⟨fun w hI => hI.pick (is := [4, 5]) (by decide) rfl, ?_⟩
            refine AnyJ.one (fuel := 2) 10 (by kernel_rfl) ?_
            refine StepJ.op (listed' := #[true, true, true, true, true, true, true, true, true, true, true, false, false]) rfl rfl rfl ?_
            refine OpJ.appendL (cells := AskD.cells) (i := 2) (news := x) elt_37 rfl rfl rfl rfl rfl rfl (fun w hI => Inv.src hI (i := 0) rfl Tryd.underlying37 (AskD.ones x)) (by omega) fun p111 c111 => ?_
            refine ⟨fun w hI => hI.pick (is := [4, 5]) (by decide) rfl, ?_⟩
            refine AnyJ.take (fuel := 1) (listed' := #[true, true, true, true, true, true, true, true, true, true, true, true, false]) 11 rfl (by kernel_rfl) (by kernel_rfl) (by kernel_rfl) rfl rfl rfl rfl (Yld.fieldAddr fa_40_1 rfl rfl) (fun w hI => hI.pick (is := [4, 5]) (by decide) rfl) ?_
            refine AnyJ.one (fuel := 0) 12 (by kernel_rfl) ?_
            refine StepJ.op (listed' := #[true, true, true, true, true, true, true, true, true, true, true, true, true]) rfl rfl rfl ?_
            refine OpJ.store1 (i := 3) rfl rfl rfl rfl rfl sz_37 rfl rfl ?_
            refine ⟨fun w hI => hI.pick (is := [4, 5]) (by decide) rfl, ?_⟩
            refine AnyJ.done (by kernel_rfl) ?_
            refine ExJ.blockN ?_
            refine ExJ.thenN ?_
            refine CodeJ.region ?_
            refine OpsJ.yld rfl rfl rfl (Yld.move rfl rfl) ?_
            refine OpsJ.yld rfl rfl rfl (Yld.intBin rfl rfl rfl rfl) ?_
            rw [i64_succ j (by omega)]
            refine OpsJ.yld rfl rfl rfl (Yld.assign rfl rfl) ?_
            refine OpsJ.nil ?_
            exact ExJ.againP ⟨j + 1, pn + 2 + 2, w' && W, p111, c111, ss ++ [x], by omega, by rw [hss, take_snoc _ _ _ hx], by rw [show pn + 2 + 2 = n by omega]; exact hra2, by omega, rfl, rfl, rfl⟩ (by omega) ⟨rfl, rfl, rfl, rfl, rfl, rfl, rfl, trivial⟩ fun w hI => hI.pick (is := [2, 3, 4, 1, 5]) (by decide) rfl
          · refine StepJ.op (listed' := #[true, false, true, true, true, true, true, true, false, false, false, false, false]) rfl rfl rfl ?_
            refine OpJ.call (rdTwo rd db off c (pn + 2) x.cls (hd ++ t) (w' && W) o2 r2 (by omega) hc (by omega)) has_44 rfl rfl rfl rfl rfl [0] [1, 2, 3, 4] (by decide) rfl rfl (fun w hI => ⟨hI.old hcs (by simp [fp]), by omega⟩) ?_
            rintro _ _ ⟨rfl, rfl⟩
            refine ⟨fun w hI => hI.pick (is := [3, 4]) (by decide) rfl, ?_⟩
            refine AnyJ.take (fuel := 5) (listed' := #[true, false, true, true, true, true, true, true, true, false, false, false, false]) 8 rfl (by kernel_rfl) (by kernel_rfl) (by kernel_rfl) rfl rfl rfl rfl (build_ask x rfl rfl) (fun w hI => hI.pick (is := [3, 4]) (by decide) rfl) ?_
            refine AnyJ.two (fuel := 4) 1 9 (by kernel_rfl) ?_ ?_
            · refine StepJ.op (listed' := #[true, true, true, true, true, true, true, true, true, false, false, false, false]) rfl rfl rfl ?_
              refine OpJ.yld rfl rfl (Yld.load1 rfl Tryd.underlying37 rfl rfl (fun w hI => Inv.cell1 hI (i := 2) rfl rfl)) ?_
              refine ⟨fun w hI => hI.pick (is := [3, 4]) (by decide) rfl, ?_⟩
              refine AnyJ.one (fuel := 3) 9 (by kernel_rfl) ?_
              refine StepJ.op (listed' := #[true, true, true, true, true, true, true, true, true, true, false, false, false]) rfl rfl rfl ?_
              refine OpJ.buildSlice (xs := [.tmp 109]) elt_37 rfl rfl rfl rfl rfl rfl (by rfl) (by decide) fun aone haone => ?_
              refine ⟨fun w hI => hI.pick (is := [4, 5]) (by decide) rfl, ?_⟩
              refine AnyJ.one (fuel := 2) 10 (by kernel_rfl) ?_
              refine StepJ.op (listed' := #[true, true, true, true, true, true, true, true, true, true, true, false, false]) rfl rfl rfl ?_
              refine OpJ.appendL (cells := AskD.cells) (i := 2) (news := x) elt_37 rfl rfl rfl rfl rfl rfl (fun w hI => Inv.src hI (i := 0) rfl Tryd.underlying37 (AskD.ones x)) (by omega) fun p111 c111 => ?_
              refine ⟨fun w hI => hI.pick (is := [4, 5]) (by decide) rfl, ?_⟩
              refine AnyJ.take (fuel := 1) (listed' := #[true, true, true, true, true, true, true, true, true, true, true, true, false]) 11 rfl (by kernel_rfl) (by kernel_rfl) (by kernel_rfl) rfl rfl rfl rfl (Yld.fieldAddr fa_40_1 rfl rfl) (fun w hI => hI.pick (is := [4, 5]) (by decide) rfl) ?_
              refine AnyJ.one (fuel := 0) 12 (by kernel_rfl) ?_
              refine StepJ.op (listed' := #[true, true, true, true, true, true, true, true, true, true, true, true, true]) rfl rfl rfl ?_
              refine OpJ.store1 (i := 3) rfl rfl rfl rfl rfl sz_37 rfl rfl ?_
              refine ⟨fun w hI => hI.pick (is := [4, 5]) (by decide) rfl, ?_⟩
              refine AnyJ.done (by kernel_rfl) ?_
              refine ExJ.blockN ?_
              refine ExJ.thenN ?_
              refine CodeJ.region ?_
              refine OpsJ.yld rfl rfl rfl (Yld.move rfl rfl) ?_
              refine OpsJ.yld rfl rfl rfl (Yld.intBin rfl rfl rfl rfl) ?_
              rw [i64_succ j (by omega)]
              refine OpsJ.yld rfl rfl rfl (Yld.assign rfl rfl) ?_
              refine OpsJ.nil ?_
              exact ExJ.againP ⟨j + 1, pn + 2 + 2, w' && W, p111, c111, ss ++ [x], by omega, by rw [hss, take_snoc _ _ _ hx], by rw [show pn + 2 + 2 = n by omega]; exact hra2, by omega, rfl, rfl, rfl⟩ (by omega) ⟨rfl, rfl, rfl, rfl, rfl, rfl, rfl, trivial⟩ fun w hI => hI.pick (is := [2, 3, 4, 1, 5]) (by decide) rfl
            · refine StepJ.op (listed' := #[true, false, true, true, true, true, true, true, true, true, false, false, false]) rfl rfl rfl ?_
              refine OpJ.buildSlice (xs := [.tmp 109]) elt_37 rfl rfl rfl rfl rfl rfl (by rfl) (by decide) fun aone haone => ?_
              refine ⟨fun w hI => hI.pick (is := [4, 5]) (by decide) rfl, ?_⟩
              refine AnyJ.one (fuel := 3) 1 (by kernel_rfl) ?_
              refine StepJ.op (listed' := #[true, true, true, true, true, true, true, true, true, true, false, false, false]) rfl rfl rfl ?_
              refine OpJ.yld rfl rfl (Yld.load1 rfl Tryd.underlying37 rfl rfl (fun w hI => Inv.cell1 hI (i := 3) rfl rfl)) ?_
              refine ⟨fun w hI => hI.pick (is := [4, 5]) (by decide) rfl, ?_⟩
              refine AnyJ.one (fuel := 2) 10 (by kernel_rfl) ?_
              refine StepJ.op (listed' := #[true, true, true, true, true, true, true, true, true, true, true, false, false]) rfl rfl rfl ?_
              refine OpJ.appendL (cells := AskD.cells) (i := 2) (news := x) elt_37 rfl rfl rfl rfl rfl rfl (fun w hI => Inv.src hI (i := 0) rfl Tryd.underlying37 (AskD.ones x)) (by omega) fun p111 c111 => ?_
              refine ⟨fun w hI => hI.pick (is := [4, 5]) (by decide) rfl, ?_⟩
              refine AnyJ.take (fuel := 1) (listed' := #[true, true, true, true, true, true, true, true, true, true, true, true, false]) 11 rfl (by kernel_rfl) (by kernel_rfl) (by kernel_rfl) rfl rfl rfl rfl (Yld.fieldAddr fa_40_1 rfl rfl) (fun w hI => hI.pick (is := [4, 5]) (by decide) rfl) ?_
              refine AnyJ.one (fuel := 0) 12 (by kernel_rfl) ?_
              refine StepJ.op (listed' := #[true, true, true, true, true, true, true, true, true, true, true, true, true]) rfl rfl rfl ?_
              refine OpJ.store1 (i := 3) rfl rfl rfl rfl rfl sz_37 rfl rfl ?_
              refine ⟨fun w hI => hI.pick (is := [4, 5]) (by decide) rfl, ?_⟩
              refine AnyJ.done (by kernel_rfl) ?_
              refine ExJ.blockN ?_
              refine ExJ.thenN ?_
              refine CodeJ.region ?_
              refine OpsJ.yld rfl rfl rfl (Yld.move rfl rfl) ?_
              refine OpsJ.yld rfl rfl rfl (Yld.intBin rfl rfl rfl rfl) ?_
              rw [i64_succ j (by omega)]
              refine OpsJ.yld rfl rfl rfl (Yld.assign rfl rfl) ?_
              refine OpsJ.nil ?_
              exact ExJ.againP ⟨j + 1, pn + 2 + 2, w' && W, p111, c111, ss ++ [x], by omega, by rw [hss, take_snoc _ _ _ hx], by rw [show pn + 2 + 2 = n by omega]; exact hra2, by omega, rfl, rfl, rfl⟩ (by omega) ⟨rfl, rfl, rfl, rfl, rfl, rfl, rfl, trivial⟩ fun w hI => hI.pick (is := [2, 3, 4, 1, 5]) (by decide) rfl
    · exact absurd c98 (by decide)
  · obtain rfl : j = qs.length := by omega
    rw [List.drop_length] at hra
    have hpe : pos = e1 := hra
    subst hpe
    rw [List.take_length] at hss
    rw [hss]
    refine OpsJ.opF rfl rfl rfl rfl rfl rfl ?_
    refine OpsJ.opF rfl rfl rfl rfl rfl rfl ?_
    refine OpsJ.opF rfl rfl rfl rfl rfl rfl ?_
    refine OpsJ.opF rfl rfl rfl rfl rfl rfl ?_
    refine OpsJ.opF rfl rfl rfl rfl rfl rfl ?_
    refine OpsJ.yld rfl rfl rfl (Yld.pickF rfl rfl rfl) ?_
    refine OpsJ.nil ?_
    refine ExJ.thenN ?_
    refine CodeJ.condF rfl ?_
    refine CodeJ.exit ?_
    refine ExJ.thenX ?_
    refine ExJ.thenX ?_
    refine ExJ.blockHit ?_
    refine ExJ.thenN ?_
    refine CodeJ.seq ?_
    refine CodeJ.any (fuel := 21) (listed := #[false, false, false, false, false, false, false, false, false, false, false, false, false, false, false, false, false, false, false, false, false]) [2, 4, 0] rfl follows_mixed rfl rfl ?_
    refine AnyJ.take (fuel := 20) (listed' := #[true, false, false, false, false, false, false, false, false, false, false, false, false, false, false, false, false, false, false, false, false]) 0 rfl (by kernel_rfl) (by kernel_rfl) (by kernel_rfl) rfl rfl rfl rfl (Yld.move rfl rfl) (fun w hI => hI.pick (is := [2, 4, 0]) (by decide) rfl) ?_
    refine AnyJ.take (fuel := 19) (listed' := #[true, true, false, false, false, false, false, false, false, false, false, false, false, false, false, false, false, false, false, false, false]) 1 rfl (by kernel_rfl) (by kernel_rfl) (by kernel_rfl) rfl rfl rfl rfl (Yld.move rfl rfl) (fun w hI => hI.pick (is := [2, 4, 0]) (by decide) rfl) ?_
    refine AnyJ.take (fuel := 18) (listed' := #[true, true, true, false, false, false, false, false, false, false, false, false, false, false, false, false, false, false, false, false, false]) 2 rfl (by kernel_rfl) (by kernel_rfl) (by kernel_rfl) rfl rfl rfl rfl (Yld.indexAddr (i := 1) rfl Tryd.underlying45 sz_3 rfl rfl (by decide)) (fun w hI => hI.pick (is := [2, 4, 0]) (by decide) rfl) ?_
    refine AnyJ.take (fuel := 17) (listed' := #[true, true, true, true, false, false, false, false, false, false, false, false, false, false, false, false, false, false, false, false, false]) 3 rfl (by kernel_rfl) (by kernel_rfl) (by kernel_rfl) rfl rfl rfl rfl (Yld.load1 rfl Tryd.underlying3 rfl rfl (fun w hI => (Own.cells (hI.hs _ (List.mem_of_getElem? (i := 0) rfl)).1 _ _ _ _ rfl).2.2.one (k := 1) rfl)) (fun w hI => hI.pick (is := [2, 4, 0]) (by decide) rfl) ?_
    refine AnyJ.take (fuel := 16) (listed' := #[true, true, true, true, false, true, false, false, false, false, false, false, false, false, false, false, false, false, false, false, false]) 5 rfl (by kernel_rfl) (by kernel_rfl) (by kernel_rfl) rfl rfl rfl rfl (Yld.move rfl rfl) (fun w hI => hI.pick (is := [2, 4, 0]) (by decide) rfl) ?_
    refine AnyJ.take (fuel := 15) (listed' := #[true, true, true, true, false, true, true, false, false, false, false, false, false, false, false, false, false, false, false, false, false]) 6 rfl (by kernel_rfl) (by kernel_rfl) (by kernel_rfl) rfl rfl rfl rfl (Yld.move rfl rfl) (fun w hI => hI.pick (is := [2, 4, 0]) (by decide) rfl) ?_
    refine AnyJ.take (fuel := 14) (listed' := #[true, true, true, true, false, true, true, true, false, false, false, false, false, false, false, false, false, false, false, false, false]) 7 rfl (by kernel_rfl) (by kernel_rfl) (by kernel_rfl) rfl rfl rfl rfl (Yld.indexAddr (i := 2) rfl Tryd.underlying45 sz_3 rfl rfl (by decide)) (fun w hI => hI.pick (is := [2, 4, 0]) (by decide) rfl) ?_
    refine AnyJ.take (fuel := 13) (listed' := #[true, true, true, true, false, true, true, true, true, false, false, false, false, false, false, false, false, false, false, false, false]) 8 rfl (by kernel_rfl) (by kernel_rfl) (by kernel_rfl) rfl rfl rfl rfl (Yld.load1 rfl Tryd.underlying3 rfl rfl (fun w hI => (Own.cells (hI.hs _ (List.mem_of_getElem? (i := 0) rfl)).1 _ _ _ _ rfl).2.2.one (k := 2) rfl)) (fun w hI => hI.pick (is := [2, 4, 0]) (by decide) rfl) ?_
    refine AnyJ.take (fuel := 12) (listed' := #[true, true, true, true, false, true, true, true, true, false, true, false, false, false, false, false, false, false, false, false, false]) 10 rfl (by kernel_rfl) (by kernel_rfl) (by kernel_rfl) rfl rfl rfl rfl (Yld.move rfl rfl) (fun w hI => hI.pick (is := [2, 4, 0]) (by decide) rfl) ?_
    refine AnyJ.take (fuel := 11) (listed' := #[true, true, true, true, false, true, true, true, true, false, true, true, false, false, false, false, false, false, false, false, false]) 11 rfl (by kernel_rfl) (by kernel_rfl) (by kernel_rfl) rfl rfl rfl rfl (Yld.move rfl rfl) (fun w hI => hI.pick (is := [2, 4, 0]) (by decide) rfl) ?_
    refine AnyJ.take (fuel := 10) (listed' := #[true, true, true, true, false, true, true, true, true, false, true, true, true, false, false, false, false, false, false, false, false]) 12 rfl (by kernel_rfl) (by kernel_rfl) (by kernel_rfl) rfl rfl rfl rfl (Yld.indexAddr (i := 3) rfl Tryd.underlying45 sz_3 rfl rfl (by decide)) (fun w hI => hI.pick (is := [2, 4, 0]) (by decide) rfl) ?_
    refine AnyJ.take (fuel := 9) (listed' := #[true, true, true, true, false, true, true, true, true, false, true, true, true, true, false, false, false, false, false, false, false]) 13 rfl (by kernel_rfl) (by kernel_rfl) (by kernel_rfl) rfl rfl rfl rfl (Yld.load1 rfl Tryd.underlying3 rfl rfl (fun w hI => (Own.cells (hI.hs _ (List.mem_of_getElem? (i := 0) rfl)).1 _ _ _ _ rfl).2.2.one (k := 3) rfl)) (fun w hI => hI.pick (is := [2, 4, 0]) (by decide) rfl) ?_
    refine AnyJ.one (fuel := 8) 4 (by kernel_rfl) ?_
    refine StepJ.op (listed' := #[true, true, true, true, true, true, true, true, true, false, true, true, true, true, false, false, false, false, false, false, false]) rfl rfl rfl ?_
    refine OpJ.call (records_spec K k BA hbody one (fun x hx => hrs x (by simp [hx])) (by omega) hd t hh rd db off c pos e2 w' h1 ha'.1 hc hbig) has_46 rfl rfl rfl rfl rfl [3] [0, 1, 2, 4] (by decide) rfl rfl (fun w hI => ⟨hI.old hcs (by simp [fp]), by omega⟩) ?_
    rintro _ _ ⟨w1, p1, c1, ss1, q1, bs1, hq1, rfl, rfl, hr1, hb1⟩
    refine ⟨fun w hI => hI.pick (is := [4, 5, 2]) (by decide) rfl, ?_⟩
    refine AnyJ.one (fuel := 7) 9 (by kernel_rfl) ?_
    refine StepJ.op (listed' := #[true, true, true, true, true, true, true, true, true, true, true, true, true, true, false, false, false, false, false, false, false]) rfl rfl rfl ?_
    refine OpJ.call (records_spec K k BA hbody two (fun x hx => hrs x (by simp [hx])) (by omega) hd t hh rd db off c e2 e3 w1 h2 h1'.1 hc hbig) has_46 rfl rfl rfl rfl rfl [0] [1, 2, 3, 4, 5] (by decide) rfl rfl (fun w hI => ⟨hI.old hcs (by simp [fp]), by omega⟩) ?_
    rintro _ _ ⟨w2, p2, c2, ss2, q2, bs2, hq2, rfl, rfl, hr2, hb2⟩
    refine ⟨fun w hI => hI.pick (is := [5, 6, 3]) (by decide) rfl, ?_⟩
    refine AnyJ.one (fuel := 6) 14 (by kernel_rfl) ?_
    refine StepJ.op (listed' := #[true, true, true, true, true, true, true, true, true, true, true, true, true, true, true, false, false, false, false, false, false]) rfl rfl rfl ?_
    refine OpJ.call (records_spec K k BA hbody three (fun x hx => hrs x (by simp [hx])) (by omega) hd t hh rd db off c e3 (12 + t.length) w2 h3 h2'.1 hc hbig) has_46 rfl rfl rfl rfl rfl [0] [1, 2, 3, 4, 5, 6] (by decide) rfl rfl (fun w hI => ⟨hI.old hcs (by simp [fp]), by omega⟩) ?_
    rintro _ _ ⟨w3, p3, c3, ss3, q3, bs3, hq3, rfl, rfl, hr3, hb3⟩
    refine ⟨fun w hI => hI.pick (is := [6, 7, 4]) (by decide) rfl, ?_⟩
    refine AnyJ.take (fuel := 5) (listed' := #[true, true, true, true, true, true, true, true, true, true, true, true, true, true, true, true, false, false, false, false, false]) 15 rfl (by kernel_rfl) (by kernel_rfl) (by kernel_rfl) rfl rfl rfl rfl (Yld.fieldAddr fa_40_2 rfl rfl) (fun w hI => hI.pick (is := [6, 7, 4]) (by decide) rfl) ?_
    refine AnyJ.one (fuel := 4) 16 (by kernel_rfl) ?_
    refine StepJ.op (listed' := #[true, true, true, true, true, true, true, true, true, true, true, true, true, true, true, true, true, false, false, false, false]) rfl rfl rfl ?_
    refine OpJ.store1 (i := 5) rfl rfl rfl rfl rfl sz_38 rfl rfl ?_
    refine ⟨fun w hI => hI.pick (is := [6, 7, 4]) (by decide) rfl, ?_⟩
    refine AnyJ.take (fuel := 3) (listed' := #[true, true, true, true, true, true, true, true, true, true, true, true, true, true, true, true, true, true, false, false, false]) 17 rfl (by kernel_rfl) (by kernel_rfl) (by kernel_rfl) rfl rfl rfl rfl (Yld.fieldAddr fa_40_3 rfl rfl) (fun w hI => hI.pick (is := [6, 7, 4]) (by decide) rfl) ?_
    refine AnyJ.one (fuel := 2) 18 (by kernel_rfl) ?_
    refine StepJ.op (listed' := #[true, true, true, true, true, true, true, true, true, true, true, true, true, true, true, true, true, true, true, false, false]) rfl rfl rfl ?_
    refine OpJ.store1 (i := 5) rfl rfl rfl rfl rfl sz_38 rfl rfl ?_
    refine ⟨fun w hI => hI.pick (is := [6, 7, 4]) (by decide) rfl, ?_⟩
    refine AnyJ.take (fuel := 1) (listed' := #[true, true, true, true, true, true, true, true, true, true, true, true, true, true, true, true, true, true, true, true, false]) 19 rfl (by kernel_rfl) (by kernel_rfl) (by kernel_rfl) rfl rfl rfl rfl (Yld.fieldAddr fa_40_4 rfl rfl) (fun w hI => hI.pick (is := [6, 7, 4]) (by decide) rfl) ?_
    refine AnyJ.one (fuel := 0) 20 (by kernel_rfl) ?_
    refine StepJ.op (listed' := #[true, true, true, true, true, true, true, true, true, true, true, true, true, true, true, true, true, true, true, true, true]) rfl rfl rfl ?_
    refine OpJ.store1 (i := 5) rfl rfl rfl rfl rfl sz_38 rfl rfl ?_
    refine ⟨fun w hI => hI.pick (is := [6, 7, 4]) (by decide) rfl, ?_⟩
    refine AnyJ.done (by kernel_rfl) ?_
    refine ExJ.thenN ?_
    refine CodeJ.seq ?_
    refine CodeJ.any (fuel := 22) (listed := #[false, false, false, false, false, false, false, false, false, false, false, false, false, false, false, false, false, false, false, false, false, false]) [5, 0, 4, 3, 2, 1] rfl follows_mixed rfl rfl ?_
    refine AnyJ.take (fuel := 21) (listed' := #[true, false, false, false, false, false, false, false, false, false, false, false, false, false, false, false, false, false, false, false, false, false]) 0 rfl (by kernel_rfl) (by kernel_rfl) (by kernel_rfl) rfl rfl rfl rfl (Yld.loadN (vs := MsgD.cells ⟨h, .slice p qs.length c', qs, .slice p1 one.length c1, ss1, .slice p2 two.length c2, ss2, .slice p3 three.length c3, ss3⟩) rfl Tryd.underlying40 rfl sz_40 rfl (fun w hI => Inv.whole hI (i := 0) rfl)) (fun w hI => hI.pick (is := [5, 0, 4, 3, 2, 1]) (by decide) rfl) ?_
    refine AnyJ.take (fuel := 20) (listed' := #[true, true, false, false, false, false, false, false, false, false, false, false, false, false, false, false, false, false, false, false, false, false]) 1 rfl (by kernel_rfl) (by kernel_rfl) (by kernel_rfl) rfl rfl rfl rfl (Yld.move rfl rfl) (fun w hI => hI.pick (is := [5, 0, 4, 3, 2, 1]) (by decide) rfl) ?_
    refine AnyJ.take (fuel := 19) (listed' := #[true, true, true, false, false, false, false, false, false, false, false, false, false, false, false, false, false, false, false, false, false, false]) 2 rfl (by kernel_rfl) (by kernel_rfl) (by kernel_rfl) rfl rfl rfl rfl (Yld.nilCheck rfl rfl) (fun w hI => hI.pick (is := [5, 0, 4, 3, 2, 1]) (by decide) rfl) ?_
    refine AnyJ.take (fuel := 18) (listed' := #[true, true, true, true, false, false, false, false, false, false, false, false, false, false, false, false, false, false, false, false, false, false]) 3 rfl (by kernel_rfl) (by kernel_rfl) (by kernel_rfl) rfl rfl rfl rfl (Yld.fieldAddr fa_101_2 rfl rfl) (fun w hI => hI.pick (is := [5, 0, 4, 3, 2, 1]) (by decide) rfl) ?_
    refine AnyJ.take (fuel := 17) (listed' := #[true, true, true, true, true, false, false, false, false, false, false, false, false, false, false, false, false, false, false, false, false, false]) 4 rfl (by kernel_rfl) (by kernel_rfl) (by kernel_rfl) rfl rfl rfl rfl (Yld.load1 rfl Tryd.underlying4 rfl rfl (fun w hI => Inv.cell1 hI (i := 1) rfl rfl)) (fun w hI => hI.pick (is := [5, 0, 4, 3, 2, 1]) (by decide) rfl) ?_
    refine AnyJ.take (fuel := 16) (listed' := #[true, true, true, true, true, true, false, false, false, false, false, false, false, false, false, false, false, false, false, false, false, false]) 5 rfl (by kernel_rfl) (by kernel_rfl) (by kernel_rfl) rfl rfl rfl rfl (Yld.not rfl rfl) (fun w hI => hI.pick (is := [5, 0, 4, 3, 2, 1]) (by decide) rfl) ?_
    refine AnyJ.take (fuel := 15) (listed' := #[true, true, true, true, true, true, true, false, false, false, false, false, false, false, false, false, false, false, false, false, false, false]) 6 rfl (by kernel_rfl) (by kernel_rfl) (by kernel_rfl) rfl rfl rfl rfl (Yld.move rfl rfl) (fun w hI => hI.pick (is := [5, 0, 4, 3, 2, 1]) (by decide) rfl) ?_
    refine AnyJ.splitB (s := 137) rfl (fun g137 => ?_) (fun g137 => ?_)
    · refine AnyJ.takeT (fuel := 14) (listed' := #[true, true, true, true, true, true, true, true, false, false, false, false, false, false, false, false, false, false, false, false, false, false]) 7 rfl (by kernel_rfl) (by kernel_rfl) (by kernel_rfl) rfl rfl rfl rfl rfl rfl (Yld.move rfl rfl) (fun w hI => hI.pick (is := [5, 0, 4, 3, 2, 1]) (by decide) rfl) ?_
      refine AnyJ.takeT (fuel := 13) (listed' := #[true, true, true, true, true, true, true, true, true, false, false, false, false, false, false, false, false, false, false, false, false, false]) 8 rfl (by kernel_rfl) (by kernel_rfl) (by kernel_rfl) rfl rfl rfl rfl rfl rfl (Yld.nilCheck rfl rfl) (fun w hI => hI.pick (is := [5, 0, 4, 3, 2, 1]) (by decide) rfl) ?_
      refine AnyJ.takeT (fuel := 12) (listed' := #[true, true, true, true, true, true, true, true, true, true, false, false, false, false, false, false, false, false, false, false, false, false]) 9 rfl (by kernel_rfl) (by kernel_rfl) (by kernel_rfl) rfl rfl rfl rfl rfl rfl (Yld.fieldAddr fa_101_1 rfl rfl) (fun w hI => hI.pick (is := [5, 0, 4, 3, 2, 1]) (by decide) rfl) ?_
      refine AnyJ.takeT (fuel := 11) (listed' := #[true, true, true, true, true, true, true, true, true, true, true, false, false, false, false, false, false, false, false, false, false, false]) 10 rfl (by kernel_rfl) (by kernel_rfl) (by kernel_rfl) rfl rfl rfl rfl rfl rfl (Yld.load1 rfl Tryd.underlying3 rfl rfl (fun w hI => Inv.cell1 hI (i := 1) rfl rfl)) (fun w hI => hI.pick (is := [5, 0, 4, 3, 2, 1]) (by decide) rfl) ?_
      refine AnyJ.takeT (fuel := 10) (listed' := #[true, true, true, true, true, true, true, true, true, true, true, true, false, false, false, false, false, false, false, false, false, false]) 11 rfl (by kernel_rfl) (by kernel_rfl) (by kernel_rfl) rfl rfl rfl rfl rfl rfl (Yld.move rfl rfl) (fun w hI => hI.pick (is := [5, 0, 4, 3, 2, 1]) (by decide) rfl) ?_
      refine AnyJ.takeT (fuel := 9) (listed' := #[true, true, true, true, true, true, true, true, true, true, true, true, true, false, false, false, false, false, false, false, false, false]) 12 rfl (by kernel_rfl) (by kernel_rfl) (by kernel_rfl) rfl rfl rfl rfl rfl rfl (Yld.lenSlice rfl rfl rfl Tryd.underlying31 rfl) (fun w hI => hI.pick (is := [5, 0, 4, 3, 2, 1]) (by decide) rfl) ?_
      refine AnyJ.takeT (fuel := 8) (listed' := #[true, true, true, true, true, true, true, true, true, true, true, true, true, true, false, false, false, false, false, false, false, false]) 13 rfl (by kernel_rfl) (by kernel_rfl) (by kernel_rfl) rfl rfl rfl rfl rfl rfl (Yld.intBin rfl rfl rfl rfl) (fun w hI => hI.pick (is := [5, 0, 4, 3, 2, 1]) (by decide) rfl) ?_
      rw [hml, show (((12 + t.length : Nat) : Int) == ((12 + t.length : Nat) : Int)) = true by simp]
      refine AnyJ.take (fuel := 7) (listed' := #[true, true, true, true, true, true, true, true, true, true, true, true, true, true, true, false, false, false, false, false, false, false]) 14 rfl (by kernel_rfl) (by kernel_rfl) (by kernel_rfl) rfl rfl rfl rfl (Yld.pickT rfl rfl rfl) (fun w hI => hI.pick (is := [5, 0, 4, 3, 2, 1]) (by decide) rfl) ?_
      refine AnyJ.take (fuel := 6) (listed' := #[true, true, true, true, true, true, true, true, true, true, true, true, true, true, true, true, false, false, false, false, false, false]) 15 rfl (by kernel_rfl) (by kernel_rfl) (by kernel_rfl) rfl rfl rfl rfl (Yld.move rfl rfl) (fun w hI => hI.pick (is := [5, 0, 4, 3, 2, 1]) (by decide) rfl) ?_
      refine AnyJ.splitB (s := 146) rfl (fun g146 => ?_) (fun g146 => ?_)
      · refine AnyJ.takeT (fuel := 5) (listed' := #[true, true, true, true, true, true, true, true, true, true, true, true, true, true, true, true, true, false, false, false, false, false]) 16 rfl (by kernel_rfl) (by kernel_rfl) (by kernel_rfl) rfl rfl rfl rfl rfl rfl (Yld.move rfl rfl) (fun w hI => hI.pick (is := [5, 0, 4, 3, 2, 1]) (by decide) rfl) ?_
        refine AnyJ.takeT (fuel := 4) (listed' := #[true, true, true, true, true, true, true, true, true, true, true, true, true, true, true, true, true, true, false, false, false, false]) 17 rfl (by kernel_rfl) (by kernel_rfl) (by kernel_rfl) rfl rfl rfl rfl rfl rfl (Yld.intBin rfl rfl rfl rfl) (fun w hI => hI.pick (is := [5, 0, 4, 3, 2, 1]) (by decide) rfl) ?_
        refine AnyJ.takeT (fuel := 3) (listed' := #[true, true, true, true, true, true, true, true, true, true, true, true, true, true, true, true, true, true, true, false, false, false]) 18 rfl (by kernel_rfl) (by kernel_rfl) (by kernel_rfl) rfl rfl rfl rfl rfl rfl (Yld.intBin rfl rfl rfl rfl) (fun w hI => hI.pick (is := [5, 0, 4, 3, 2, 1]) (by decide) rfl) ?_
        rw [four_read h.bits 64 0 64 rfl hbl (by decide) f8]
        refine AnyJ.take (fuel := 2) (listed' := #[true, true, true, true, true, true, true, true, true, true, true, true, true, true, true, true, true, true, true, true, false, false]) 19 rfl (by kernel_rfl) (by kernel_rfl) (by kernel_rfl) rfl rfl rfl rfl (Yld.pickT rfl rfl rfl) (fun w hI => hI.pick (is := [5, 0, 4, 3, 2, 1]) (by decide) rfl) ?_
        refine AnyJ.one (fuel := 1) 20 (by kernel_rfl) ?_
        refine StepJ.op (listed' := #[true, true, true, true, true, true, true, true, true, true, true, true, true, true, true, true, true, true, true, true, true, false]) rfl rfl rfl ?_
        refine OpJ.storeW (i := 7) rfl rfl rfl rfl sz_40 rfl rfl rfl ?_
        refine ⟨fun w hI => hI.pick (is := [5, 0, 4, 3, 2, 1]) (by decide) rfl, ?_⟩
        refine AnyJ.take (fuel := 0) (listed' := #[true, true, true, true, true, true, true, true, true, true, true, true, true, true, true, true, true, true, true, true, true, true]) 21 rfl (by kernel_rfl) (by kernel_rfl) (by kernel_rfl) rfl rfl rfl rfl (Yld.assign rfl rfl) (fun w hI => hI.pick (is := [5, 0, 4, 3, 2, 1]) (by decide) rfl) ?_
        refine AnyJ.done (by kernel_rfl) ?_
        refine ExJ.thenN ?_
        refine CodeJ.ret ?_
        refine ExJ.retC2 (vs := MsgD.cells ⟨h, .slice p qs.length c', qs, .slice p1 one.length c1, ss1, .slice p2 two.length c2, ss2, .slice p3 three.length c3, ss3⟩) Tryd.results25 rfl rfl Tryd.underlying40 rfl sz_40 (fun w hI => Inv.whole hI (i := 7) rfl)
          ⟨⟨h, .slice p qs.length c', qs, .slice p1 one.length c1, ss1, .slice p2 two.length c2, ss2, .slice p3 three.length c3, ss3⟩, _, _, _, rfl, rfl, ?_, ⟨rfl, rfl, hb1, hb2, hb3, rfl⟩⟩ fun w hI => (((hI.pick (is := [4, 3, 2, 1]) (by decide) rfl).join).join).join
        intro w hw
        obtain ⟨hw, hw3⟩ := hw
        obtain ⟨⟨hw, hw2⟩, hr2'⟩ := hw
        obtain ⟨⟨hwa, hw1⟩, hr1'⟩ := hw
        exact ⟨Own.row hwa.1, hr1 w hw1.1, hr2 w hw2.1, hr3 w hw3.1⟩
      · exact absurd g146 (by decide)
    · exact absurd g137 (by decide)
end Go.Proofs.YtamobccbioafmaaDoor

/-
  Plain laws: a message that is built with compression has what was given, for the reader.
-/
namespace Go.Proofs.YtamobccbioafmaaDoor
open Go
set_option maxRecDepth 100000

/-- a builder under way: t: what it has built behind the header -/
structure St (b : Bd) (t : List UInt8) : Prop where
  buf : b.buf = zero12 ++ t
  start : b.start = 0
  good : ∀ x ∈ b.m, Good t x
  sec : 1 ≤ b.sec
  big : t.length ≤ 100000000000000
theorem zero12_len : zero12.length = 12 := rfl
theorem St.ok {b : Bd} {t : List UInt8} (h : St b t) : BdOk b :=
  ⟨h.sec, by rw [h.buf, h.start, List.length_append, zero12_len]; omega, by have := h.big; rw [h.buf, List.length_append, zero12_len]; omega, fun x hx => by have := (h.good x hx).1; omega⟩
theorem St.rel {b : Bd} {t : List UInt8} (h : St b t) : b.buf.length - b.start = 12 + t.length := by rw [h.buf, h.start, List.length_append, zero12_len]; omega
theorem St.new (h : Hd) : St (newB [] h) [] := ⟨rfl, rfl, fun x hx => (by cases hx), Nat.le_of_ble_eq_true rfl, by simp⟩
theorem St.on {b : Bd} {t : List UInt8} (h : St b t) : St { b with m := [] } t := ⟨h.buf, h.start, fun x hx => (by cases hx), h.sec, h.big⟩
theorem St.to {b : Bd} {t : List UInt8} (h : St b t) (k : Nat) (hk : 1 ≤ k) : St { b with sec := k } t := ⟨h.buf, h.start, h.good, hk, h.big⟩

/-- a question -/
theorem ask_short {b : Bd} {t : List UInt8} (hs : St b t) (on : Bool) (a : AskD) (h2 : b.sec = 2) (hn : nameOk a.name.data.toList = true) (hbig : t.length + 600 ≤ 100000000000000) :
    ∃ ys m', askF a on b = ({ b with buf := zero12 ++ (t ++ ys), q := b.q + 1, m := m' }, 0) ∧ St { b with buf := zero12 ++ (t ++ ys), q := b.q + 1, m := m' } (t ++ ys) ∧ AskAt (t ++ ys) (12 + t.length) (12 + (t ++ ys).length) a ∧ ys.length ≤ (askWire a).length ∧ ys.length ≤ 600 := by
  obtain ⟨zs, m', hp⟩ := packN_ok (b.buf.length - b.start) on a.name.data.toList b.m hn
  have hp' := hp
  rw [hs.rel] at hp'
  obtain ⟨⟨k, ls, w, hname, _, hrd⟩, hgood⟩ := packN_read t on _ hn b.m zs m' hp' hs.good
  have hzl := packN_le _ _ _ _ _ _ (nameOk_pname hn).le hp
  have hzw := packN_le_wire hn hp
  have hb4 : (be16 a.typ ++ be16 a.cls).length = 4 := rfl
  refine ⟨zs ++ (be16 a.typ ++ be16 a.cls), m', ?_, ?_, ?_, ?_, ?_⟩
  · rw [askF, if_neg (by omega), packQ, cut_ok hn, hp]
    simp [hs.buf, List.append_assoc]
  · refine ⟨rfl, hs.start, fun x hx => ?_, by show 1 ≤ b.sec; omega, ?_⟩
    · rw [← List.append_assoc]
      exact (hgood x hx).app _
    · simp only [List.length_append, be16_len]
      omega
  · refine ⟨k, ls, w, 12 + (t ++ zs).length, ?_, hname, ?_, ?_, ?_⟩
    · rw [← List.append_assoc]
      have := hrd.app (be16 a.typ ++ be16 a.cls)
      rw [show 12 + (t ++ zs).length = 12 + t.length + zs.length by rw [List.length_append]; omega]
      exact this
    · simp only [List.length_append, be16_len]
      omega
    · exact Nat.le_refl _
    · rw [← List.append_assoc, show 12 + (t ++ zs).length - 12 = (t ++ zs).length by omega, List.drop_left' rfl]
      rfl
  · simp only [askWire, List.length_append, be16_len]
    omega
  · simp only [List.length_append, be16_len]
    omega

theorem asks_short (A : Adder) (on : Bool) (ts : List StepD) : ∀ (qs : List AskD) (b : Bd) (t : List UInt8), St b t → (∀ a ∈ qs, nameOk a.name.data.toList = true) → b.sec = 2 → b.q + qs.length ≤ 65535 → t.length + 600 * qs.length ≤ 100000000000000 →
    ∃ ys m', St { b with buf := zero12 ++ (t ++ ys), q := b.q + qs.length, m := m' } (t ++ ys) ∧ AsksAt (t ++ ys) (12 + t.length) (12 + (t ++ ys).length) qs ∧ ys.length ≤ ((qs.map askWire).flatten).length ∧ ys.length ≤ 600 * qs.length ∧
      (RunOk A ts on { b with buf := zero12 ++ (t ++ ys), q := b.q + qs.length, m := m' } → RunOk A (qs.map askStep ++ ts) on b) ∧
      runF A (qs.map askStep ++ ts) on b = ((runF A ts on { b with buf := zero12 ++ (t ++ ys), q := b.q + qs.length, m := m' }).1, List.replicate qs.length 0 ++ (runF A ts on { b with buf := zero12 ++ (t ++ ys), q := b.q + qs.length, m := m' }).2)
  | [], b, t, hs, _, _, _, _ => by
    have e : ({ b with buf := zero12 ++ (t ++ []), q := b.q + ([] : List AskD).length, m := b.m } : Bd) = b := by
      rw [List.append_nil, ← hs.buf]
      rfl
    refine ⟨[], b.m, by rw [e]; simpa using hs, by simp [AsksAt], by simp, by simp, ?_, ?_⟩
    · rw [e]; exact fun h => h
    · rw [e]; simp
  | a :: r, b, t, hs, hn, h2, hq, hl => by
    simp only [List.length_cons] at hq hl
    obtain ⟨ys, m1, e1, s1, a1, l1, l2⟩ := ask_short hs on a h2 (hn a (by simp)) (by omega)
    obtain ⟨zs, m2, s2, a2, l3, l4, h5, h6⟩ := asks_short A on ts r { b with buf := zero12 ++ (t ++ ys), q := b.q + 1, m := m1 } (t ++ ys) s1 (fun x hx => hn x (by simp [hx])) h2 (by simp only; omega) (by rw [List.length_append]; omega)
    have e2 : ({ b with buf := zero12 ++ (t ++ ys ++ zs), q := b.q + 1 + r.length, m := m2 } : Bd) = { b with buf := zero12 ++ (t ++ (ys ++ zs)), q := b.q + (a :: r).length, m := m2 } := by
      rw [List.append_assoc t, List.length_cons, show b.q + 1 + r.length = b.q + (r.length + 1) by omega]
    simp only at s2 h5 h6
    rw [e2] at s2 h5 h6
    rw [List.append_assoc] at s2 a2
    refine ⟨ys ++ zs, m2, s2, ⟨12 + (t ++ ys).length, ?_, a2⟩, ?_, ?_, ?_, ?_⟩
    · rw [← List.append_assoc]
      exact a1.app zs
    · simp only [List.length_append, List.map_cons, List.flatten_cons]
      omega
    · simp only [List.length_append, List.length_cons]
      omega
    · intro h
      rw [List.map_cons, List.cons_append, RunOk, step_ask, e1]
      exact ⟨ok_ask A a on b hs.ok (.inr ⟨h2, by omega, by rw [cut_ok (hn a (by simp))]; exact nameOk_pname (hn a (by simp))⟩), h5 h⟩
    · rw [List.map_cons, List.cons_append, runF, step_ask, e1]
      simp only [h6]
      simp [List.replicate_succ]

/-- a body that is a name -/
def hostBA : BodyAt := fun t at_ e x => ∃ k ls w, RdN t k at_ at_ ls e w ∧ x.host.data.toList = nameTxt ls
theorem hostBA_grows : hostBA.Grows := fun _ u _ _ _ ⟨k, ls, w, h1, h2⟩ => ⟨k, ls, w, h1.app u, h2⟩
/-- a body that is packed behind t is found there -/
def BodyShort (K : Kind) (BA : BodyAt) (B : BodyPk) (x : RecD) : Prop := ∀ (on : Bool) (t : List UInt8) (m : List (List UInt8 × Nat)), (∀ y ∈ m, Good t y) →
  ∃ zs m', B (12 + t.length) on x m = .ok zs m' ∧ BA (t ++ zs) (12 + t.length) (12 + (t ++ zs).length) x ∧ (∀ y ∈ m', Good (t ++ zs) y) ∧ zs.length ≤ (K.body x).length
/-- a record that is added behind t is found there -/
def RecShort (K : Kind) (BA : BodyAt) (A : Adder) (x : RecD) : Prop := ∀ (on : Bool) (b : Bd) (t : List UInt8), St b t → 3 ≤ b.sec → b.sec ≤ 5 → b.cnt < 65535 → t.length + 70000 ≤ 100000000000000 →
  A.ok x on b ∧ ∃ ys m', A.eff x on b = (({ b with buf := zero12 ++ (t ++ ys), m := m' } : Bd).incr, 0) ∧ St ({ b with buf := zero12 ++ (t ++ ys), m := m' } : Bd).incr (t ++ ys) ∧ RecAt K BA (t ++ ys) (12 + t.length) (12 + (t ++ ys).length) x ∧ ys.length ≤ (K.recWire x).length ∧ ys.length ≤ 70000

theorem rec_short {K : Kind} {BA : BodyAt} {typ : RecD → Nat} {B : BodyPk} {pok : RecD → Prop} {x : RecD} (hwf : x.wf) (hok : nameOk x.name.data.toList = true) (ht : typ x = K.typ x) (hpok : pok x) (hlb : ∀ on base m zs m', B base on x m = .ok zs m' → zs.length < 65536) (hB : BodyShort K BA B x) : RecShort K BA (recAdder typ B pok) x := by
  intro on b t hs h3 h5 hc hbig
  obtain ⟨zs, m1, hp⟩ := packN_ok (b.buf.length - b.start) on x.name.data.toList b.m hok
  have hp' := hp
  rw [hs.rel] at hp'
  obtain ⟨⟨k, ls, w, hname, _, hrd⟩, hgood⟩ := packN_read t on _ hok b.m zs m1 hp' hs.good
  have hzl := packN_le _ _ _ _ _ _ (nameOk_pname hok).le hp
  have hzw := packN_le_wire hok hp
  have hcut := cut_ok hok
  have hrel : b.rel = 12 + t.length := hs.rel
  -- the head's length stands behind the body's packing
  have hlen10 : ∀ n, (t ++ zs ++ rh10 (K.typ x) x.cls x.ttl n).length = t.length + zs.length + 10 := fun n => by simp only [List.length_append, rh10_len]
  have key : ∀ n, ∃ ws m2, B (b.rel + zs.length + 10) on x m1 = .ok ws m2 ∧ BA (t ++ zs ++ rh10 (K.typ x) x.cls x.ttl n ++ ws) (12 + (t ++ zs ++ rh10 (K.typ x) x.cls x.ttl n).length) (12 + (t ++ zs ++ rh10 (K.typ x) x.cls x.ttl n ++ ws).length) x ∧ (∀ y ∈ m2, Good (t ++ zs ++ rh10 (K.typ x) x.cls x.ttl n ++ ws) y) ∧ ws.length ≤ (K.body x).length := fun n => by
    obtain ⟨ws, m2, g1, g2, g3, g4⟩ := hB on (t ++ zs ++ rh10 (K.typ x) x.cls x.ttl n) m1 (fun y hy => (hgood y hy).app _)
    refine ⟨ws, m2, ?_, g2, g3, g4⟩
    rw [hlen10] at g1
    rw [hrel, show 12 + t.length + zs.length + 10 = 12 + (t.length + zs.length + 10) by omega]
    exact g1
  obtain ⟨ws, m2, g1, _⟩ := key 0
  obtain ⟨ws', m2', g1', g2, g3, g4⟩ := key ws.length
  rw [g1] at g1'
  injection g1' with e1 e2
  subst e1 e2
  have hwl := hlb on _ _ _ _ g1
  refine ⟨⟨h3, h5, hc, by rw [hcut]; exact nameOk_pname hok, hwf, fun _ => ⟨hpok, fun base m zs m' h => hlb on base m zs m' h⟩⟩, zs ++ (rh10 (K.typ x) x.cls x.ttl ws.length ++ ws), m2, ?_, ?_, ?_, ?_, ?_⟩
  · show recF typ B x on b = _
    simp only [recF, hcut, hp, g1, ht]
    simp [hs.buf, List.append_assoc]
  · have e : t ++ (zs ++ (rh10 (K.typ x) x.cls x.ttl ws.length ++ ws)) = t ++ zs ++ rh10 (K.typ x) x.cls x.ttl ws.length ++ ws := by simp [List.append_assoc]
    refine ⟨rfl, hs.start, fun y hy => by rw [e]; exact g3 y hy, by show 1 ≤ b.sec; omega, ?_⟩
    simp only [List.length_append, rh10_len]
    omega
  · have e : t ++ (zs ++ (rh10 (K.typ x) x.cls x.ttl ws.length ++ ws)) = t ++ zs ++ rh10 (K.typ x) x.cls x.ttl ws.length ++ ws := by simp [List.append_assoc]
    rw [e]
    have hn : 12 + (t ++ zs ++ rh10 (K.typ x) x.cls x.ttl ws.length ++ ws).length - (12 + (t ++ zs).length + 10) = ws.length := by simp only [List.length_append, rh10_len]; omega
    refine ⟨k, ls, w, 12 + (t ++ zs).length, ?_, hname, ?_, Nat.le_refl _, ?_, ?_, ?_⟩
    · have := (hrd.app (rh10 (K.typ x) x.cls x.ttl ws.length)).app ws
      rw [show 12 + (t ++ zs).length = 12 + t.length + zs.length by rw [List.length_append]; omega]
      exact this
    · simp only [List.length_append, rh10_len]
      omega
    · rw [hn]; exact hwl
    · rw [hn, show 12 + (t ++ zs).length - 12 = (t ++ zs).length by omega, List.append_assoc (t ++ zs), List.drop_left' rfl]
      rfl
    · rw [show 12 + (t ++ zs).length + 10 = 12 + (t ++ zs ++ rh10 (K.typ x) x.cls x.ttl ws.length).length by simp only [List.length_append, rh10_len]; omega]
      exact g2
  · simp only [Kind.recWire, List.length_append, rh10_len, be16_len]
    omega
  · simp only [List.length_append, rh10_len]
    omega

/-- what is left of a builder beside its bytes, its table and its counts -/
def Bd.puts (b : Bd) (t : List UInt8) (m : List (List UInt8 × Nat)) (n : Nat) : Bd := { b with buf := zero12 ++ t, m := m, an := if b.sec = 3 then b.an + n else b.an, au := if b.sec = 4 then b.au + n else b.au, ad := if b.sec = 5 then b.ad + n else b.ad }
theorem puts_one (b : Bd) (t t' : List UInt8) (m m' : List (List UInt8 × Nat)) (n : Nat) : (({ b with buf := zero12 ++ t', m := m' } : Bd).incr).puts t m n = b.puts t m (n + 1) := by
  simp only [Bd.puts, Bd.incr]
  by_cases h3 : b.sec = 3
  · simp [h3]; omega
  · by_cases h4 : b.sec = 4
    · simp [h4]; omega
    · by_cases h5 : b.sec = 5
      · simp [h5]; omega
      · simp [h3, h4, h5]

theorem recs_short {K : Kind} {BA : BodyAt} (hg : BA.Grows) (A : Adder) (on : Bool) (ts : List StepD) : ∀ (rs : List RecD) (b : Bd) (t : List UInt8), St b t → (∀ x ∈ rs, RecShort K BA A x) → 3 ≤ b.sec → b.sec ≤ 5 → b.cnt + rs.length ≤ 65535 → t.length + 70000 * rs.length ≤ 100000000000000 →
    ∃ ys m', St (b.puts (t ++ ys) m' rs.length) (t ++ ys) ∧ RecsAt K BA (t ++ ys) (12 + t.length) (12 + (t ++ ys).length) rs ∧ ys.length ≤ ((rs.map K.recWire).flatten).length ∧ ys.length ≤ 70000 * rs.length ∧
      (RunOk A ts on (b.puts (t ++ ys) m' rs.length) → RunOk A (rs.map recStep ++ ts) on b) ∧
      runF A (rs.map recStep ++ ts) on b = ((runF A ts on (b.puts (t ++ ys) m' rs.length)).1, List.replicate rs.length 0 ++ (runF A ts on (b.puts (t ++ ys) m' rs.length)).2)
  | [], b, t, hs, _, _, _, _, _ => by
    have e : b.puts (t ++ []) b.m ([] : List RecD).length = b := by
      simp only [Bd.puts, List.append_nil, ← hs.buf, List.length_nil, Nat.add_zero, ite_self]
    refine ⟨[], b.m, by rw [e]; simpa using hs, by simp [RecsAt], by simp, by simp, ?_, ?_⟩
    · rw [e]; exact fun h => h
    · rw [e]; simp
  | x :: r, b, t, hs, hx, h3, h5, hq, hl => by
    simp only [List.length_cons] at hq hl
    have q1 : b.cnt < 65535 := by omega
    have q2 : t.length + 70000 ≤ 100000000000000 := Nat.le_trans (Nat.add_le_add_left (Nat.le_mul_of_pos_right 70000 (Nat.succ_pos r.length)) t.length) hl
    obtain ⟨aok, ys, m1, e1, s1, a1, l1, l2⟩ := hx x (by simp) on b t hs h3 h5 q1 q2
    have hcnt : (({ b with buf := zero12 ++ (t ++ ys), m := m1 } : Bd).incr).cnt = b.cnt + 1 := by
      simp only [Bd.cnt, Bd.incr]
      rcases (by omega : b.sec = 3 ∨ b.sec = 4 ∨ b.sec = 5) with h | h | h <;> simp [h]
    obtain ⟨zs, m2, s2, a2, l3, l4, h6, h7⟩ := recs_short hg A on ts r _ (t ++ ys) s1 (fun y hy => hx y (by simp [hy])) h3 h5 (by rw [hcnt]; omega) (by rw [List.length_append]; omega)
    rw [puts_one, List.append_assoc] at s2 h6 h7
    rw [List.append_assoc] at a2
    refine ⟨ys ++ zs, m2, s2, ⟨12 + (t ++ ys).length, ?_, a2⟩, ?_, ?_, ?_, ?_⟩
    · rw [← List.append_assoc]
      exact a1.app hg zs
    · simp only [List.length_append, List.map_cons, List.flatten_cons]
      omega
    · simp only [List.length_append, List.length_cons]
      omega
    · intro h
      rw [List.map_cons, List.cons_append, RunOk, step_rec, e1]
      exact ⟨ok_rec A x on b hs.ok aok, h6 h⟩
    · rw [List.map_cons, List.cons_append, runF, step_rec, e1]
      simp only [h7]
      simp [List.replicate_succ]

/-- the three sections of records -/
theorem secs_short {K : Kind} {BA : BodyAt} (hg : BA.Grows) (A : Adder) (on : Bool) (one two three : List RecD) (b : Bd) (t : List UInt8) (hs : St b t) (h2 : b.sec ≤ 3) (hz : b.an = 0 ∧ b.au = 0 ∧ b.ad = 0) (hx : ∀ x ∈ one ++ two ++ three, RecShort K BA A x) (hl : one.length < 60000 ∧ two.length < 60000 ∧ three.length < 60000) (hbig : t.length ≤ 40000000) :
    ∃ ys m' e2 e3, RecsAt K BA (t ++ ys) (12 + t.length) e2 one ∧ RecsAt K BA (t ++ ys) e2 e3 two ∧ RecsAt K BA (t ++ ys) e3 (12 + (t ++ ys).length) three ∧ ys.length ≤ (((one ++ two ++ three).map K.recWire).flatten).length ∧ ys.length ≤ 20000000000 ∧
      RunOk A (secSteps 0 [one, two, three]) on b ∧ runF A (secSteps 0 [one, two, three]) on b = (⟨zero12 ++ (t ++ ys), 0, 5, b.id, b.bits, b.q, one.length, two.length, three.length, m'⟩, List.replicate (secSteps 0 [one, two, three]).length 0) := by
  obtain ⟨buf, start, sec, id, bits, q, an, au, ad, m⟩ := b
  obtain ⟨rfl, rfl, rfl⟩ : an = 0 ∧ au = 0 ∧ ad = 0 := hz
  have hst : start = 0 := hs.start
  subst hst
  have t3 := hs.to 3 (by decide)
  obtain ⟨y1, m1, s1, a1, l1, k1, r1, f1⟩ := recs_short hg A on (mkStep 4 :: (two.map recStep ++ mkStep 5 :: (three.map recStep ++ []))) one _ t t3 (fun x hx' => hx x (by simp [hx'])) (Nat.le_of_ble_eq_true rfl) (Nat.le_of_ble_eq_true rfl) (by show 0 + _ ≤ _; omega) (by omega)
  have t4 := s1.to 4 (by decide)
  obtain ⟨y2, m2, s2, a2, l2, k2, r2, f2⟩ := recs_short hg A on (mkStep 5 :: (three.map recStep ++ [])) two _ (t ++ y1) t4 (fun x hx' => hx x (by simp [hx'])) (by show (3 : Nat) ≤ 4; decide) (by show (4 : Nat) ≤ 5; decide) (by show 0 + _ ≤ _; omega) (by rw [List.length_append]; omega)
  have t5 := s2.to 5 (by decide)
  obtain ⟨y3, m3, s3, a3, l3, k3, r3, f3⟩ := recs_short hg A on [] three _ (t ++ y1 ++ y2) t5 (fun x hx' => hx x (by simp [hx'])) (by show (3 : Nat) ≤ 5; decide) (by show (5 : Nat) ≤ 5; decide) (by show 0 + _ ≤ _; omega) (by rw [List.length_append, List.length_append]; omega)
  have e : t ++ y1 ++ y2 ++ y3 = t ++ (y1 ++ y2 ++ y3) := by simp [List.append_assoc]
  have hsteps : secSteps 0 [one, two, three] = mkStep 3 :: (one.map recStep ++ mkStep 4 :: (two.map recStep ++ mkStep 5 :: (three.map recStep ++ []))) := rfl
  refine ⟨y1 ++ y2 ++ y3, m3, 12 + (t ++ y1).length, 12 + (t ++ y1 ++ y2).length, ?_, ?_, ?_, ?_, ?_, ?_, ?_⟩
  · rw [← e]
    exact (a1.app hg y2).app hg y3
  · rw [← e]
    exact a2.app hg y3
  · rw [← e]
    exact a3
  · simp only [List.length_append, List.map_append, List.flatten_append]
    omega
  · simp only [List.length_append]
    omega
  · rw [hsteps]
    refine ⟨ok_mk A 3 on _ hs.ok h2 (by decide), r1 ?_⟩
    refine ⟨ok_mk A 4 on _ s1.ok (by show (3 : Nat) ≤ 4; decide) (by decide), r2 ?_⟩
    refine ⟨ok_mk A 5 on _ s2.ok (by show (4 : Nat) ≤ 5; decide) (by decide), r3 ?_⟩
    exact s3.ok
  · rw [hsteps]
    rw [runF, step_mk A 3 on _ (by decide) (by decide)]
    simp only
    rw [f1, runF, step_mk A 4 on _ (by decide) (by decide)]
    simp only
    rw [f2, runF, step_mk A 5 on _ (by decide) (by decide)]
    simp only
    rw [f3]
    simp only [runF, Bd.puts, e, if_true, Nat.zero_add, List.append_nil]
    refine Prod.ext ?_ ?_
    · simp
    · simp only [List.length_cons, List.length_append, List.length_map]
      rw [show one.length + (two.length + (three.length + 1) + 1) + 1 = 1 + (one.length + (1 + (two.length + (1 + three.length)))) by omega]
      simp only [← List.replicate_append_replicate]
      rfl

/-- all steps, with compression from the start on -/
theorem all_short {K : Kind} {BA : BodyAt} (hg : BA.Grows) (A : Adder) (h : Hd) (qs : List AskD) (one two three : List RecD) (hn : ∀ a ∈ qs, nameOk a.name.data.toList = true) (hx : ∀ x ∈ one ++ two ++ three, RecShort K BA A x) (hl : qs.length < 60000 ∧ one.length < 60000 ∧ two.length < 60000 ∧ three.length < 60000) :
    ∃ t m' e1 e2 e3, AsksAt t 12 e1 qs ∧ RecsAt K BA t e1 e2 one ∧ RecsAt K BA t e2 e3 two ∧ RecsAt K BA t e3 (12 + t.length) three ∧ t.length ≤ ((qs.map askWire).flatten).length + (((one ++ two ++ three).map K.recWire).flatten).length ∧ t.length ≤ 30000000000 ∧
      RunOk A (stepsL true qs [one, two, three]) false (newB [] h) ∧ runF A (stepsL true qs [one, two, three]) false (newB [] h) = (⟨zero12 ++ t, 0, 5, h.id, h.bits, qs.length, one.length, two.length, three.length, m'⟩, List.replicate (stepsL true qs [one, two, three]).length 0) := by
  have s0 := St.new h
  have s1 := s0.on
  have s2 := s1.to 2 (by decide)
  obtain ⟨ys, m1, s3, aa, la, ka, ra, fa⟩ := asks_short A true (secSteps 0 [one, two, three]) qs _ [] s2 hn rfl (by show 0 + _ ≤ _; omega) (by simp; omega)
  obtain ⟨zs, m2, e2, e3, r1, r2, r3, lr, kr, rr, fr⟩ := secs_short hg A true one two three _ ([] ++ ys) s3 (by show (2 : Nat) ≤ 3; decide) ⟨rfl, rfl, rfl⟩ hx ⟨hl.2.1, hl.2.2.1, hl.2.2.2⟩ (by simp; omega)
  simp only [List.nil_append] at *
  refine ⟨ys ++ zs, m2, 12 + ys.length, e2, e3, ?_, r1, r2, r3, ?_, ?_, ?_, ?_⟩
  · exact aa.app zs
  · rw [List.length_append]; omega
  · rw [List.length_append]; omega
  · show RunOk A (mkStep 1 :: mkStep 2 :: (qs.map askStep ++ secSteps 0 [one, two, three])) false (newB [] h)
    exact ⟨ok_on A _ _ s0.ok, ok_mk A 2 _ _ s1.ok (Nat.le_of_ble_eq_true rfl) (by decide), ra rr⟩
  · show runF A (mkStep 1 :: mkStep 2 :: (qs.map askStep ++ secSteps 0 [one, two, three])) false (newB [] h) = _
    rw [runF, step_on]
    simp only
    rw [runF, step_mk A 2 true _ (by decide) (by decide)]
    simp only
    rw [fa, fr]
    refine Prod.ext ?_ ?_
    · simp [newB]
    · show 0 :: 0 :: (List.replicate qs.length 0 ++ List.replicate (secSteps 0 [one, two, three]).length 0) = List.replicate (mkStep 1 :: mkStep 2 :: (qs.map askStep ++ secSteps 0 [one, two, three])).length 0
      simp only [List.length_cons, List.length_append, List.length_map, List.replicate_succ, List.replicate_append_replicate]
theorem fin_short (h : Hd) (t : List UInt8) (q a b c : Nat) (m : List (List UInt8 × Nat)) (hq : q < 65536 ∧ a < 65536 ∧ b < 65536 ∧ c < 65536) : (⟨zero12 ++ t, 0, 5, h.id, h.bits, q, a, b, c, m⟩ : Bd).fin = headWire h [q, a, b, c] ++ t := by
  simp [Bd.fin, zero12, hd12, headWire, Nat.mod_eq_of_lt hq.1, Nat.mod_eq_of_lt hq.2.1, Nat.mod_eq_of_lt hq.2.2.1, Nat.mod_eq_of_lt hq.2.2.2]
end Go.Proofs.YtamobccbioafmaaDoor

/-
  Plain laws: bodies that are told by their bytes.
-/
namespace Go.Proofs.YtamobccbioafmaaDoor
open Go
set_option maxRecDepth 100000

/-- a body whose bytes stand as they are -/
def rawBA (W : RecD → List UInt8) : BodyAt := fun t at_ e x => (t.drop (at_ - 12)).take (W x).length = W x ∧ e = at_ + (W x).length
theorem rawBA_grows (W : RecD → List UInt8) : (rawBA W).Grows := fun _ u _ _ _ ⟨h1, h2⟩ => ⟨part_app u h1 rfl, h2⟩
theorem raw_short {K : Kind} {B : BodyPk} {x : RecD} (hB : ∀ base on m, B base on x m = .ok (K.body x) m) : BodyShort K (rawBA K.body) B x := by
  intro on t m hm
  refine ⟨K.body x, m, hB _ _ _, ⟨?_, ?_⟩, fun y hy => (hm y hy).app _, Nat.le_refl _⟩
  · rw [show 12 + t.length - 12 = t.length by omega, List.drop_left' rfl, List.take_length]
  · rw [List.length_append]
    omega
theorem raw_part {hd t W : List UInt8} (hh : hd.length = 12) {at_ : Nat} (h12 : 12 ≤ at_) (h : (t.drop (at_ - 12)).take W.length = W) : ((hd ++ t).drop at_).take W.length = W := by
  rw [msg_drop hh h12]
  exact h
end Go.Proofs.YtamobccbioafmaaDoor

/-
  The law's helper 'shortened', for all kinds.
-/
namespace Go.Proofs.YtamobccbioafmaaDoor
open Go
set_option maxRecDepth 100000
set_option maxHeartbeats 1600000

theorem lower_spec (s : ByteArray) (hs : s.size ≤ 140737488355328) : Spec Tryd.prog 42 [.string s] [] (fun _ => True) (fun x H' => (∃ b, x = .bool b) ∧ H' = []) := by
  refine Spec.of Tryd.func42 rfl Tryd.ntmps42 rfl fun w0 _ => ?_
  refine CodeJ.seq ?_
  refine CodeJ.region ?_
  refine OpsJ.yld rfl rfl rfl (Yld.assign rfl rfl) ?_
  refine OpsJ.nil ?_
  refine ExJ.thenN ?_
  refine CodeJ.seq ?_
  refine CodeJ.seq ?_
  refine CodeJ.region ?_
  refine OpsJ.yld rfl rfl rfl (Yld.move rfl rfl) ?_
  refine OpsJ.yld rfl rfl rfl (Yld.lenString rfl rfl rfl Tryd.underlying9 rfl) ?_
  refine OpsJ.yld rfl rfl rfl (Yld.move rfl rfl) ?_
  refine OpsJ.nil ?_
  refine ExJ.thenN ?_
  refine CodeJ.block ?_
  refine CodeJ.loopP (fun L H m => ∃ k : Nat, k ≤ s.size ∧ L = [(0, .string s), (5, .int .i64 s.size), (6, .int .i64 k)] ∧ H = [] ∧ m = s.size - k) ⟨0, Nat.zero_le _, rfl, rfl, rfl⟩ ⟨rfl, rfl, rfl, trivial⟩ (fun w hI => hI) ?_
  rintro _ _ _ ⟨k, hk, rfl, rfl, rfl⟩
  refine CodeJ.seq ?_
  refine CodeJ.region ?_
  refine OpsJ.yld rfl rfl rfl (Yld.intBin rfl rfl rfl rfl) ?_
  refine OpsJ.nil ?_
  refine ExJ.thenN ?_
  refine CodeJ.seq ?_
  refine CodeJ.condP rfl (fun c7 => ?_) (fun c7 => ?_)
  · have hk' : k < s.size := by omega
    obtain ⟨x, hx⟩ : ∃ x, s.data.toList[k]? = some x := ⟨_, List.getElem?_eq_getElem (by rw [str_len]; exact hk')⟩
    refine CodeJ.skip ?_
    refine ExJ.thenN ?_
    refine CodeJ.seq ?_
    refine CodeJ.block ?_
    refine CodeJ.seq ?_
    refine CodeJ.region ?_
    refine OpsJ.yld rfl rfl rfl (Yld.move rfl rfl) ?_
    refine OpsJ.yld rfl rfl rfl (Yld.assign rfl rfl) ?_
    refine OpsJ.nil ?_
    refine ExJ.thenN ?_
    refine CodeJ.seq ?_
    refine CodeJ.region ?_
    refine OpsJ.yld rfl rfl rfl (Yld.move rfl rfl) ?_
    refine OpsJ.yld rfl rfl rfl (Yld.move rfl rfl) ?_
    refine OpsJ.yld rfl rfl rfl (Yld.index rfl Tryd.underlying9 rfl rfl hx) ?_
    refine OpsJ.yld rfl rfl rfl (Yld.intBin rfl rfl rfl rfl) ?_
    refine OpsJ.yld rfl rfl rfl (Yld.move rfl rfl) ?_
    refine OpsJ.splitP (s := 13) rfl (fun g13 => ?_) (fun g13 => ?_)
    · refine OpsJ.opT rfl rfl rfl ?_
      refine OpJ.yld rfl rfl (Yld.move rfl rfl) ?_
      refine OpsJ.opT rfl rfl rfl ?_
      refine OpJ.yld rfl rfl (Yld.move rfl rfl) ?_
      refine OpsJ.opT rfl rfl rfl ?_
      refine OpJ.yld rfl rfl (Yld.index rfl Tryd.underlying9 rfl rfl hx) ?_
      refine OpsJ.opT rfl rfl rfl ?_
      refine OpJ.yld rfl rfl (Yld.intBin rfl rfl rfl rfl) ?_
      refine OpsJ.yld rfl rfl rfl (Yld.pickT rfl rfl rfl) ?_
      refine OpsJ.nil ?_
      refine ExJ.thenN ?_
      refine CodeJ.condP rfl (fun c18 => ?_) (fun c18 => ?_)
      · refine CodeJ.seq ?_
        refine CodeJ.region ?_
        refine OpsJ.yld rfl rfl rfl (Yld.assign rfl rfl) ?_
        refine OpsJ.nil ?_
        refine ExJ.thenN ?_
        refine CodeJ.ret ?_
        refine ExJ.blockR ?_
        refine ExJ.thenR ?_
        refine ExJ.thenR ?_
        refine ExJ.blockR ?_
        refine ExJ.thenR ?_
        exact ExJ.ret1 Tryd.results42 rfl ⟨⟨_, rfl⟩, rfl⟩ fun w hI => hI
      · refine CodeJ.skip ?_
        refine ExJ.blockN ?_
        refine ExJ.thenN ?_
        refine CodeJ.region ?_
        refine OpsJ.yld rfl rfl rfl (Yld.intBin rfl rfl rfl rfl) ?_
        rw [i64_succ k (by omega)]
        refine OpsJ.yld rfl rfl rfl (Yld.move rfl rfl) ?_
        refine OpsJ.nil ?_
        exact ExJ.againP ⟨k + 1, by omega, rfl, rfl, rfl⟩ (by omega) ⟨rfl, rfl, rfl, trivial⟩ fun w hI => hI
    · refine OpsJ.opF rfl rfl rfl rfl rfl rfl ?_
      refine OpsJ.opF rfl rfl rfl rfl rfl rfl ?_
      refine OpsJ.opF rfl rfl rfl rfl rfl rfl ?_
      refine OpsJ.opF rfl rfl rfl rfl rfl rfl ?_
      refine OpsJ.yld rfl rfl rfl (Yld.pickF rfl rfl rfl) ?_
      refine OpsJ.nil ?_
      refine ExJ.thenN ?_
      refine CodeJ.condF rfl ?_
      refine CodeJ.skip ?_
      refine ExJ.blockN ?_
      refine ExJ.thenN ?_
      refine CodeJ.region ?_
      refine OpsJ.yld rfl rfl rfl (Yld.intBin rfl rfl rfl rfl) ?_
      rw [i64_succ k (by omega)]
      refine OpsJ.yld rfl rfl rfl (Yld.move rfl rfl) ?_
      refine OpsJ.nil ?_
      exact ExJ.againP ⟨k + 1, by omega, rfl, rfl, rfl⟩ (by omega) ⟨rfl, rfl, rfl, trivial⟩ fun w hI => hI
  · refine CodeJ.exit ?_
    refine ExJ.thenX ?_
    refine ExJ.thenX ?_
    refine ExJ.blockHit ?_
    refine ExJ.thenN ?_
    refine CodeJ.seq ?_
    refine CodeJ.region ?_
    refine OpsJ.yld rfl rfl rfl (Yld.assign rfl rfl) ?_
    refine OpsJ.nil ?_
    refine ExJ.thenN ?_
    refine CodeJ.ret ?_
    exact ExJ.ret1 Tryd.results42 rfl ⟨⟨_, rfl⟩, rfl⟩ fun w hI => hI

/-- what is asked of a message's texts -/
structure MsgTexts (m : MsgD) : Prop where
  ask : ∀ a ∈ m.asks, a.name.size ≤ 140737488355328
  rec_ : ∀ r ∈ m.one ++ m.two ++ m.three, r.name.size ≤ 140737488355328 ∧ r.host.size ≤ 140737488355328 ∧ r.box.size ≤ 140737488355328 ∧ r.typ < 65536
  len : m.asks.length + m.one.length + m.two.length + m.three.length ≤ 17592186044416

theorem small_spec (m : MsgD) (hm0 : MsgTexts m) : Spec Tryd.prog 22 [m.val] [] (fun w => MsgOk w m) (fun x H' => (∃ b, x = .bool b) ∧ H' = []) := by
  refine Spec.of Tryd.func22 rfl Tryd.ntmps22 rfl fun w0 hm => ?_
  obtain ⟨hn, hr, hc⟩ := hm0
  obtain ⟨pa, ca, hva⟩ := hm.asks.shape
  obtain ⟨p1, c1, hv1⟩ := hm.one.1.shape
  obtain ⟨p2, c2, hv2⟩ := hm.two.1.shape
  obtain ⟨p3, c3, hv3⟩ := hm.three.1.shape
  obtain ⟨hd, asksV, qs, oneV, one, twoV, two, threeV, three⟩ := m
  simp only at hva hv1 hv2 hv3 hn hr hc
  subst hva hv1 hv2 hv3
  have hma : Asks w0 (.slice pa qs.length ca) qs := hm.asks
  have hrecsAt : ∀ (k : Nat) (v : Value) (l : List RecD), [Value.slice p1 one.length c1, .slice p2 two.length c2, .slice p3 three.length c3][k]? = some v → [one, two, three][k]? = some l → Recs w0 v l ∧ ∃ p c, v = .slice p l.length c := by
    intro k v l h1 h2
    match k with
    | 0 => simp at h1 h2; subst h1 h2; exact ⟨hm.one, _, _, rfl⟩
    | 1 => simp at h1 h2; subst h1 h2; exact ⟨hm.two, _, _, rfl⟩
    | 2 => simp at h1 h2; subst h1 h2; exact ⟨hm.three, _, _, rfl⟩
    | k + 3 => simp at h1
  have hsub : ∀ (k : Nat) (l : List RecD), [one, two, three][k]? = some l → ∀ r ∈ l, r ∈ one ++ two ++ three := by
    intro k l h2 r hr
    match k with
    | 0 => simp at h2; subst h2; simp [hr]
    | 1 => simp at h2; subst h2; simp [hr]
    | 2 => simp at h2; subst h2; simp [hr]
    | k + 3 => simp at h2
  refine CodeJ.seq ?_
  refine CodeJ.region ?_
  refine OpsJ.op rfl ?_
  refine OpJ.box rfl rfl rfl rfl fun mb hmb => ?_
  refine OpsJ.yld rfl rfl rfl (Yld.assign rfl rfl) ?_
  refine OpsJ.nil ?_
  refine ExJ.thenN ?_
  refine CodeJ.seq ?_
  refine CodeJ.seq ?_
  refine CodeJ.region ?_
  refine OpsJ.yld rfl rfl rfl (Yld.fieldAddr fa_40_1 rfl rfl) ?_
  refine OpsJ.yld rfl rfl rfl (Yld.load1 rfl Tryd.underlying37 rfl rfl (fun w hI => Inv.cell1 hI (i := 0) rfl rfl)) ?_
  refine OpsJ.yld rfl rfl rfl (Yld.lenSlice rfl rfl rfl Tryd.underlying37 rfl) ?_
  refine OpsJ.yld rfl rfl rfl (Yld.move rfl rfl) ?_
  refine OpsJ.nil ?_
  refine ExJ.thenN ?_
  refine CodeJ.block ?_
  refine CodeJ.loopP (fun L H m => ∃ k : Nat, k ≤ qs.length ∧ L = [(1, .pointer (some ⟨mb, 0, none⟩)), (10, .slice pa qs.length ca), (11, .int .i64 qs.length), (12, .int .i64 k)] ∧ H = [.blk mb (MsgD.cells ⟨hd, .slice pa qs.length ca, qs, .slice p1 one.length c1, one, .slice p2 two.length c2, two, .slice p3 three.length c3, three⟩).toArray 40] ∧ m = qs.length - k) ⟨0, Nat.zero_le _, rfl, rfl, rfl⟩ ⟨rfl, rfl, rfl, rfl, trivial⟩ (fun w hI => hI) ?_
  rintro _ _ _ ⟨k, hk, rfl, rfl, rfl⟩
  refine CodeJ.seq ?_
  refine CodeJ.region ?_
  refine OpsJ.yld rfl rfl rfl (Yld.intBin rfl rfl rfl rfl) ?_
  refine OpsJ.nil ?_
  refine ExJ.thenN ?_
  refine CodeJ.seq ?_
  refine CodeJ.condP rfl (fun c13 => ?_) (fun c13 => ?_)
  · have hk' : k < qs.length := by omega
    obtain ⟨x, hx⟩ : ∃ x, qs[k]? = some x := ⟨qs[k], List.getElem?_eq_getElem hk'⟩
    obtain ⟨b, off, c, hpv, hcell⟩ := Row.at hma (by simp [AskD.cells]) (by simp) hk'
    simp only [Value.slice.injEq] at hpv
    obtain ⟨rfl, _, rfl⟩ := hpv
    have hcx := hcell x.cells (by simp [hx])
    refine CodeJ.skip ?_
    refine ExJ.thenN ?_
    refine CodeJ.seq ?_
    refine CodeJ.block ?_
    refine CodeJ.seq ?_
    refine CodeJ.region ?_
    refine OpsJ.yld rfl rfl rfl (Yld.indexAddr rfl Tryd.underlying37 sz_82 rfl rfl hk') ?_
    refine OpsJ.yld rfl rfl rfl (Yld.loadN (vs := x.cells) rfl Tryd.underlying82 rfl sz_82 rfl (fun w hI => hI.old hcx (by simp [fp]))) ?_
    refine OpsJ.op rfl ?_
    refine OpJ.alloc rfl rfl rfl zero_82 fun ab hab => ?_
    refine OpsJ.op rfl ?_
    refine OpJ.storeW (i := 0) rfl rfl rfl rfl sz_82 rfl rfl rfl ?_
    refine OpsJ.nil ?_
    refine ExJ.thenN ?_
    refine CodeJ.seq ?_
    refine CodeJ.region ?_
    refine OpsJ.yld rfl rfl rfl (Yld.fieldAddr fa_82_0 rfl rfl) ?_
    refine OpsJ.yld rfl rfl rfl (Yld.load1 rfl Tryd.underlying9 rfl rfl (fun w hI => Inv.cell1 hI (i := 0) rfl rfl)) ?_
    refine OpsJ.op rfl ?_
    refine OpJ.call (lower_spec x.name (hn x (List.mem_of_getElem? hx))) has_42 rfl rfl rfl rfl rfl [] [0, 1] (by decide) rfl rfl (fun _ _ => trivial) ?_
    rintro _ _ ⟨⟨b18, rfl⟩, rfl⟩
    refine OpsJ.yld rfl rfl rfl (Yld.not rfl rfl) ?_
    refine OpsJ.nil ?_
    refine ExJ.thenN ?_
    refine CodeJ.cond rfl (fun c19 => ?_) (fun c19 => ?_)
    · refine CodeJ.seq ?_
      refine CodeJ.region ?_
      refine OpsJ.yld rfl rfl rfl (Yld.assign rfl rfl) ?_
      refine OpsJ.nil ?_
      refine ExJ.thenN ?_
      refine CodeJ.ret ?_
      refine ExJ.blockR ?_
      refine ExJ.thenR ?_
      refine ExJ.thenR ?_
      refine ExJ.blockR ?_
      refine ExJ.thenR ?_
      exact ExJ.ret1 Tryd.results22 rfl ⟨⟨_, rfl⟩, rfl⟩ fun w hI => hI.pick (is := []) (by decide) rfl
    · refine CodeJ.skip ?_
      refine ExJ.blockN ?_
      refine ExJ.thenN ?_
      refine CodeJ.region ?_
      refine OpsJ.yld rfl rfl rfl (Yld.intBin rfl rfl rfl rfl) ?_
      rw [i64_succ k (by omega)]
      refine OpsJ.yld rfl rfl rfl (Yld.move rfl rfl) ?_
      refine OpsJ.nil ?_
      exact ExJ.againP ⟨k + 1, by omega, rfl, rfl, rfl⟩ (by omega) ⟨rfl, rfl, rfl, rfl, trivial⟩ fun w hI => hI.pick (is := [1]) (by decide) rfl
  · refine CodeJ.exit ?_
    refine ExJ.thenX ?_
    refine ExJ.thenX ?_
    refine ExJ.blockHit ?_
    refine ExJ.thenN ?_
    refine CodeJ.seq ?_
    refine CodeJ.seq ?_
    refine CodeJ.region ?_
    refine OpsJ.yld rfl rfl rfl (Yld.fieldAddr fa_40_2 rfl rfl) ?_
    refine OpsJ.yld rfl rfl rfl (Yld.load1 rfl Tryd.underlying38 rfl rfl (fun w hI => Inv.cell1 hI (i := 0) rfl rfl)) ?_
    refine OpsJ.yld rfl rfl rfl (Yld.fieldAddr fa_40_3 rfl rfl) ?_
    refine OpsJ.yld rfl rfl rfl (Yld.load1 rfl Tryd.underlying38 rfl rfl (fun w hI => Inv.cell1 hI (i := 0) rfl rfl)) ?_
    refine OpsJ.yld rfl rfl rfl (Yld.fieldAddr fa_40_4 rfl rfl) ?_
    refine OpsJ.yld rfl rfl rfl (Yld.load1 rfl Tryd.underlying38 rfl rfl (fun w hI => Inv.cell1 hI (i := 0) rfl rfl)) ?_
    refine OpsJ.op rfl ?_
    refine OpJ.buildSlice (xs := [.tmp 22, .tmp 24, .tmp 26]) elt_83 rfl rfl rfl rfl rfl rfl (by rfl) (by decide) fun lists hlists => ?_
    refine OpsJ.yld rfl rfl rfl (Yld.lenSlice rfl rfl rfl Tryd.underlying83 rfl) ?_
    refine OpsJ.yld rfl rfl rfl (Yld.move rfl rfl) ?_
    refine OpsJ.nil ?_
    refine ExJ.thenN ?_
    refine CodeJ.block ?_
    refine CodeJ.loopP (fun L H m => ∃ k : Nat, k ≤ 3 ∧ L = [(27, .slice (some ⟨lists, 0, none⟩) 3 3), (28, .int .i64 3), (29, .int .i64 k)] ∧
    H = [own 38 1 (.slice (some ⟨lists, 0, none⟩) 3 3) 3 [.slice p1 one.length c1, .slice p2 two.length c2, .slice p3 three.length c3]] ∧ m = 3 - k) ⟨0, by omega, rfl, rfl, rfl⟩ ⟨rfl, rfl, rfl, trivial⟩ (fun w hI => hI.pick (is := [0]) (by decide) rfl) ?_
    rintro _ _ _ ⟨k2, hk2, rfl, rfl, rfl⟩
    refine CodeJ.seq ?_
    refine CodeJ.region ?_
    refine OpsJ.yld rfl rfl rfl (Yld.intBin rfl rfl rfl rfl) ?_
    refine OpsJ.nil ?_
    refine ExJ.thenN ?_
    refine CodeJ.seq ?_
    refine CodeJ.condP rfl (fun c30 => ?_) (fun c30 => ?_)
    · have hk3 : k2 < 3 := by omega
      obtain ⟨l, hl⟩ : ∃ l, [one, two, three][k2]? = some l := ⟨[one, two, three][k2], List.getElem?_eq_getElem (by simpa using hk3)⟩
      obtain ⟨v, hv⟩ : ∃ v, [Value.slice p1 one.length c1, .slice p2 two.length c2, .slice p3 three.length c3][k2]? = some v := ⟨_, List.getElem?_eq_getElem (by simpa using hk3)⟩
      obtain ⟨hrecs, pl, cl, rfl⟩ := hrecsAt k2 v l hv hl
      have hmem := hsub k2 l hl
      have hll : l.length ≤ 17592186044416 := by
        match k2 with
        | 0 => simp at hl; subst hl; omega
        | 1 => simp at hl; subst hl; omega
        | 2 => simp at hl; subst hl; omega
        | k + 3 => simp at hl
      refine CodeJ.skip ?_
      refine ExJ.thenN ?_
      refine CodeJ.seq ?_
      refine CodeJ.block ?_
      refine CodeJ.seq ?_
      refine CodeJ.region ?_
      refine OpsJ.yld rfl rfl rfl (Yld.indexAddr rfl Tryd.underlying83 sz_38 rfl rfl hk3) ?_
      refine OpsJ.yld rfl rfl rfl (Yld.load1 rfl Tryd.underlying38 rfl rfl (fun w hI => (Own.cells (hI.hs _ (List.mem_of_getElem? (i := 0) rfl)).1 _ _ _ _ rfl).2.2.one hv)) ?_
      refine OpsJ.yld rfl rfl rfl (Yld.assign rfl rfl) ?_
      refine OpsJ.nil ?_
      refine ExJ.thenN ?_
      refine CodeJ.seq ?_
      refine CodeJ.region ?_
      refine OpsJ.yld rfl rfl rfl (Yld.move rfl rfl) ?_
      refine OpsJ.yld rfl rfl rfl (Yld.lenSlice rfl rfl rfl Tryd.underlying38 rfl) ?_
      refine OpsJ.yld rfl rfl rfl (Yld.move rfl rfl) ?_
      refine OpsJ.nil ?_
      refine ExJ.thenN ?_
      refine CodeJ.block ?_
      refine CodeJ.loopP (fun L H m => ∃ j : Nat, j ≤ l.length ∧ L = [(27, .slice (some ⟨lists, 0, none⟩) 3 3), (28, .int .i64 3), (29, .int .i64 k2), (33, .slice pl l.length cl), (34, .int .i64 l.length), (35, .int .i64 j)] ∧
      H = [own 38 1 (.slice (some ⟨lists, 0, none⟩) 3 3) 3 [.slice p1 one.length c1, .slice p2 two.length c2, .slice p3 three.length c3]] ∧ m = l.length - j) ⟨0, by omega, rfl, rfl, rfl⟩ ⟨rfl, rfl, rfl, rfl, rfl, rfl, trivial⟩ (fun w hI => hI) ?_
      rintro _ _ _ ⟨j, hj, rfl, rfl, rfl⟩
      refine CodeJ.seq ?_
      refine CodeJ.region ?_
      refine OpsJ.yld rfl rfl rfl (Yld.intBin rfl rfl rfl rfl) ?_
      refine OpsJ.nil ?_
      refine ExJ.thenN ?_
      refine CodeJ.seq ?_
      refine CodeJ.condP rfl (fun c36 => ?_) (fun c36 => ?_)
      · have hj' : j < l.length := by omega
        obtain ⟨x, hx⟩ : ∃ x, l[j]? = some x := ⟨l[j], List.getElem?_eq_getElem hj'⟩
        have hxm : x ∈ l := List.mem_of_getElem? hx
        obtain ⟨b, off, c, hpv, hcell⟩ := Row.at hrecs.1 (by simp [RecD.cells]) (by simp) hj'
        simp only [Value.slice.injEq] at hpv
        obtain ⟨rfl, _, rfl⟩ := hpv
        have hcx := hcell x.cells (by simp [hx])
        have hxok := hrecs.2 x hxm
        obtain ⟨x1, x2, x3, _⟩ := hr x (hmem x hxm)
        refine CodeJ.skip ?_
        refine ExJ.thenN ?_
        refine CodeJ.seq ?_
        refine CodeJ.block ?_
        refine CodeJ.seq ?_
        refine CodeJ.region ?_
        refine OpsJ.yld rfl rfl rfl (Yld.indexAddr rfl Tryd.underlying38 sz_86 rfl rfl hj') ?_
        refine OpsJ.yld rfl rfl rfl (Yld.loadN (vs := x.cells) rfl Tryd.underlying86 rfl sz_86 rfl (fun w hI => hI.old hcx (by simp [fp]))) ?_
        refine OpsJ.op rfl ?_
        refine OpJ.alloc rfl rfl rfl zero_86 fun rb hrb => ?_
        refine OpsJ.op rfl ?_
        refine OpJ.storeW (i := 0) rfl rfl rfl rfl sz_86 rfl hxok.one rfl ?_
        refine OpsJ.nil ?_
        refine ExJ.thenN ?_
        refine CodeJ.seq ?_
        refine CodeJ.region ?_
        refine OpsJ.yld rfl rfl rfl (Yld.fieldAddr fa_86_0 rfl rfl) ?_
        refine OpsJ.yld rfl rfl rfl (Yld.load1 rfl Tryd.underlying9 rfl rfl (fun w hI => Inv.cell1 hI (i := 0) rfl rfl)) ?_
        refine OpsJ.op rfl ?_
        refine OpJ.call (lower_spec x.name x1) has_42 rfl rfl rfl rfl rfl [] [0, 1] (by decide) rfl rfl (fun _ _ => trivial) ?_
        rintro _ _ ⟨⟨b41, rfl⟩, rfl⟩
        refine OpsJ.yld rfl rfl rfl (Yld.not rfl rfl) ?_
        refine OpsJ.yld rfl rfl rfl (Yld.move rfl rfl) ?_
        refine OpsJ.splitB (s := 43) rfl (fun g43 => ?_) (fun g43 => ?_)
        · refine OpsJ.opF rfl rfl rfl rfl rfl rfl ?_
          refine OpsJ.opF rfl rfl rfl rfl rfl rfl ?_
          refine OpsJ.opF rfl rfl rfl rfl rfl rfl ?_
          refine OpsJ.opF rfl rfl rfl rfl rfl rfl ?_
          refine OpsJ.yld rfl rfl rfl (Yld.pickT rfl rfl rfl) ?_
          refine OpsJ.yld rfl rfl rfl (Yld.move rfl rfl) ?_
          refine OpsJ.opF rfl rfl rfl rfl rfl rfl ?_
          refine OpsJ.opF rfl rfl rfl rfl rfl rfl ?_
          refine OpsJ.opF rfl rfl rfl rfl rfl rfl ?_
          refine OpsJ.opF rfl rfl rfl rfl rfl rfl ?_
          refine OpsJ.yld rfl rfl rfl (Yld.pickT rfl rfl rfl) ?_
          refine OpsJ.nil ?_
          refine ExJ.thenN ?_
          refine CodeJ.condT rfl ?_
          refine CodeJ.seq ?_
          refine CodeJ.region ?_
          refine OpsJ.yld rfl rfl rfl (Yld.assign rfl rfl) ?_
          refine OpsJ.nil ?_
          refine ExJ.thenN ?_
          refine CodeJ.ret ?_
          refine ExJ.blockR ?_
          refine ExJ.thenR ?_
          refine ExJ.thenR ?_
          refine ExJ.blockR ?_
          refine ExJ.blockR ?_
          refine ExJ.thenR ?_
          refine ExJ.thenR ?_
          refine ExJ.blockR ?_
          refine ExJ.thenR ?_
          exact ExJ.ret1 Tryd.results22 rfl ⟨⟨_, rfl⟩, rfl⟩ fun w hI => hI.pick (is := []) (by decide) rfl
        · refine OpsJ.opT rfl rfl rfl ?_
          refine OpJ.yld rfl rfl (Yld.fieldAddr fa_86_7 rfl rfl) ?_
          refine OpsJ.opT rfl rfl rfl ?_
          refine OpJ.yld rfl rfl (Yld.load1 rfl Tryd.underlying9 rfl rfl (fun w hI => Inv.cell1 hI (i := 0) rfl rfl)) ?_
          refine OpsJ.opT rfl rfl rfl ?_
          refine OpJ.call (lower_spec x.host x2) has_42 rfl rfl rfl rfl rfl [] [0, 1] (by decide) rfl rfl (fun _ _ => trivial) ?_
          rintro _ _ ⟨⟨b46, rfl⟩, rfl⟩
          refine OpsJ.opT rfl rfl rfl ?_
          refine OpJ.yld rfl rfl (Yld.not rfl rfl) ?_
          refine OpsJ.yld rfl rfl rfl (Yld.pickF rfl rfl rfl) ?_
          refine OpsJ.yld rfl rfl rfl (Yld.move rfl rfl) ?_
          refine OpsJ.splitB (s := 49) rfl (fun g49 => ?_) (fun g49 => ?_)
          · refine OpsJ.opF rfl rfl rfl rfl rfl rfl ?_
            refine OpsJ.opF rfl rfl rfl rfl rfl rfl ?_
            refine OpsJ.opF rfl rfl rfl rfl rfl rfl ?_
            refine OpsJ.opF rfl rfl rfl rfl rfl rfl ?_
            refine OpsJ.yld rfl rfl rfl (Yld.pickT rfl rfl rfl) ?_
            refine OpsJ.nil ?_
            refine ExJ.thenN ?_
            refine CodeJ.condT rfl ?_
            refine CodeJ.seq ?_
            refine CodeJ.region ?_
            refine OpsJ.yld rfl rfl rfl (Yld.assign rfl rfl) ?_
            refine OpsJ.nil ?_
            refine ExJ.thenN ?_
            refine CodeJ.ret ?_
            refine ExJ.blockR ?_
            refine ExJ.thenR ?_
            refine ExJ.thenR ?_
            refine ExJ.blockR ?_
            refine ExJ.blockR ?_
            refine ExJ.thenR ?_
            refine ExJ.thenR ?_
            refine ExJ.blockR ?_
            refine ExJ.thenR ?_
            exact ExJ.ret1 Tryd.results22 rfl ⟨⟨_, rfl⟩, rfl⟩ fun w hI => hI.pick (is := []) (by decide) rfl
          · refine OpsJ.opT rfl rfl rfl ?_
            refine OpJ.yld rfl rfl (Yld.fieldAddr fa_86_8 rfl rfl) ?_
            refine OpsJ.opT rfl rfl rfl ?_
            refine OpJ.yld rfl rfl (Yld.load1 rfl Tryd.underlying9 rfl rfl (fun w hI => Inv.cell1 hI (i := 0) rfl rfl)) ?_
            refine OpsJ.opT rfl rfl rfl ?_
            refine OpJ.call (lower_spec x.box x3) has_42 rfl rfl rfl rfl rfl [] [0, 1] (by decide) rfl rfl (fun _ _ => trivial) ?_
            rintro _ _ ⟨⟨b52, rfl⟩, rfl⟩
            refine OpsJ.opT rfl rfl rfl ?_
            refine OpJ.yld rfl rfl (Yld.not rfl rfl) ?_
            refine OpsJ.yld rfl rfl rfl (Yld.pickF rfl rfl rfl) ?_
            refine OpsJ.nil ?_
            refine ExJ.thenN ?_
            refine CodeJ.cond rfl (fun c54 => ?_) (fun c54 => ?_)
            · refine CodeJ.seq ?_
              refine CodeJ.region ?_
              refine OpsJ.yld rfl rfl rfl (Yld.assign rfl rfl) ?_
              refine OpsJ.nil ?_
              refine ExJ.thenN ?_
              refine CodeJ.ret ?_
              refine ExJ.blockR ?_
              refine ExJ.thenR ?_
              refine ExJ.thenR ?_
              refine ExJ.blockR ?_
              refine ExJ.blockR ?_
              refine ExJ.thenR ?_
              refine ExJ.thenR ?_
              refine ExJ.blockR ?_
              refine ExJ.thenR ?_
              exact ExJ.ret1 Tryd.results22 rfl ⟨⟨_, rfl⟩, rfl⟩ fun w hI => hI.pick (is := []) (by decide) rfl
            · refine CodeJ.skip ?_
              refine ExJ.blockN ?_
              refine ExJ.thenN ?_
              refine CodeJ.region ?_
              refine OpsJ.yld rfl rfl rfl (Yld.intBin rfl rfl rfl rfl) ?_
              rw [i64_succ j (by omega)]
              refine OpsJ.yld rfl rfl rfl (Yld.move rfl rfl) ?_
              refine OpsJ.nil ?_
              exact ExJ.againP ⟨j + 1, by omega, rfl, rfl, rfl⟩ (by omega) ⟨rfl, rfl, rfl, rfl, rfl, rfl, trivial⟩ fun w hI => hI.pick (is := [1]) (by decide) rfl
      · refine CodeJ.exit ?_
        refine ExJ.thenX ?_
        refine ExJ.thenX ?_
        refine ExJ.blockHit ?_
        refine ExJ.blockN ?_
        refine ExJ.thenN ?_
        refine CodeJ.region ?_
        refine OpsJ.yld rfl rfl rfl (Yld.intBin rfl rfl rfl rfl) ?_
        rw [i64_succ k2 (by omega)]
        refine OpsJ.yld rfl rfl rfl (Yld.move rfl rfl) ?_
        refine OpsJ.nil ?_
        exact ExJ.againP ⟨k2 + 1, by omega, rfl, rfl, rfl⟩ (by omega) ⟨rfl, rfl, rfl, trivial⟩ fun w hI => hI
    · refine CodeJ.exit ?_
      refine ExJ.thenX ?_
      refine ExJ.thenX ?_
      refine ExJ.blockHit ?_
      refine ExJ.thenN ?_
      refine CodeJ.seq ?_
      refine CodeJ.region ?_
      refine OpsJ.yld rfl rfl rfl (Yld.assign rfl rfl) ?_
      refine OpsJ.nil ?_
      refine ExJ.thenN ?_
      refine CodeJ.ret ?_
      exact ExJ.ret1 Tryd.results22 rfl ⟨⟨_, rfl⟩, rfl⟩ fun w hI => hI.pick (is := []) (by decide) rfl

theorem plainly_spec (m : MsgD) (hm0 : MsgTexts m) : Spec Tryd.prog 24 [m.val] [] (fun w => MsgOk w m) (fun x H' => (∃ b, x = .bool b ∧ (b = true → ∀ r ∈ m.one ++ m.two ++ m.three, r.kind = 13 → kindN r.typ = 13)) ∧ H' = []) := by
  refine Spec.of Tryd.func24 rfl Tryd.ntmps24 rfl fun w0 hm => ?_
  obtain ⟨hn, hr, hc⟩ := hm0
  obtain ⟨p1, c1, hv1⟩ := hm.one.1.shape
  obtain ⟨p2, c2, hv2⟩ := hm.two.1.shape
  obtain ⟨p3, c3, hv3⟩ := hm.three.1.shape
  obtain ⟨hd, asksV, qs, oneV, one, twoV, two, threeV, three⟩ := m
  simp only at hv1 hv2 hv3 hr hc
  subst hv1 hv2 hv3
  have hrecsAt : ∀ (k : Nat) (v : Value) (l : List RecD), [Value.slice p1 one.length c1, .slice p2 two.length c2, .slice p3 three.length c3][k]? = some v → [one, two, three][k]? = some l → Recs w0 v l ∧ ∃ p c, v = .slice p l.length c := by
    intro k v l h1 h2
    match k with
    | 0 => simp at h1 h2; subst h1 h2; exact ⟨hm.one, _, _, rfl⟩
    | 1 => simp at h1 h2; subst h1 h2; exact ⟨hm.two, _, _, rfl⟩
    | 2 => simp at h1 h2; subst h1 h2; exact ⟨hm.three, _, _, rfl⟩
    | k + 3 => simp at h1
  refine CodeJ.seq ?_
  refine CodeJ.region ?_
  refine OpsJ.op rfl ?_
  refine OpJ.box rfl rfl rfl rfl fun mb hmb => ?_
  refine OpsJ.yld rfl rfl rfl (Yld.assign rfl rfl) ?_
  refine OpsJ.nil ?_
  refine ExJ.thenN ?_
  refine CodeJ.seq ?_
  refine CodeJ.seq ?_
  refine CodeJ.region ?_
  refine OpsJ.yld rfl rfl rfl (Yld.fieldAddr fa_40_2 rfl rfl) ?_
  refine OpsJ.yld rfl rfl rfl (Yld.load1 rfl Tryd.underlying38 rfl rfl (fun w hI => Inv.cell1 hI (i := 0) rfl rfl)) ?_
  refine OpsJ.yld rfl rfl rfl (Yld.fieldAddr fa_40_3 rfl rfl) ?_
  refine OpsJ.yld rfl rfl rfl (Yld.load1 rfl Tryd.underlying38 rfl rfl (fun w hI => Inv.cell1 hI (i := 0) rfl rfl)) ?_
  refine OpsJ.yld rfl rfl rfl (Yld.fieldAddr fa_40_4 rfl rfl) ?_
  refine OpsJ.yld rfl rfl rfl (Yld.load1 rfl Tryd.underlying38 rfl rfl (fun w hI => Inv.cell1 hI (i := 0) rfl rfl)) ?_
  refine OpsJ.op rfl ?_
  refine OpJ.buildSlice (xs := [.tmp 8, .tmp 10, .tmp 12]) elt_83 rfl rfl rfl rfl rfl rfl (by rfl) (by decide) fun lists hlists => ?_
  refine OpsJ.yld rfl rfl rfl (Yld.lenSlice rfl rfl rfl Tryd.underlying83 rfl) ?_
  refine OpsJ.yld rfl rfl rfl (Yld.move rfl rfl) ?_
  refine OpsJ.nil ?_
  refine ExJ.thenN ?_
  refine CodeJ.block ?_
  refine CodeJ.loopP (fun L H m => ∃ k : Nat, k ≤ 3 ∧ (∀ r ∈ ([one, two, three].take k).flatten, r.kind = 13 → kindN r.typ = 13) ∧ L = [(13, .slice (some ⟨lists, 0, none⟩) 3 3), (14, .int .i64 3), (15, .int .i64 k)] ∧
  H = [own 38 1 (.slice (some ⟨lists, 0, none⟩) 3 3) 3 [.slice p1 one.length c1, .slice p2 two.length c2, .slice p3 three.length c3]] ∧ m = 3 - k) ⟨0, by omega, fun r hr => (by cases hr), rfl, rfl, rfl⟩ ⟨rfl, rfl, rfl, trivial⟩ (fun w hI => hI.pick (is := [0]) (by decide) rfl) ?_
  rintro _ _ _ ⟨k2, hk2, hall, rfl, rfl, rfl⟩
  refine CodeJ.seq ?_
  refine CodeJ.region ?_
  refine OpsJ.yld rfl rfl rfl (Yld.intBin rfl rfl rfl rfl) ?_
  refine OpsJ.nil ?_
  refine ExJ.thenN ?_
  refine CodeJ.seq ?_
  refine CodeJ.condP rfl (fun c16 => ?_) (fun c16 => ?_)
  · have hk3 : k2 < 3 := by omega
    obtain ⟨l, hl⟩ : ∃ l, [one, two, three][k2]? = some l := ⟨[one, two, three][k2], List.getElem?_eq_getElem (by simpa using hk3)⟩
    obtain ⟨v, hv⟩ : ∃ v, [Value.slice p1 one.length c1, .slice p2 two.length c2, .slice p3 three.length c3][k2]? = some v := ⟨_, List.getElem?_eq_getElem (by simpa using hk3)⟩
    obtain ⟨hrecs, pl, cl, rfl⟩ := hrecsAt k2 v l hv hl
    have hll : l.length ≤ 17592186044416 := by
      match k2 with
      | 0 => simp at hl; subst hl; omega
      | 1 => simp at hl; subst hl; omega
      | 2 => simp at hl; subst hl; omega
      | k + 3 => simp at hl
    have hnxt : ([one, two, three].take (k2 + 1)).flatten = ([one, two, three].take k2).flatten ++ l := by
      rw [take_snoc _ _ _ hl]
      simp
    refine CodeJ.skip ?_
    refine ExJ.thenN ?_
    refine CodeJ.seq ?_
    refine CodeJ.block ?_
    refine CodeJ.seq ?_
    refine CodeJ.region ?_
    refine OpsJ.yld rfl rfl rfl (Yld.indexAddr rfl Tryd.underlying83 sz_38 rfl rfl hk3) ?_
    refine OpsJ.yld rfl rfl rfl (Yld.load1 rfl Tryd.underlying38 rfl rfl (fun w hI => (Own.cells (hI.hs _ (List.mem_of_getElem? (i := 0) rfl)).1 _ _ _ _ rfl).2.2.one hv)) ?_
    refine OpsJ.yld rfl rfl rfl (Yld.assign rfl rfl) ?_
    refine OpsJ.nil ?_
    refine ExJ.thenN ?_
    refine CodeJ.seq ?_
    refine CodeJ.region ?_
    refine OpsJ.yld rfl rfl rfl (Yld.move rfl rfl) ?_
    refine OpsJ.yld rfl rfl rfl (Yld.lenSlice rfl rfl rfl Tryd.underlying38 rfl) ?_
    refine OpsJ.yld rfl rfl rfl (Yld.move rfl rfl) ?_
    refine OpsJ.nil ?_
    refine ExJ.thenN ?_
    refine CodeJ.block ?_
    refine CodeJ.loopP (fun L H m => ∃ j : Nat, j ≤ l.length ∧ (∀ r ∈ l.take j, r.kind = 13 → kindN r.typ = 13) ∧ L = [(13, .slice (some ⟨lists, 0, none⟩) 3 3), (14, .int .i64 3), (15, .int .i64 k2), (19, .slice pl l.length cl), (20, .int .i64 l.length), (21, .int .i64 j)] ∧
    H = [own 38 1 (.slice (some ⟨lists, 0, none⟩) 3 3) 3 [.slice p1 one.length c1, .slice p2 two.length c2, .slice p3 three.length c3]] ∧ m = l.length - j) ⟨0, by omega, fun r hr => (by cases hr), rfl, rfl, rfl⟩ ⟨rfl, rfl, rfl, rfl, rfl, rfl, trivial⟩ (fun w hI => hI) ?_
    rintro _ _ _ ⟨j, hj, hall2, rfl, rfl, rfl⟩
    refine CodeJ.seq ?_
    refine CodeJ.region ?_
    refine OpsJ.yld rfl rfl rfl (Yld.intBin rfl rfl rfl rfl) ?_
    refine OpsJ.nil ?_
    refine ExJ.thenN ?_
    refine CodeJ.seq ?_
    refine CodeJ.condP rfl (fun c22 => ?_) (fun c22 => ?_)
    · have hj' : j < l.length := by omega
      obtain ⟨x, hx⟩ : ∃ x, l[j]? = some x := ⟨l[j], List.getElem?_eq_getElem hj'⟩
      have hxm : x ∈ l := List.mem_of_getElem? hx
      obtain ⟨b, off, c, hpv, hcell⟩ := Row.at hrecs.1 (by simp [RecD.cells]) (by simp) hj'
      simp only [Value.slice.injEq] at hpv
      obtain ⟨rfl, _, rfl⟩ := hpv
      have hcx := hcell x.cells (by simp [hx])
      have hxok := hrecs.2 x hxm
      refine CodeJ.skip ?_
      refine ExJ.thenN ?_
      refine CodeJ.seq ?_
      refine CodeJ.block ?_
      refine CodeJ.seq ?_
      refine CodeJ.region ?_
      refine OpsJ.yld rfl rfl rfl (Yld.indexAddr rfl Tryd.underlying38 sz_86 rfl rfl hj') ?_
      refine OpsJ.yld rfl rfl rfl (Yld.loadN (vs := x.cells) rfl Tryd.underlying86 rfl sz_86 rfl (fun w hI => hI.old hcx (by simp [fp]))) ?_
      refine OpsJ.op rfl ?_
      refine OpJ.alloc rfl rfl rfl zero_86 fun rb hrb => ?_
      refine OpsJ.op rfl ?_
      refine OpJ.storeW (i := 0) rfl rfl rfl rfl sz_86 rfl hxok.one rfl ?_
      refine OpsJ.nil ?_
      refine ExJ.thenN ?_
      refine CodeJ.seq ?_
      refine CodeJ.region ?_
      refine OpsJ.yld rfl rfl rfl (Yld.fieldAddr fa_86_5 rfl rfl) ?_
      refine OpsJ.yld rfl rfl rfl (Yld.load1 rfl Tryd.underlying3 rfl rfl (fun w hI => Inv.cell1 hI (i := 0) rfl rfl)) ?_
      refine OpsJ.yld rfl rfl rfl (Yld.intBin rfl rfl rfl rfl) ?_
      refine OpsJ.yld rfl rfl rfl (Yld.move rfl rfl) ?_
      refine OpsJ.splitB (s := 28) rfl (fun g28 => ?_) (fun g28 => ?_)
      · refine OpsJ.opT rfl rfl rfl ?_
        refine OpJ.yld rfl rfl (Yld.fieldAddr fa_86_1 rfl rfl) ?_
        refine OpsJ.opT rfl rfl rfl ?_
        refine OpJ.yld rfl rfl (Yld.load1 rfl Tryd.underlying22 rfl rfl (fun w hI => Inv.cell1 hI (i := 0) rfl rfl)) ?_
        refine OpsJ.opT rfl rfl rfl ?_
        refine OpJ.call (kindOf_spec x.typ) has_43 rfl rfl rfl rfl rfl [] [0, 1] (by decide) rfl rfl (fun _ _ => trivial) ?_
        rintro _ _ ⟨rfl, rfl⟩
        refine OpsJ.opT rfl rfl rfl ?_
        refine OpJ.yld rfl rfl (Yld.intBin rfl rfl rfl rfl) ?_
        refine OpsJ.yld rfl rfl rfl (Yld.pickT rfl rfl rfl) ?_
        refine OpsJ.nil ?_
        refine ExJ.thenN ?_
        refine CodeJ.cond rfl (fun c33 => ?_) (fun c33 => ?_)
        · refine CodeJ.seq ?_
          refine CodeJ.region ?_
          refine OpsJ.yld rfl rfl rfl (Yld.assign rfl rfl) ?_
          refine OpsJ.nil ?_
          refine ExJ.thenN ?_
          refine CodeJ.ret ?_
          refine ExJ.blockR ?_
          refine ExJ.thenR ?_
          refine ExJ.thenR ?_
          refine ExJ.blockR ?_
          refine ExJ.blockR ?_
          refine ExJ.thenR ?_
          refine ExJ.thenR ?_
          refine ExJ.blockR ?_
          refine ExJ.thenR ?_
          exact ExJ.ret1 Tryd.results24 rfl ⟨⟨false, rfl, fun h => (by cases h)⟩, rfl⟩ fun w hI => hI.pick (is := []) (by decide) rfl
        · have hx13 : x.kind = 13 → kindN x.typ = 13 := fun _ => by
            have : ((kindN x.typ : Nat) : Int) = 13 := by simpa using c33
            omega
          refine CodeJ.skip ?_
          refine ExJ.blockN ?_
          refine ExJ.thenN ?_
          refine CodeJ.region ?_
          refine OpsJ.yld rfl rfl rfl (Yld.intBin rfl rfl rfl rfl) ?_
          rw [i64_succ j (by omega)]
          refine OpsJ.yld rfl rfl rfl (Yld.move rfl rfl) ?_
          refine OpsJ.nil ?_
          exact ExJ.againP ⟨j + 1, by omega, fun r hr hk13 => by rw [take_snoc _ _ _ hx] at hr; rcases List.mem_append.1 hr with h | h; exact hall2 r h hk13; simp at h; subst h; exact hx13 hk13, rfl, rfl, rfl⟩ (by omega) ⟨rfl, rfl, rfl, rfl, rfl, rfl, trivial⟩ fun w hI => hI.pick (is := [1]) (by decide) rfl
      · have hx13 : x.kind = 13 → kindN x.typ = 13 := fun h => by rw [h] at g28; simp at g28
        refine OpsJ.opF rfl rfl rfl rfl rfl rfl ?_
        refine OpsJ.opF rfl rfl rfl rfl rfl rfl ?_
        refine OpsJ.opF rfl rfl rfl rfl rfl rfl ?_
        refine OpsJ.opF rfl rfl rfl rfl rfl rfl ?_
        refine OpsJ.yld rfl rfl rfl (Yld.pickF rfl rfl rfl) ?_
        refine OpsJ.nil ?_
        refine ExJ.thenN ?_
        refine CodeJ.condF rfl ?_
        refine CodeJ.skip ?_
        refine ExJ.blockN ?_
        refine ExJ.thenN ?_
        refine CodeJ.region ?_
        refine OpsJ.yld rfl rfl rfl (Yld.intBin rfl rfl rfl rfl) ?_
        rw [i64_succ j (by omega)]
        refine OpsJ.yld rfl rfl rfl (Yld.move rfl rfl) ?_
        refine OpsJ.nil ?_
        exact ExJ.againP ⟨j + 1, by omega, fun r hr hk13 => by rw [take_snoc _ _ _ hx] at hr; rcases List.mem_append.1 hr with h | h; exact hall2 r h hk13; simp at h; subst h; exact hx13 hk13, rfl, rfl, rfl⟩ (by omega) ⟨rfl, rfl, rfl, rfl, rfl, rfl, trivial⟩ fun w hI => hI.pick (is := [1]) (by decide) rfl
    · obtain rfl : j = l.length := by omega
      rw [List.take_length] at hall2
      have hall4 : ∀ r ∈ ([one, two, three].take (k2 + 1)).flatten, r.kind = 13 → kindN r.typ = 13 := fun r hr h13 => by
        rw [hnxt] at hr
        rcases List.mem_append.1 hr with h | h
        · exact hall r h h13
        · exact hall2 r h h13
      refine CodeJ.exit ?_
      refine ExJ.thenX ?_
      refine ExJ.thenX ?_
      refine ExJ.blockHit ?_
      refine ExJ.blockN ?_
      refine ExJ.thenN ?_
      refine CodeJ.region ?_
      refine OpsJ.yld rfl rfl rfl (Yld.intBin rfl rfl rfl rfl) ?_
      rw [i64_succ k2 (by omega)]
      refine OpsJ.yld rfl rfl rfl (Yld.move rfl rfl) ?_
      refine OpsJ.nil ?_
      exact ExJ.againP ⟨k2 + 1, by omega, hall4, rfl, rfl, rfl⟩ (by omega) ⟨rfl, rfl, rfl, trivial⟩ fun w hI => hI
  · obtain rfl : k2 = 3 := by omega
    have hfl : ([one, two, three].take 3).flatten = one ++ two ++ three := by simp
    rw [hfl] at hall
    refine CodeJ.exit ?_
    refine ExJ.thenX ?_
    refine ExJ.thenX ?_
    refine ExJ.blockHit ?_
    refine ExJ.thenN ?_
    refine CodeJ.seq ?_
    refine CodeJ.region ?_
    refine OpsJ.yld rfl rfl rfl (Yld.assign rfl rfl) ?_
    refine OpsJ.nil ?_
    refine ExJ.thenN ?_
    refine CodeJ.ret ?_
    exact ExJ.ret1 Tryd.results24 rfl ⟨⟨true, rfl, fun _ => hall⟩, rfl⟩ fun w hI => hI.pick (is := []) (by decide) rfl
end Go.Proofs.YtamobccbioafmaaDoor

/-
  The law's helper 'shortened', for all kinds: its walk.
-/
namespace Go.Proofs.YtamobccbioafmaaDoor
open Go
set_option maxRecDepth 100000
set_option maxHeartbeats 1600000

theorem MsgOf.from_ {k : Int} {m m' : MsgD} (h : MsgOf k m m') : ∀ r' ∈ m'.one ++ m'.two ++ m'.three, ∃ r ∈ m.one ++ m.two ++ m.three, ∃ pv, r' = specRec k r pv := fun r' hr => by
  rcases List.mem_append.1 hr with hr | hr
  · rcases List.mem_append.1 hr with hr | hr
    · obtain ⟨r, h1, p, c, h2⟩ := h.one.from_ r' hr
      exact ⟨r, by simp [h1], _, h2⟩
    · obtain ⟨r, h1, p, c, h2⟩ := h.two.from_ r' hr
      exact ⟨r, by simp [h1], _, h2⟩
  · obtain ⟨r, h1, p, c, h2⟩ := h.three.from_ r' hr
    exact ⟨r, by simp [h1], _, h2⟩
theorem SpecOf.to_ {kind : Int} : ∀ {rs rs' : List RecD}, SpecOf kind rs rs' → ∀ r ∈ rs, ∃ pv, specRec kind r pv ∈ rs'
  | [], [], _, _, h => by cases h
  | r :: rs, r0 :: rs', h, x, hx => by
    rcases List.mem_cons.1 hx with rfl | hx
    · obtain ⟨p, c, e⟩ := h.1
      exact ⟨_, by rw [← e]; simp⟩
    · obtain ⟨pv, e⟩ := SpecOf.to_ h.2 x hx
      exact ⟨pv, by simp [e]⟩
  | [], _ :: _, h, _, _ => h.elim
  | _ :: _, [], h, _, _ => h.elim
theorem MsgOf.to_ {k : Int} {m m' : MsgD} (h : MsgOf k m m') : ∀ r ∈ m.one ++ m.two ++ m.three, ∃ pv, specRec k r pv ∈ m'.one ++ m'.two ++ m'.three := fun r hr => by
  rcases List.mem_append.1 hr with hr | hr
  · rcases List.mem_append.1 hr with hr | hr
    · obtain ⟨pv, h1⟩ := h.one.to_ r hr
      exact ⟨pv, by simp [h1]⟩
    · obtain ⟨pv, h1⟩ := h.two.to_ r hr
      exact ⟨pv, by simp [h1]⟩
  · obtain ⟨pv, h1⟩ := h.three.to_ r hr
    exact ⟨pv, by simp [h1]⟩
/-- what Ok tells of a message -/
structure OkMsg (K : Kind) (h : Hd) (qs : List AskD) (one two three : List RecD) : Prop where
  head : h.ok = true
  asks : ∀ a ∈ qs, nameOk a.name.data.toList = true
  recs : ∀ r ∈ one ++ two ++ three, K.recOk r = true
  len : qs.length < 60000 ∧ one.length < 60000 ∧ two.length < 60000 ∧ three.length < 60000
theorem ok_msg {K : Kind} {k : Nat} (hst : K.Stable k) {m m' : MsgD} (hof : MsgOf (k : Nat) m m') (hk : K.okB m' = true) : OkMsg K m.head m.asks m.one m.two m.three := by
  simp only [Kind.okB, Bool.and_eq_true, List.all_eq_true, decide_eq_true_eq] at hk
  obtain ⟨⟨⟨⟨⟨⟨⟨⟨⟨h1, h2⟩, h3⟩, h4⟩, h5⟩, h6⟩, h7⟩, h8⟩, h9⟩, h10⟩ := hk
  rw [hof.asks] at h1 h6
  rw [hof.head] at h5
  rw [hof.one.len] at h7
  rw [hof.two.len] at h8
  rw [hof.three.len] at h9
  refine ⟨h5, h1, fun r hr => ?_, h6, h7, h8, h9⟩
  obtain ⟨pv, hm⟩ := hof.to_ r hr
  have : K.recOk (specRec (k : Nat) r pv) = true := by
    rcases List.mem_append.1 hm with hm | hm
    · rcases List.mem_append.1 hm with hm | hm
      · exact h2 _ hm
      · exact h3 _ hm
    · exact h4 _ hm
  rwa [hst.recOk] at this
theorem wire_of {K : Kind} {k : Nat} (hst : K.Stable k) {m m' : MsgD} (hof : MsgOf (k : Nat) m m') : K.wire m' = headWire m.head [m.asks.length, m.one.length, m.two.length, m.three.length] ++ (m.asks.map askWire).flatten ++ ((m.one ++ m.two ++ m.three).map K.recWire).flatten := by
  simp only [Kind.wire, hof.head, hof.asks, hof.one.len, hof.two.len, hof.three.len, List.map_append, hof.one.map K.recWire hst.wire, hof.two.map K.recWire hst.wire, hof.three.map K.recWire hst.wire]
theorem wire_back {K : Kind} {k : Nat} {h : Hd} {qs : List AskD} {one two three : List RecD} {m' : MsgD} (hb : BackM K k h qs one two three m') : K.wire m' = headWire h [qs.length, one.length, two.length, three.length] ++ (qs.map askWire).flatten ++ ((one ++ two ++ three).map K.recWire).flatten := by
  simp only [Kind.wire, hb.head, hb.asks, hb.one.len, hb.two.len, hb.three.len, List.map_append, hb.one.map, hb.two.map, hb.three.map]
/-- all that a kind must meet for its messages to be built with compression and read -/
structure Reads (K : Kind) (k : Nat) (BA : BodyAt) (A : Adder) (f : FuncId) : Prop where
  le : k ≤ 13
  stable : K.Stable k
  has : Has Tryd.prog f
  build : BuildMeets A f
  grows : BA.Grows
  body : BodyReads K k BA
theorem back_writesF {K : Kind} {k : Nat} (hk : k ≤ 13) (hone : ∀ r : RecD, r.kind = (k : Nat) → RecFit r → K.recOk r = true → K.One k r) {h : Hd} {qs : List AskD} {one two three : List RecD} {m' : MsgD} (hb : BackM K k h qs one two three m') : K.Writes (m'.one ++ m'.two ++ m'.three) := by
  have key : ∀ r ∈ m'.one ++ m'.two ++ m'.three, ∃ r0, Back K k r0 r := fun r hr => by
    rcases List.mem_append.1 hr with hr | hr
    · rcases List.mem_append.1 hr with hr | hr
      · exact hb.one.from_ r hr
      · exact hb.two.from_ r hr
    · exact hb.three.from_ r hr
  exact Kind.writes_of hk (fun r hr => by obtain ⟨r0, h0⟩ := key r hr; exact hone r h0.kind h0.fit h0.ok) (fun r hr => by obtain ⟨r0, h0⟩ := key r hr; exact h0.ok)

theorem back_writes {K : Kind} {k : Nat} (hk : k ≤ 13) (hone : ∀ r : RecD, r.kind = (k : Nat) → RecFit r → K.One k r) {h : Hd} {qs : List AskD} {one two three : List RecD} {m' : MsgD} (hb : BackM K k h qs one two three m') : K.Writes (m'.one ++ m'.two ++ m'.three) := back_writesF hk (fun r hr hf _ => hone r hr hf) hb

theorem shortened_specF (K : Kind) (k : Nat) (BA : BodyAt) (A : Adder) (f : FuncId) (hR0 : Reads K k BA A f) (Fit : RecD → Prop) (hone : ∀ r : RecD, r.kind = (k : Nat) → RecFit r → Fit r → K.One k r) (hfb : ∀ r : RecD, K.recOk r = true → Fit r) (G : GEnv) (h : Hd) (hw : h.wf) (qs : List AskD) (av : Value) (hq : ∀ a ∈ qs, a.wf) (one two three : List RecD) (v1 v2 v3 : Value) (hrw : ∀ r ∈ one ++ two ++ three, r.wf)
    (hfit : MsgFit ⟨h, av, qs, v1, one, v2, two, v3, three⟩) (hshort : ∀ r ∈ one ++ two ++ three, K.recOk r = true → RecShort K BA A r) (htyp : ∀ r ∈ one ++ two ++ three, K.typ r < 65536 ∧ ((k = 13 → kindN r.typ = 13) → kindN (K.typ r) = k)) (hfx : ∀ r ∈ one ++ two ++ three, ∀ pv, Fit (specRec (k : Nat) r pv)) :
    Spec Tryd.prog 11 [.func (.func f) #[] #[], .int .i64 (k : Nat), .agg (hdCs h).toArray, av, v1, v2, v3] [] (fun w => GE G w [] ∧ MsgOk w ⟨h, av, qs, v1, one, v2, two, v3, three⟩) (fun r H' => r = .bool true ∧ H' = []) := by
  refine Spec.of Tryd.func11 rfl Tryd.ntmps11 rfl fun w0 hR => ?_
  obtain ⟨hge, hmo⟩ := hR
  obtain ⟨hk, hst, hf, hb, hg, hbody⟩ := hR0
  obtain ⟨p1, c1, e1⟩ := hmo.one.1.shape
  obtain ⟨p2, c2, e2⟩ := hmo.two.1.shape
  obtain ⟨p3, c3, e3⟩ := hmo.three.1.shape
  simp only at e1 e2 e3
  subst e1 e2 e3
  have hro : ∀ r ∈ one ++ two ++ three, RecOk w0 r := fun r hr => by
    rcases List.mem_append.1 hr with hr | hr
    · rcases List.mem_append.1 hr with hr | hr
      · exact hmo.one.2 r hr
      · exact hmo.two.2 r hr
    · exact hmo.three.2 r hr
  refine CodeJ.seq ?_
  refine CodeJ.region ?_
  refine OpsJ.op rfl ?_
  refine OpJ.box rfl rfl rfl rfl fun hd hhd => ?_
  refine OpsJ.yld rfl rfl rfl (Yld.assign rfl rfl) ?_
  refine OpsJ.nil ?_
  refine ExJ.thenN ?_
  refine CodeJ.seq ?_
  refine CodeJ.region ?_
  refine OpsJ.yld rfl rfl rfl (Yld.move rfl rfl) ?_
  refine OpsJ.yld rfl rfl rfl (Yld.loadN (vs := hdCs h) rfl Tryd.underlying24 rfl sz_24 rfl (fun w hI => Inv.whole hI (i := 0) rfl)) ?_
  refine OpsJ.yld rfl rfl rfl (Yld.move rfl rfl) ?_
  refine OpsJ.yld rfl rfl rfl (Yld.move rfl rfl) ?_
  refine OpsJ.yld rfl rfl rfl (Yld.move rfl rfl) ?_
  refine OpsJ.yld rfl rfl rfl (Yld.move rfl rfl) ?_
  refine OpsJ.op rfl ?_
  refine OpJ.call (message_spec (k : Nat) ⟨h, av, qs, .slice p1 one.length c1, one, .slice p2 two.length c2, two, .slice p3 three.length c3, three⟩ hfit) has_13 rfl rfl rfl rfl rfl [] [0] (by decide) rfl rfl (fun w hI => hmo.keep0 hI.keep) ?_
  rintro _ _ ⟨m', q, bs, hq', rfl, hof, hmem, rfl⟩
  have hfrom := hof.from_
  have hmok : ∀ w, Keep [] w0 w → q w → MsgOk w m' := fun w hk hw => (hmem w hw).ok hof fun r hr => (hro r hr).keep0 hk
  have hnames : ∀ r' ∈ m'.one ++ m'.two ++ m'.three, r'.name.size ≤ 140737488355328 ∧ r'.host.size ≤ 140737488355328 ∧ r'.box.size ≤ 140737488355328 ∧ r'.typ < 65536 := fun r' hr' => by
    obtain ⟨r, hr, pv, rfl⟩ := hfrom r' hr'
    have := hrw r hr
    exact ⟨Nat.le_trans this.name (Nat.le_of_ble_eq_true rfl), Nat.le_trans this.host (Nat.le_of_ble_eq_true rfl), Nat.le_trans this.box (Nat.le_of_ble_eq_true rfl), this.typ⟩
  have hasks : ∀ a ∈ m'.asks, a.name.size ≤ 140737488355328 := fun a ha => by
    have e : m'.asks = qs := hof.asks
    rw [e] at ha
    exact Nat.le_trans (hq a ha).2.2 (Nat.le_of_ble_eq_true rfl)
  have hlens : m'.asks.length + m'.one.length + m'.two.length + m'.three.length ≤ 17592186044416 := by
    have e1 : m'.asks = qs := hof.asks
    have e2 : m'.one.length = one.length := hof.one.len
    have e3 : m'.two.length = two.length := hof.two.len
    have e4 : m'.three.length = three.length := hof.three.len
    have a1 : qs.length * 24 ≤ 140737488351232 := hfit.asks
    have a2 : one.length * 168 ≤ 140737488351232 := hfit.one
    have a3 : two.length * 168 ≤ 140737488351232 := hfit.two
    have a4 : three.length * 168 ≤ 140737488351232 := hfit.three
    rw [e1, e2, e3, e4]
    omega
  have hones : ∀ r' ∈ m'.one ++ m'.two ++ m'.three, K.One k r' := fun r' hr' => by
    obtain ⟨r, hr, pv, rfl⟩ := hfrom r' hr'
    exact hone _ rfl (specRec_fit (hrw r hr).fit _ _) (hfx r hr pv)
  refine OpsJ.op rfl ?_
  refine OpJ.alloc rfl rfl rfl zero_40 fun mb hmb => ?_
  refine OpsJ.op rfl ?_
  refine OpJ.storeW (i := 0) rfl rfl rfl rfl sz_40 rfl hof.ones rfl ?_
  refine OpsJ.nil ?_
  refine ExJ.thenN ?_
  refine CodeJ.seq ?_
  refine CodeJ.seq ?_
  refine CodeJ.region ?_
  refine OpsJ.yld rfl rfl rfl (Yld.loadN (vs := m'.cells) rfl Tryd.underlying40 rfl sz_40 rfl (fun w hI => Inv.whole hI (i := 0) rfl)) ?_
  refine OpsJ.op rfl ?_
  refine OpJ.call (ok_spec K m' (Kind.meets_of hones) hasks (fun r hr => (hnames r hr).1) hlens) has_14 rfl rfl rfl rfl rfl [] [0, 1, 2] (by decide) rfl rfl (fun w hI => hmok w hI.keep (hI.roGet (i := 1) rfl)) ?_
  rintro _ _ ⟨rfl, rfl⟩
  refine OpsJ.yld rfl rfl rfl (Yld.not rfl rfl) ?_
  refine OpsJ.yld rfl rfl rfl (Yld.move rfl rfl) ?_
  refine OpsJ.splitB (s := 31) rfl (fun g31 => ?_) (fun g31 => ?_)
  · refine OpsJ.opF rfl rfl rfl rfl rfl rfl ?_
    refine OpsJ.opF rfl rfl rfl rfl rfl rfl ?_
    refine OpsJ.opF rfl rfl rfl rfl rfl rfl ?_
    refine OpsJ.yld rfl rfl rfl (Yld.pickT rfl rfl rfl) ?_
    refine OpsJ.yld rfl rfl rfl (Yld.move rfl rfl) ?_
    refine OpsJ.opF rfl rfl rfl rfl rfl rfl ?_
    refine OpsJ.opF rfl rfl rfl rfl rfl rfl ?_
    refine OpsJ.opF rfl rfl rfl rfl rfl rfl ?_
    refine OpsJ.yld rfl rfl rfl (Yld.pickT rfl rfl rfl) ?_
    refine OpsJ.nil ?_
    refine ExJ.thenN ?_
    refine CodeJ.condT rfl ?_
    refine CodeJ.seq ?_
    refine CodeJ.region ?_
    refine OpsJ.yld rfl rfl rfl (Yld.assign rfl rfl) ?_
    refine OpsJ.nil ?_
    refine ExJ.thenN ?_
    refine CodeJ.ret ?_
    refine ExJ.thenR ?_
    exact ExJ.ret1 Tryd.results11 rfl ⟨rfl, rfl⟩ fun w hI => hI.pick (is := []) (by decide) rfl
  · have hokB : K.okB m' = true := by simpa using g31
    have hO : OkMsg K h qs one two three := ok_msg hst hof hokB
    refine OpsJ.opT rfl rfl rfl ?_
    refine OpJ.yld rfl rfl (Yld.loadN (vs := m'.cells) rfl Tryd.underlying40 rfl sz_40 rfl (fun w hI => Inv.whole hI (i := 0) rfl)) ?_
    refine OpsJ.opT rfl rfl rfl ?_
    refine OpJ.call (small_spec m' ⟨hasks, hnames, hlens⟩) has_22 rfl rfl rfl rfl rfl [] [0, 1, 2] (by decide) rfl rfl (fun w hI => hmok w hI.keep (hI.roGet (i := 1) rfl)) ?_
    rintro _ _ ⟨⟨b33, rfl⟩, rfl⟩
    refine OpsJ.opT rfl rfl rfl ?_
    refine OpJ.yld rfl rfl (Yld.not rfl rfl) ?_
    refine OpsJ.yld rfl rfl rfl (Yld.pickF rfl rfl rfl) ?_
    refine OpsJ.yld rfl rfl rfl (Yld.move rfl rfl) ?_
    refine OpsJ.splitB (s := 36) rfl (fun g36 => ?_) (fun g36 => ?_)
    · refine OpsJ.opF rfl rfl rfl rfl rfl rfl ?_
      refine OpsJ.opF rfl rfl rfl rfl rfl rfl ?_
      refine OpsJ.opF rfl rfl rfl rfl rfl rfl ?_
      refine OpsJ.yld rfl rfl rfl (Yld.pickT rfl rfl rfl) ?_
      refine OpsJ.nil ?_
      refine ExJ.thenN ?_
      refine CodeJ.condT rfl ?_
      refine CodeJ.seq ?_
      refine CodeJ.region ?_
      refine OpsJ.yld rfl rfl rfl (Yld.assign rfl rfl) ?_
      refine OpsJ.nil ?_
      refine ExJ.thenN ?_
      refine CodeJ.ret ?_
      refine ExJ.thenR ?_
      exact ExJ.ret1 Tryd.results11 rfl ⟨rfl, rfl⟩ fun w hI => hI.pick (is := []) (by decide) rfl
    · refine OpsJ.opT rfl rfl rfl ?_
      refine OpJ.yld rfl rfl (Yld.loadN (vs := m'.cells) rfl Tryd.underlying40 rfl sz_40 rfl (fun w hI => Inv.whole hI (i := 0) rfl)) ?_
      refine OpsJ.opT rfl rfl rfl ?_
      refine OpJ.call (plainly_spec m' ⟨hasks, hnames, hlens⟩) has_24 rfl rfl rfl rfl rfl [] [0, 1, 2] (by decide) rfl rfl (fun w hI => hmok w hI.keep (hI.roGet (i := 1) rfl)) ?_
      rintro _ _ ⟨⟨b38, rfl, hpl⟩, rfl⟩
      refine OpsJ.opT rfl rfl rfl ?_
      refine OpJ.yld rfl rfl (Yld.not rfl rfl) ?_
      refine OpsJ.yld rfl rfl rfl (Yld.pickF rfl rfl rfl) ?_
      refine OpsJ.nil ?_
      refine ExJ.thenN ?_
      refine CodeJ.cond rfl (fun c40 => ?_) (fun c40 => ?_)
      · refine CodeJ.seq ?_
        refine CodeJ.region ?_
        refine OpsJ.yld rfl rfl rfl (Yld.assign rfl rfl) ?_
        refine OpsJ.nil ?_
        refine ExJ.thenN ?_
        refine CodeJ.ret ?_
        refine ExJ.thenR ?_
        exact ExJ.ret1 Tryd.results11 rfl ⟨rfl, rfl⟩ fun w hI => hI.pick (is := []) (by decide) rfl
      · have hplain := hpl (by simpa using c40)
        have hrs : ∀ x ∈ one ++ two ++ three, K.recOk x = true ∧ RecFit x ∧ x.wf ∧ K.typ x < 65536 ∧ kindN (K.typ x) = k := fun x hx => by
          refine ⟨hO.recs x hx, (hrw x hx).fit, hrw x hx, (htyp x hx).1, (htyp x hx).2 fun h13 => ?_⟩
          obtain ⟨pv, hm⟩ := hof.to_ x hx
          have h14 := hplain (specRec (k : Nat) x pv) hm (by subst h13; rfl)
          exact h14
        obtain ⟨t, mt, d1, d2, d3, ha, h1, h2, h3, hlt, hlt2, hrun, hrf⟩ := all_short hg A h qs one two three hO.asks (fun x hx => hshort x hx (hO.recs x hx)) hO.len
        have hln := hO.len
        have hfin := fin_short h t qs.length one.length two.length three.length mt ⟨by omega, by omega, by omega, by omega⟩
        obtain ⟨hdr, hhdr⟩ : ∃ hdr, hdr = headWire h [qs.length, one.length, two.length, three.length] := ⟨_, rfl⟩
        have hh : hdr.length = 12 := by rw [hhdr]; rfl
        rw [← hhdr] at hfin
        have hsl : (stepsL true qs [one, two, three]).length ≤ 1000000 := by
          simp only [stepsL, secSteps, if_true, List.length_append, List.length_cons, List.length_map, List.length_nil]
          omega
        have hlenm : (hdr ++ t).length = 12 + t.length := by rw [List.length_append, hh]
        have hwm : K.Writes (m'.one ++ m'.two ++ m'.three) := Kind.writes_of hk hones (fun r' hr' => by obtain ⟨r, hr, pv, rfl⟩ := hfrom r' hr'; rw [hst.recOk]; exact hO.recs r hr)
        have hcm : m'.asks.length < 60000 ∧ m'.one.length < 60000 ∧ m'.two.length < 60000 ∧ m'.three.length < 60000 := by
          have e1 : m'.asks = qs := hof.asks
          have e2 : m'.one.length = one.length := hof.one.len
          have e3 : m'.two.length = two.length := hof.two.len
          have e4 : m'.three.length = three.length := hof.three.len
          rw [e1, e2, e3, e4]
          exact hln
        have hwh : m'.head.wf := by
          have : m'.head = h := hof.head
          rw [this]
          exact hw
        have has2 : ∀ a ∈ m'.asks, a.name.size ≤ 254 := fun a ha => by
          have e : m'.asks = qs := hof.asks
          rw [e] at ha
          exact nameOk_size _ (hO.asks a ha)
        refine CodeJ.skip ?_
        refine ExJ.thenN ?_
        refine CodeJ.seq ?_
        refine CodeJ.region ?_
        refine OpsJ.yld rfl rfl rfl (Yld.move rfl rfl) ?_
        refine OpsJ.yld rfl rfl rfl (Yld.move rfl rfl) ?_
        refine OpsJ.yld rfl rfl rfl (Yld.move rfl rfl) ?_
        refine OpsJ.yld rfl rfl rfl (Yld.move rfl rfl) ?_
        refine OpsJ.op rfl ?_
        refine OpJ.buildSlice (xs := [.tmp 42, .tmp 43, .tmp 44]) elt_90 rfl rfl rfl rfl rfl rfl (by rfl) (by decide) fun lists hlists => ?_
        refine OpsJ.op rfl ?_
        refine OpJ.call (steps_spec true qs [one, two, three] av _ [.slice p1 one.length c1, .slice p2 two.length c2, .slice p3 three.length c3] rfl (by omega)) has_15 rfl rfl rfl rfl rfl [] [0, 1, 2, 3] (by decide) rfl rfl (fun w hI => ⟨Row.keep0 hmo.asks hI.keep, Own.row (hI.hs _ (List.mem_of_getElem? (i := 0) rfl)).1, fun i v rs h1 h2 => by
        match i with
        | 0 => simp at h1 h2; subst h1 h2; exact hmo.one.keep0 hI.keep
        | 1 => simp at h1 h2; subst h1 h2; exact hmo.two.keep0 hI.keep
        | 2 => simp at h1 h2; subst h1 h2; exact hmo.three.keep0 hI.keep
        | i + 3 => simp at h1⟩) ?_
        rintro _ _ ⟨p46, c46, rfl, rfl⟩
        refine OpsJ.yld rfl rfl rfl (Yld.assign rfl rfl) ?_
        refine OpsJ.nil ?_
        refine ExJ.thenN ?_
        refine CodeJ.seq ?_
        refine CodeJ.region ?_
        refine OpsJ.yld rfl rfl rfl (Yld.move rfl rfl) ?_
        refine OpsJ.yld rfl rfl rfl (Yld.loadN (vs := hdCs h) rfl Tryd.underlying24 rfl sz_24 rfl (fun w hI => Inv.whole hI (i := 4) rfl)) ?_
        refine OpsJ.yld rfl rfl rfl (Yld.move rfl rfl) ?_
        refine OpsJ.op rfl ?_
        refine OpJ.call (hb G h hw [] (.slice none 0 0) _ (stepsL true qs [one, two, three]) (by omega) (by simp) hrun) hf rfl rfl rfl rfl rfl [] [0, 1, 2, 3, 4] (by decide) rfl rfl (fun w hI => ⟨hge.call hI (is := []) rfl, .inl ⟨none, 0, rfl, rfl⟩, Own.row (hI.hs _ (List.mem_of_getElem? (i := 0) rfl)).1, stepsL_rec (fun l hl r hr => (hro r (by simp at hl; rcases hl with rfl | rfl | rfl <;> simp [hr])).keep0 hI.keep)⟩) ?_
        rintro _ _ ⟨q1, d1', q2, d2', rfl, rfl⟩
        rw [hrf]
        simp only [hfin]
        refine OpsJ.op rfl ?_
        refine OpJ.alloc rfl rfl rfl zero_47 fun got hgot => ?_
        refine OpsJ.op rfl ?_
        refine OpJ.storeW (i := 0) rfl rfl rfl rfl sz_47 rfl rfl rfl ?_
        refine OpsJ.nil ?_
        refine ExJ.thenN ?_
        refine CodeJ.seq ?_
        refine CodeJ.region ?_
        refine OpsJ.yld rfl rfl rfl (Yld.fieldAddr fa_47_1 rfl rfl) ?_
        refine OpsJ.yld rfl rfl rfl (Yld.load1 rfl Tryd.underlying31 rfl rfl (fun w hI => Inv.cell1 hI (i := 0) rfl rfl)) ?_
        refine OpsJ.someOwn (i := 2) (m := (hdr ++ t).length) rfl (by omega) fun db hdb hcap => ?_
        subst hdb
        refine OpsJ.op rfl ?_
        refine OpJ.call (read_spec K k BA hbody h hw hO.head qs (fun a ha => ⟨(hq a ha).1, (hq a ha).2.1, hO.asks a ha⟩) one two three hrs hln t d1 d2 d3 ha h1 h2 h3 db 0 d2' hdr hhdr hcap (by omega)) has_25 rfl rfl rfl rfl rfl [] [0, 1, 2, 3, 4, 5, 6, 7] (by decide) rfl rfl (fun w hI => (Own.cells (hI.hs _ (List.mem_of_getElem? (i := 2) rfl)).1 _ _ _ _ rfl).2.2) ?_
        rintro _ _ ⟨mk, qk, bk, hk', rfl, rfl, hkok, hbm⟩
        refine OpsJ.yld rfl rfl rfl (Yld.move rfl rfl) ?_
        refine OpsJ.yld rfl rfl rfl (Yld.extract rfl rfl rfl) ?_
        refine OpsJ.yld rfl rfl rfl (Yld.extract rfl rfl rfl) ?_
        refine OpsJ.op rfl ?_
        refine OpJ.alloc rfl rfl rfl zero_40 fun kb hkb => ?_
        refine OpsJ.op rfl ?_
        refine OpJ.storeW (i := 0) rfl rfl rfl rfl sz_40 rfl hbm.ones rfl ?_
        refine OpsJ.yld rfl rfl rfl (Yld.assign rfl rfl) ?_
        refine OpsJ.nil ?_
        refine ExJ.thenN ?_
        refine CodeJ.seq ?_
        refine CodeJ.region ?_
        refine OpsJ.yld rfl rfl rfl (Yld.loadN (vs := m'.cells) rfl Tryd.underlying40 rfl sz_40 rfl (fun w hI => Inv.whole hI (i := 7) rfl)) ?_
        refine OpsJ.op rfl ?_
        refine OpJ.call (messageWire_spec K m' hwh hwm has2 hcm) has_18 rfl rfl rfl rfl rfl [] [0, 1, 2, 3, 4, 5, 6, 7, 8, 9] (by decide) rfl rfl (fun w hI => hmok w hI.keep (hI.roGet (i := 8) rfl)) ?_
        rintro _ _ ⟨p58, c58, rfl, rfl⟩
        refine OpsJ.yld rfl rfl rfl (Yld.assign rfl rfl) ?_
        refine OpsJ.nil ?_
        refine ExJ.thenN ?_
        refine CodeJ.seq ?_
        refine CodeJ.region ?_
        refine OpsJ.yld rfl rfl rfl (Yld.loadN (vs := [.slice q1 _ d1', .slice (some ⟨db, 0, none⟩) _ d2', .int .i64 0]) rfl Tryd.underlying47 rfl sz_47 rfl (fun w hI => Inv.whole hI (i := 3) rfl)) ?_
        refine OpsJ.yld rfl rfl rfl (Yld.move rfl rfl) ?_
        refine OpsJ.op rfl ?_
        refine OpJ.call (fine_spec _ _ (List.replicate (stepsL true qs [one, two, three]).length 0) p46 (stepsL true qs [one, two, three]).length c46 (by rw [List.length_replicate]; omega)) has_16 rfl rfl rfl rfl rfl [] [0, 1, 2, 3, 4, 5, 6, 7, 8, 9, 10] (by decide) rfl rfl (fun w hI => Own.row (hI.hs _ (List.mem_of_getElem? (i := 4) rfl)).1) ?_
        rintro _ _ ⟨rfl, rfl⟩
        refine OpsJ.yld rfl rfl rfl (Yld.move rfl rfl) ?_
        refine OpsJ.splitB (s := 62) rfl (fun g62 => ?_) (fun g62 => ?_)
        · refine OpsJ.opT rfl rfl rfl ?_
          refine OpJ.yld rfl rfl (Yld.move rfl rfl) ?_
          refine OpsJ.yld rfl rfl rfl (Yld.pickT rfl rfl rfl) ?_
          refine OpsJ.yld rfl rfl rfl (Yld.move rfl rfl) ?_
          refine OpsJ.splitB (s := 65) rfl (fun g65 => ?_) (fun g65 => ?_)
          · refine OpsJ.opT rfl rfl rfl ?_
            refine OpJ.yld rfl rfl (Yld.loadN (vs := mk.cells) rfl Tryd.underlying40 rfl sz_40 rfl (fun w hI => Inv.whole hI (i := 1) rfl)) ?_
            refine OpsJ.opT rfl rfl rfl ?_
            refine OpJ.call (messageWire_spec K mk (by rw [hbm.head]; exact hw) (back_writesF hk (fun r hr hf ho => hone r hr hf (hfb r ho)) hbm) (fun a ha => by rw [hbm.asks] at ha; exact nameOk_size _ (hO.asks a ha)) (by rw [hbm.asks, hbm.one.len, hbm.two.len, hbm.three.len]; exact hln)) has_18 rfl rfl rfl rfl rfl [] [0, 1, 2, 3, 4, 5, 6, 7, 8, 9, 10] (by decide) rfl rfl (fun w hI => hkok w (hI.roGet (i := 2) rfl)) ?_
            rintro _ _ ⟨p67, c67, rfl, rfl⟩
            refine OpsJ.opT rfl rfl rfl ?_
            refine OpJ.yld rfl rfl (Yld.move rfl rfl) ?_
            refine OpsJ.opT rfl rfl rfl ?_
            refine OpJ.call (same_spec _ _ (K.wire mk) (K.wire m')) has_17 rfl rfl rfl rfl rfl [] [0, 1, 2, 3, 4, 5, 6, 7, 8, 9, 10, 11] (by decide) rfl rfl (fun w hI => ⟨Inv.bytes (k := 0) rfl w hI, Inv.bytes (k := 1) rfl w hI⟩) ?_
            rintro _ _ ⟨rfl, rfl⟩
            refine OpsJ.yld rfl rfl rfl (Yld.pickT rfl rfl rfl) ?_
            refine OpsJ.yld rfl rfl rfl (Yld.assign rfl rfl) ?_
            refine OpsJ.nil ?_
            refine ExJ.thenN ?_
            refine CodeJ.ret ?_
            exact ExJ.ret1 Tryd.results11 rfl ⟨by rw [wire_back hbm, wire_of hst hof]; simp, rfl⟩ fun w hI => hI.pick (is := []) (by decide) rfl
          · exact absurd g65 (by decide)
        · exact absurd g62 (by rw [all_zero]; decide)
theorem shortened_spec (K : Kind) (k : Nat) (BA : BodyAt) (A : Adder) (f : FuncId) (hR0 : Reads K k BA A f) (hone : ∀ r : RecD, r.kind = (k : Nat) → RecFit r → K.One k r) (G : GEnv) (h : Hd) (hw : h.wf) (qs : List AskD) (av : Value) (hq : ∀ a ∈ qs, a.wf) (one two three : List RecD) (v1 v2 v3 : Value) (hrw : ∀ r ∈ one ++ two ++ three, r.wf)
    (hfit : MsgFit ⟨h, av, qs, v1, one, v2, two, v3, three⟩) (hshort : ∀ r ∈ one ++ two ++ three, K.recOk r = true → RecShort K BA A r) (htyp : ∀ r ∈ one ++ two ++ three, K.typ r < 65536 ∧ ((k = 13 → kindN r.typ = 13) → kindN (K.typ r) = k)) :
    Spec Tryd.prog 11 [.func (.func f) #[] #[], .int .i64 (k : Nat), .agg (hdCs h).toArray, av, v1, v2, v3] [] (fun w => GE G w [] ∧ MsgOk w ⟨h, av, qs, v1, one, v2, two, v3, three⟩) (fun r H' => r = .bool true ∧ H' = []) :=
  shortened_specF K k BA A f hR0 (fun _ => True) (fun r hr hf _ => hone r hr hf) (fun _ _ => trivial) G h hw qs av hq one two three v1 v2 v3 hrw hfit hshort htyp (fun _ _ _ => trivial)
end Go.Proofs.YtamobccbioafmaaDoor
