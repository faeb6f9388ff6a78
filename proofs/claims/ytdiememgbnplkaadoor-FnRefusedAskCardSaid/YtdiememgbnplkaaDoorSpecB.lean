/-
  Contracts of the reference's functions on names and headers.
-/
import Derived.Test.YtdiememgbnplkaaDoorSpecA
namespace Go.Proofs.YtdiememgbnplkaaDoor
open Go
set_option maxRecDepth 100000

theorem four_spec (x : Nat) : Spec Tryd.prog 51 [.int .u32 x] [] (fun _ => True) (RetB 5 (be16 (x / 65536 % 65536) ++ be16 (x % 65536))) := by
  refine Spec.of Tryd.func51 rfl Tryd.ntmps51 rfl fun w0 _ => ?_
  refine CodeJ.seq ?_
  refine CodeJ.region ?_
  refine OpsJ.yld rfl rfl rfl (Yld.assign rfl rfl) ?_
  refine OpsJ.nil ?_
  refine ExJ.thenN ?_
  refine CodeJ.seq ?_
  refine CodeJ.region ?_
  refine OpsJ.yld rfl rfl rfl (Yld.move rfl rfl) ?_
  refine OpsJ.yld rfl rfl rfl (Yld.shr rfl rfl rfl (by decide)) ?_
  refine OpsJ.yld rfl rfl rfl (Yld.convInt rfl Tryd.underlying43 Tryd.underlying22 rfl) ?_
  rw [shr16, u16_wrap]
  refine OpsJ.op rfl ?_
  refine OpJ.call (two_spec _) has_34 rfl rfl rfl rfl rfl [] [] (by decide) rfl rfl (fun _ _ => trivial) ?_
  rintro _ _ ⟨p6, c6, rfl, rfl⟩
  refine OpsJ.yld rfl rfl rfl (Yld.move rfl rfl) ?_
  refine OpsJ.yld rfl rfl rfl (Yld.convInt rfl Tryd.underlying43 Tryd.underlying22 rfl) ?_
  rw [u16_wrap]
  refine OpsJ.op rfl ?_
  refine OpJ.call (two_spec _) has_34 rfl rfl rfl rfl rfl [] [0] (by decide) rfl rfl (fun _ _ => trivial) ?_
  rintro _ _ ⟨p9, c9, rfl, rfl⟩
  refine OpsJ.op rfl ?_
  refine OpJ.buildSlice (xs := [.tmp 6, .tmp 9]) elt_115 rfl rfl rfl rfl rfl rfl (by rfl) (by decide) fun parts hparts => ?_
  refine OpsJ.op rfl ?_
  refine OpJ.call (joined_spec _ [be16 (x / 65536 % 65536), be16 (x % 65536)] (by simp [be16_len]) (by simp)) has_28 rfl rfl rfl rfl rfl [] [0, 1, 2] (by decide) rfl rfl (Inv.parts (i := 0) rfl rfl ⟨Inv.bytes (k := 2) rfl, Inv.bytes (k := 1) rfl, trivial⟩) ?_
  rintro _ _ ⟨p11, c11, rfl, rfl⟩
  refine OpsJ.yld rfl rfl rfl (Yld.assign rfl rfl) ?_
  refine OpsJ.nil ?_
  refine ExJ.thenN ?_
  refine CodeJ.ret ?_
  exact ExJ.retB Tryd.results51 rfl fun w hI => hI.pick (is := [0]) (by decide) rfl

theorem wire_spec (s : ByteArray) (hs : s.size ≤ 17592186044416) : Spec Tryd.prog 49 [.string s] [] (fun _ => True) (RetB 5 (wire s.data.toList)) := by
  refine Spec.of Tryd.func49 rfl Tryd.ntmps49 rfl fun w0 _ => ?_
  refine CodeJ.seq ?_
  refine CodeJ.region ?_
  refine OpsJ.yld rfl rfl rfl (Yld.assign rfl rfl) ?_
  refine OpsJ.nil ?_
  refine ExJ.thenN ?_
  refine CodeJ.seq ?_
  refine CodeJ.region ?_
  refine OpsJ.op rfl ?_
  refine OpJ.buildSlice (xs := []) elt_29 rfl rfl rfl rfl rfl rfl (by rfl) (by decide) fun out hout => ?_
  refine OpsJ.yld rfl rfl rfl (Yld.assign rfl rfl) ?_
  refine OpsJ.nil ?_
  refine ExJ.thenN ?_
  refine CodeJ.seq ?_
  refine CodeJ.region ?_
  refine OpsJ.op rfl ?_
  refine OpJ.buildSlice (xs := []) elt_29 rfl rfl rfl rfl rfl rfl (by rfl) (by decide) fun label hlabel => ?_
  refine OpsJ.yld rfl rfl rfl (Yld.assign rfl rfl) ?_
  refine OpsJ.nil ?_
  refine ExJ.thenN ?_
  refine CodeJ.seq ?_
  refine CodeJ.seq ?_
  refine CodeJ.region ?_
  refine OpsJ.yld rfl rfl rfl (Yld.move rfl rfl) ?_
  refine OpsJ.yld rfl rfl rfl (Yld.lenString rfl rfl rfl Tryd.underlying9 rfl) ?_
  refine OpsJ.yld rfl rfl rfl (Yld.move rfl rfl) ?_
  refine OpsJ.nil ?_
  refine ExJ.thenN ?_
  refine CodeJ.block ?_
  refine CodeJ.loopP (fun L H m => ∃ (k : Nat) (o l : List UInt8) (p p' : Option Addr) (q q' : Nat), k ≤ s.size ∧ wst (s.data.toList.take k) = (o, l) ∧ L = [(0, .string s), (3, .slice p o.length q), (4, .slice p' l.length q'), (9, .int .i64 s.size), (10, .int .i64 k)] ∧ H = [ownB 5 (.slice p o.length q) o, ownB 5 (.slice p' l.length q') l] ∧ m = s.size - k) ⟨0, [], [], _, _, _, _, Nat.zero_le _, rfl, rfl, rfl, rfl⟩ ⟨rfl, rfl, rfl, rfl, rfl, trivial⟩ (fun w hI => hI.pick (is := [1, 0]) (by decide) rfl) ?_
  rintro _ _ _ ⟨k, o, l, p, p', q, q', hk, hst, rfl, rfl, rfl⟩
  refine CodeJ.seq ?_
  refine CodeJ.region ?_
  refine OpsJ.yld rfl rfl rfl (Yld.intBin rfl rfl rfl rfl) ?_
  refine OpsJ.nil ?_
  refine ExJ.thenN ?_
  refine CodeJ.seq ?_
  refine CodeJ.condP rfl (fun c11 => ?_) (fun c11 => ?_)
  · have hk' : k < s.size := by omega
    obtain ⟨c, hc⟩ := str_get s k hk'
    have hnx : wst (s.data.toList.take (k + 1)) = wstep (o, l) c := by rw [take_snoc _ _ _ hc, wst_snoc, hst]
    have hle := wst_le (s.data.toList.take k)
    rw [hst] at hle
    simp only [List.length_take, str_len] at hle
    refine CodeJ.skip ?_
    refine ExJ.thenN ?_
    refine CodeJ.seq ?_
    refine CodeJ.block ?_
    refine CodeJ.seq ?_
    refine CodeJ.region ?_
    refine OpsJ.yld rfl rfl rfl (Yld.move rfl rfl) ?_
    refine OpsJ.yld rfl rfl rfl (Yld.assign rfl rfl) ?_
    refine OpsJ.nil ?_
    refine ExJ.thenN ?_
    refine CodeJ.seq ?_
    refine CodeJ.seq ?_
    refine CodeJ.region ?_
    refine OpsJ.yld rfl rfl rfl (Yld.move rfl rfl) ?_
    refine OpsJ.yld rfl rfl rfl (Yld.move rfl rfl) ?_
    refine OpsJ.yld rfl rfl rfl (Yld.index rfl Tryd.underlying9 rfl rfl hc) ?_
    refine OpsJ.yld rfl rfl rfl (Yld.intBin rfl rfl rfl rfl) ?_
    refine OpsJ.nil ?_
    refine ExJ.thenN ?_
    refine CodeJ.cond rfl (fun c16 => ?_) (fun c16 => ?_)
    · have hdot : c ≠ 46 := (dot_iff c).1 c16
      refine CodeJ.seq ?_
      refine CodeJ.region ?_
      refine OpsJ.yld rfl rfl rfl (Yld.move rfl rfl) ?_
      refine OpsJ.yld rfl rfl rfl (Yld.move rfl rfl) ?_
      refine OpsJ.yld rfl rfl rfl (Yld.move rfl rfl) ?_
      refine OpsJ.yld rfl rfl rfl (Yld.index rfl Tryd.underlying9 rfl rfl hc) ?_
      refine OpsJ.op rfl ?_
      refine OpJ.buildSlice (xs := [.tmp 20]) elt_29 rfl rfl rfl rfl rfl rfl (by rfl) (by decide) fun one hone => ?_
      refine OpsJ.op rfl ?_
      refine OpJ.appendO (i := 2) (news := [c]) elt_29 rfl rfl rfl rfl rfl rfl (fun w hI => Bytes.src (Inv.bytes (k := 0) rfl w hI) Tryd.underlying29) (by simp; omega) fun p22 c22 => ?_
      refine OpsJ.yld rfl rfl rfl (Yld.assign rfl rfl) ?_
      refine OpsJ.nil ?_
      refine ExJ.thenN ?_
      refine CodeJ.exit ?_
      refine ExJ.thenX ?_
      refine ExJ.blockHit ?_
      refine ExJ.thenN ?_
      refine CodeJ.region ?_
      refine OpsJ.yld rfl rfl rfl (Yld.intBin rfl rfl rfl rfl) ?_
      rw [i64_succ k (by omega)]
      refine OpsJ.yld rfl rfl rfl (Yld.move rfl rfl) ?_
      refine OpsJ.nil ?_
      exact ExJ.againP ⟨k + 1, o, l ++ [c], p, p22, q, c22, by omega, by rw [hnx, wstep, if_pos hdot], rfl, rfl, rfl⟩ (by omega) ⟨rfl, rfl, rfl, rfl, rfl, trivial⟩ fun w hI => hI.pick (is := [1, 2]) (by decide) rfl
    · have hdot : c = 46 := (dot_iff' c).1 c16
      refine CodeJ.skip ?_
      refine ExJ.thenN ?_
      refine CodeJ.seq ?_
      refine CodeJ.seq ?_
      refine CodeJ.region ?_
      refine OpsJ.yld rfl rfl rfl (Yld.move rfl rfl) ?_
      refine OpsJ.yld rfl rfl rfl (Yld.lenSlice rfl rfl rfl Tryd.underlying29 rfl) ?_
      refine OpsJ.yld rfl rfl rfl (Yld.intBin rfl rfl rfl rfl) ?_
      refine OpsJ.nil ?_
      refine ExJ.thenN ?_
      refine CodeJ.condP rfl (fun c25 => ?_) (fun c25 => ?_)
      · have hlen : l.length > 0 := by omega
        refine CodeJ.region ?_
        refine OpsJ.yld rfl rfl rfl (Yld.move rfl rfl) ?_
        refine OpsJ.yld rfl rfl rfl (Yld.move rfl rfl) ?_
        refine OpsJ.yld rfl rfl rfl (Yld.lenSlice rfl rfl rfl Tryd.underlying29 rfl) ?_
        refine OpsJ.yld rfl rfl rfl (Yld.convInt rfl Tryd.underlying3 Tryd.underlying5 rfl) ?_
        rw [u8_wrap]
        refine OpsJ.op rfl ?_
        refine OpJ.buildSlice (xs := [.tmp 29]) elt_29 rfl rfl rfl rfl rfl rfl (by rfl) (by decide) fun one hone => ?_
        refine OpsJ.op rfl ?_
        refine OpJ.appendO (i := 1) (news := [UInt8.ofNat l.length]) elt_29 rfl rfl rfl rfl rfl rfl (fun w hI => Bytes.src (Inv.bytes (k := 0) rfl w hI) Tryd.underlying29) (by simp; omega) fun p31 c31 => ?_
        refine OpsJ.yld rfl rfl rfl (Yld.move rfl rfl) ?_
        refine OpsJ.op rfl ?_
        refine OpJ.appendO (i := 1) elt_29 rfl rfl rfl rfl rfl rfl (fun w hI => Bytes.src (Inv.bytes (k := 2) rfl w hI) Tryd.underlying29) (by simp; omega) fun p33 c33 => ?_
        refine OpsJ.yld rfl rfl rfl (Yld.assign rfl rfl) ?_
        refine OpsJ.nil ?_
        refine ExJ.thenN ?_
        refine CodeJ.region ?_
        refine OpsJ.op rfl ?_
        refine OpJ.buildSlice (xs := []) elt_29 rfl rfl rfl rfl rfl rfl (by rfl) (by decide) fun lab2 hlab2 => ?_
        refine OpsJ.yld rfl rfl rfl (Yld.assign rfl rfl) ?_
        refine OpsJ.nil ?_
        refine ExJ.blockN ?_
        refine ExJ.thenN ?_
        refine CodeJ.region ?_
        refine OpsJ.yld rfl rfl rfl (Yld.intBin rfl rfl rfl rfl) ?_
        rw [i64_succ k (by omega)]
        refine OpsJ.yld rfl rfl rfl (Yld.move rfl rfl) ?_
        refine OpsJ.nil ?_
        exact ExJ.againP ⟨k + 1, o ++ [UInt8.ofNat l.length] ++ l, [], p33, _, c33, _, by omega, by rw [hnx, wstep, if_neg (not_not_of hdot), if_pos hlen], rfl, rfl, rfl⟩ (by omega) ⟨rfl, rfl, rfl, rfl, rfl, trivial⟩ fun w hI => hI.pick (is := [2, 0]) (by decide) rfl
      · have hlen : ¬ l.length > 0 := by omega
        refine CodeJ.skip ?_
        refine ExJ.thenN ?_
        refine CodeJ.region ?_
        refine OpsJ.op rfl ?_
        refine OpJ.buildSlice (xs := []) elt_29 rfl rfl rfl rfl rfl rfl (by rfl) (by decide) fun lab2 hlab2 => ?_
        refine OpsJ.yld rfl rfl rfl (Yld.assign rfl rfl) ?_
        refine OpsJ.nil ?_
        refine ExJ.blockN ?_
        refine ExJ.thenN ?_
        refine CodeJ.region ?_
        refine OpsJ.yld rfl rfl rfl (Yld.intBin rfl rfl rfl rfl) ?_
        rw [i64_succ k (by omega)]
        refine OpsJ.yld rfl rfl rfl (Yld.move rfl rfl) ?_
        refine OpsJ.nil ?_
        exact ExJ.againP ⟨k + 1, o, [], p, _, q, _, by omega, by rw [hnx, wstep, if_neg (not_not_of hdot), if_neg hlen], rfl, rfl, rfl⟩ (by omega) ⟨rfl, rfl, rfl, rfl, rfl, trivial⟩ fun w hI => hI.pick (is := [1, 0]) (by decide) rfl
  · obtain rfl : k = s.size := by omega
    have hw : wire s.data.toList = o ++ [0] := by
      have ht : s.data.toList.take s.size = s.data.toList := List.take_of_length_le (by simp)
      rw [wire, ← ht, hst]
    have hle := wst_le (s.data.toList.take s.size)
    rw [hst] at hle
    simp only [List.length_take, str_len] at hle
    refine CodeJ.exit ?_
    refine ExJ.thenX ?_
    refine ExJ.thenX ?_
    refine ExJ.blockHit ?_
    refine ExJ.thenN ?_
    refine CodeJ.seq ?_
    refine CodeJ.region ?_
    refine OpsJ.yld rfl rfl rfl (Yld.move rfl rfl) ?_
    refine OpsJ.op rfl ?_
    refine OpJ.buildSlice (xs := [.const (Go.Value.int Go.IntKind.u8 0)]) elt_29 rfl rfl rfl rfl rfl rfl (by rfl) (by decide) fun zer hzer => ?_
    refine OpsJ.op rfl ?_
    refine OpJ.appendO (i := 1) (news := [0]) elt_29 rfl rfl rfl rfl rfl rfl (fun w hI => Bytes.src (Inv.bytes (k := 0) rfl w hI) Tryd.underlying29) (by simp; omega) fun p38 c38 => ?_
    refine OpsJ.yld rfl rfl rfl (Yld.assign rfl rfl) ?_
    refine OpsJ.nil ?_
    refine ExJ.thenN ?_
    refine CodeJ.ret ?_
    rw [hw]
    exact ExJ.retB Tryd.results49 rfl fun w hI => hI.pick (is := [1]) (by decide) rfl

theorem flag_spec (b : Bool) (x : Nat) : Spec Tryd.prog 33 [.bool b, .int .u16 x] [] (fun _ => True) (fun r H' => r = .int .u16 (flagN b x) ∧ H' = []) := by
  refine Spec.of Tryd.func33 rfl Tryd.ntmps33 rfl fun w0 _ => ?_
  refine CodeJ.seq ?_
  refine CodeJ.region ?_
  refine OpsJ.yld rfl rfl rfl (Yld.assign rfl rfl) ?_
  refine OpsJ.nil ?_
  refine ExJ.thenN ?_
  refine CodeJ.seq ?_
  refine CodeJ.seq ?_
  refine CodeJ.region ?_
  refine OpsJ.yld rfl rfl rfl (Yld.move rfl rfl) ?_
  refine OpsJ.nil ?_
  refine ExJ.thenN ?_
  refine CodeJ.cond rfl (fun c5 => ?_) (fun c5 => ?_)
  · subst c5
    refine CodeJ.seq ?_
    refine CodeJ.region ?_
    refine OpsJ.yld rfl rfl rfl (Yld.move rfl rfl) ?_
    refine OpsJ.yld rfl rfl rfl (Yld.assign rfl rfl) ?_
    refine OpsJ.nil ?_
    refine ExJ.thenN ?_
    refine CodeJ.ret ?_
    refine ExJ.thenR ?_
    exact ExJ.ret1 Tryd.results33 rfl ⟨rfl, rfl⟩ fun w hI => hI
  · subst c5
    refine CodeJ.skip ?_
    refine ExJ.thenN ?_
    refine CodeJ.seq ?_
    refine CodeJ.region ?_
    refine OpsJ.yld rfl rfl rfl (Yld.assign rfl rfl) ?_
    refine OpsJ.nil ?_
    refine ExJ.thenN ?_
    refine CodeJ.ret ?_
    exact ExJ.ret1 Tryd.results33 rfl ⟨rfl, rfl⟩ fun w hI => hI

def headV (h : Hd) : Value := .agg #[.int .u16 h.id, .bool h.qr, .int .u16 h.op, .bool h.aa, .bool h.tc, .bool h.rd, .bool h.ra, .bool h.ad, .bool h.cd, .int .u16 h.code]

theorem headOk_spec (h : Hd) : Spec Tryd.prog 15 [headV h] [] (fun _ => True) (fun r H' => r = .bool h.ok ∧ H' = []) := by
  refine Spec.of Tryd.func15 rfl Tryd.ntmps15 rfl fun w0 _ => ?_
  refine CodeJ.seq ?_
  refine CodeJ.region ?_
  refine OpsJ.op rfl ?_
  refine OpJ.box rfl rfl rfl rfl fun b1 hb1 => ?_
  refine OpsJ.yld rfl rfl rfl (Yld.assign rfl rfl) ?_
  refine OpsJ.nil ?_
  refine ExJ.thenN ?_
  refine CodeJ.seq ?_
  refine CodeJ.region ?_
  refine OpsJ.yld rfl rfl rfl (Yld.fieldAddr fa_33_2 rfl rfl) ?_
  refine OpsJ.yld rfl rfl rfl (Yld.load1 rfl Tryd.underlying22 rfl rfl (fun w hI => Inv.cell1 hI (i := 0) rfl rfl)) ?_
  refine OpsJ.yld rfl rfl rfl (Yld.intBin rfl rfl rfl rfl) ?_
  refine OpsJ.yld rfl rfl rfl (Yld.move rfl rfl) ?_
  refine OpsJ.splitP (s := 6) rfl (fun g6 => ?_) (fun g6 => ?_)
  · have hop : h.op < 16 := by omega
    refine OpsJ.opT rfl rfl rfl ?_
    refine OpJ.yld rfl rfl (Yld.fieldAddr fa_33_9 rfl rfl) ?_
    refine OpsJ.opT rfl rfl rfl ?_
    refine OpJ.yld rfl rfl (Yld.load1 rfl Tryd.underlying22 rfl rfl (fun w hI => Inv.cell1 hI (i := 0) rfl rfl)) ?_
    refine OpsJ.opT rfl rfl rfl ?_
    refine OpJ.yld rfl rfl (Yld.intBin rfl rfl rfl rfl) ?_
    refine OpsJ.yld rfl rfl rfl (Yld.pickT rfl rfl rfl) ?_
    refine OpsJ.yld rfl rfl rfl (Yld.assign rfl rfl) ?_
    refine OpsJ.nil ?_
    refine ExJ.thenN ?_
    refine CodeJ.ret ?_
    exact ExJ.ret1 Tryd.results15 rfl ⟨by simp [Hd.ok, hop]; omega, rfl⟩ fun w hI => hI.pick (is := []) (by decide) rfl
  · have hop : ¬ h.op < 16 := by omega
    refine OpsJ.opF rfl rfl rfl rfl rfl rfl ?_
    refine OpsJ.opF rfl rfl rfl rfl rfl rfl ?_
    refine OpsJ.opF rfl rfl rfl rfl rfl rfl ?_
    refine OpsJ.yld rfl rfl rfl (Yld.pickF rfl rfl rfl) ?_
    refine OpsJ.yld rfl rfl rfl (Yld.assign rfl rfl) ?_
    refine OpsJ.nil ?_
    refine ExJ.thenN ?_
    refine CodeJ.ret ?_
    exact ExJ.ret1 Tryd.results15 rfl ⟨by simp [Hd.ok, hop], rfl⟩ fun w hI => hI.pick (is := []) (by decide) rfl


theorem nameOk_spec (s : ByteArray) (hs : s.size ≤ 140737488355328) : Spec Tryd.prog 18 [.string s] [] (fun _ => True) (fun r H' => r = .bool (nameOk s.data.toList) ∧ H' = []) := by
  refine Spec.of Tryd.func18 rfl Tryd.ntmps18 rfl fun w0 _ => ?_
  refine CodeJ.seq ?_
  refine CodeJ.region ?_
  refine OpsJ.yld rfl rfl rfl (Yld.assign rfl rfl) ?_
  refine OpsJ.nil ?_
  refine ExJ.thenN ?_
  refine CodeJ.seq ?_
  refine CodeJ.seq ?_
  refine CodeJ.region ?_
  refine OpsJ.yld rfl rfl rfl (Yld.move rfl rfl) ?_
  refine OpsJ.yld rfl rfl rfl (Yld.strEq rfl rfl rfl) ?_
  refine OpsJ.nil ?_
  refine ExJ.thenN ?_
  refine CodeJ.cond rfl (fun c6 => ?_) (fun c6 => ?_)
  · have h1 : s.data.toList = [46] := by simpa [toList_eq] using c6
    refine CodeJ.seq ?_
    refine CodeJ.region ?_
    refine OpsJ.yld rfl rfl rfl (Yld.assign rfl rfl) ?_
    refine OpsJ.nil ?_
    refine ExJ.thenN ?_
    refine CodeJ.ret ?_
    refine ExJ.thenR ?_
    exact ExJ.ret1 Tryd.results18 rfl ⟨by simp [nameOk, h1], rfl⟩ fun w hI => hI
  · have h1 : (s.data.toList == [46]) = false := by simpa [toList_eq] using c6
    refine CodeJ.skip ?_
    refine ExJ.thenN ?_
    refine CodeJ.seq ?_
    refine CodeJ.region ?_
    refine OpsJ.yld rfl rfl rfl (Yld.assign rfl rfl) ?_
    refine OpsJ.nil ?_
    refine ExJ.thenN ?_
    refine CodeJ.seq ?_
    refine CodeJ.seq ?_
    refine CodeJ.region ?_
    refine OpsJ.yld rfl rfl rfl (Yld.move rfl rfl) ?_
    refine OpsJ.yld rfl rfl rfl (Yld.lenString rfl rfl rfl Tryd.underlying9 rfl) ?_
    refine OpsJ.yld rfl rfl rfl (Yld.move rfl rfl) ?_
    refine OpsJ.nil ?_
    refine ExJ.thenN ?_
    refine CodeJ.block ?_
    refine CodeJ.loopP (fun L H m => ∃ (k c : Nat), k ≤ s.size ∧ nok (s.data.toList.take k) = some c ∧ L = [(0, .string s), (3, .int .i64 c), (8, .int .i64 s.size), (9, .int .i64 k)] ∧ H = [] ∧ m = s.size - k) ⟨0, 0, Nat.zero_le _, rfl, rfl, rfl, rfl⟩ ⟨rfl, rfl, rfl, rfl, trivial⟩ (fun w hI => hI) ?_
    rintro _ _ _ ⟨k, c, hk, hst, rfl, rfl, rfl⟩
    refine CodeJ.seq ?_
    refine CodeJ.region ?_
    refine OpsJ.yld rfl rfl rfl (Yld.intBin rfl rfl rfl rfl) ?_
    refine OpsJ.nil ?_
    refine ExJ.thenN ?_
    refine CodeJ.seq ?_
    refine CodeJ.condP rfl (fun c10 => ?_) (fun c10 => ?_)
    · have hk' : k < s.size := by omega
      obtain ⟨x, hx⟩ := str_get s k hk'
      have hnx : nok (s.data.toList.take (k + 1)) = nokStep (some c) x := by rw [take_snoc _ _ _ hx, nok_snoc, hst]
      have hle := nok_le _ _ hst
      simp only [List.length_take, str_len] at hle
      refine CodeJ.skip ?_
      refine ExJ.thenN ?_
      refine CodeJ.seq ?_
      refine CodeJ.block ?_
      refine CodeJ.seq ?_
      refine CodeJ.region ?_
      refine OpsJ.yld rfl rfl rfl (Yld.move rfl rfl) ?_
      refine OpsJ.yld rfl rfl rfl (Yld.assign rfl rfl) ?_
      refine OpsJ.nil ?_
      refine ExJ.thenN ?_
      refine CodeJ.seq ?_
      refine CodeJ.seq ?_
      refine CodeJ.region ?_
      refine OpsJ.yld rfl rfl rfl (Yld.move rfl rfl) ?_
      refine OpsJ.yld rfl rfl rfl (Yld.move rfl rfl) ?_
      refine OpsJ.yld rfl rfl rfl (Yld.index rfl Tryd.underlying9 rfl rfl hx) ?_
      refine OpsJ.yld rfl rfl rfl (Yld.intBin rfl rfl rfl rfl) ?_
      refine OpsJ.nil ?_
      refine ExJ.thenN ?_
      refine CodeJ.cond rfl (fun c15 => ?_) (fun c15 => ?_)
      · have hdot : x ≠ 46 := (dot_iff x).1 c15
        refine CodeJ.seq ?_
        refine CodeJ.region ?_
        refine OpsJ.yld rfl rfl rfl (Yld.move rfl rfl) ?_
        refine OpsJ.yld rfl rfl rfl (Yld.intBin rfl rfl rfl rfl) ?_
        rw [i64_succ c (by omega)]
        refine OpsJ.yld rfl rfl rfl (Yld.assign rfl rfl) ?_
        refine OpsJ.nil ?_
        refine ExJ.thenN ?_
        refine CodeJ.exit ?_
        refine ExJ.thenX ?_
        refine ExJ.blockHit ?_
        refine ExJ.thenN ?_
        refine CodeJ.region ?_
        refine OpsJ.yld rfl rfl rfl (Yld.intBin rfl rfl rfl rfl) ?_
        rw [i64_succ k (by omega)]
        refine OpsJ.yld rfl rfl rfl (Yld.move rfl rfl) ?_
        refine OpsJ.nil ?_
        exact ExJ.againP ⟨k + 1, c + 1, by omega, by rw [hnx, nokStep, if_pos hdot], rfl, rfl, rfl⟩ (by omega) ⟨rfl, rfl, rfl, rfl, trivial⟩ fun w hI => hI
      · have hdot : x = 46 := (dot_iff' x).1 c15
        refine CodeJ.skip ?_
        refine ExJ.thenN ?_
        refine CodeJ.seq ?_
        refine CodeJ.seq ?_
        refine CodeJ.region ?_
        refine OpsJ.yld rfl rfl rfl (Yld.move rfl rfl) ?_
        refine OpsJ.yld rfl rfl rfl (Yld.intBin rfl rfl rfl rfl) ?_
        refine OpsJ.yld rfl rfl rfl (Yld.move rfl rfl) ?_
        refine OpsJ.splitB (s := 20) rfl (fun g20 => ?_) (fun g20 => ?_)
        · have hc0 : c = 0 := by simpa using g20
          have hbad : nok s.data.toList = none := by
            rw [← List.take_append_drop (k + 1) s.data.toList]
            exact nok_none _ _ (by simp [hnx, nokStep, hdot, hc0])
          refine OpsJ.opF rfl rfl rfl rfl rfl rfl ?_
          refine OpsJ.opF rfl rfl rfl rfl rfl rfl ?_
          refine OpsJ.yld rfl rfl rfl (Yld.pickT rfl rfl rfl) ?_
          refine OpsJ.nil ?_
          refine ExJ.thenN ?_
          refine CodeJ.condT rfl ?_
          refine CodeJ.seq ?_
          refine CodeJ.region ?_
          refine OpsJ.yld rfl rfl rfl (Yld.assign rfl rfl) ?_
          refine OpsJ.nil ?_
          refine ExJ.thenN ?_
          refine CodeJ.ret ?_
          refine ExJ.thenR ?_
          refine ExJ.blockR ?_
          refine ExJ.thenR ?_
          refine ExJ.thenR ?_
          refine ExJ.blockR ?_
          refine ExJ.thenR ?_
          exact ExJ.ret1 Tryd.results18 rfl ⟨by simp [nameOk, h1, hbad], rfl⟩ fun w hI => hI
        · have hc0 : ¬ c = 0 := by simpa using g20
          refine OpsJ.opT rfl rfl rfl ?_
          refine OpJ.yld rfl rfl (Yld.move rfl rfl) ?_
          refine OpsJ.opT rfl rfl rfl ?_
          refine OpJ.yld rfl rfl (Yld.intBin rfl rfl rfl rfl) ?_
          refine OpsJ.yld rfl rfl rfl (Yld.pickF rfl rfl rfl) ?_
          refine OpsJ.nil ?_
          refine ExJ.thenN ?_
          refine CodeJ.condP rfl (fun c23 => ?_) (fun c23 => ?_)
          · have hc63 : 63 < c := by omega
            have hbad : nok s.data.toList = none := by
              rw [← List.take_append_drop (k + 1) s.data.toList]
              exact nok_none _ _ (by simp [hnx, nokStep, hdot, hc63])
            refine CodeJ.seq ?_
            refine CodeJ.region ?_
            refine OpsJ.yld rfl rfl rfl (Yld.assign rfl rfl) ?_
            refine OpsJ.nil ?_
            refine ExJ.thenN ?_
            refine CodeJ.ret ?_
            refine ExJ.thenR ?_
            refine ExJ.blockR ?_
            refine ExJ.thenR ?_
            refine ExJ.thenR ?_
            refine ExJ.blockR ?_
            refine ExJ.thenR ?_
            exact ExJ.ret1 Tryd.results18 rfl ⟨by simp [nameOk, h1, hbad], rfl⟩ fun w hI => hI
          · have hc63 : ¬ 63 < c := by omega
            refine CodeJ.skip ?_
            refine ExJ.thenN ?_
            refine CodeJ.region ?_
            refine OpsJ.yld rfl rfl rfl (Yld.assign rfl rfl) ?_
            refine OpsJ.nil ?_
            refine ExJ.blockN ?_
            refine ExJ.thenN ?_
            refine CodeJ.region ?_
            refine OpsJ.yld rfl rfl rfl (Yld.intBin rfl rfl rfl rfl) ?_
            rw [i64_succ k (by omega)]
            refine OpsJ.yld rfl rfl rfl (Yld.move rfl rfl) ?_
            refine OpsJ.nil ?_
            exact ExJ.againP ⟨k + 1, 0, by omega, by simp [hnx, nokStep, hdot, hc0, hc63], rfl, rfl, rfl⟩ (by omega) ⟨rfl, rfl, rfl, rfl, trivial⟩ fun w hI => hI
    · obtain rfl : k = s.size := by omega
      have hn : nok s.data.toList = some c := by
        have ht : s.data.toList.take s.size = s.data.toList := List.take_of_length_le (by simp)
        rw [← ht, hst]
      refine CodeJ.exit ?_
      refine ExJ.thenX ?_
      refine ExJ.thenX ?_
      refine ExJ.blockHit ?_
      refine ExJ.thenN ?_
      refine CodeJ.seq ?_
      refine CodeJ.region ?_
      refine OpsJ.yld rfl rfl rfl (Yld.move rfl rfl) ?_
      refine OpsJ.yld rfl rfl rfl (Yld.intBin rfl rfl rfl rfl) ?_
      refine OpsJ.yld rfl rfl rfl (Yld.move rfl rfl) ?_
      refine OpsJ.splitB (s := 27) rfl (fun g27 => ?_) (fun g27 => ?_)
      · have hc0 : c = 0 := by simpa using g27
        refine OpsJ.opT rfl rfl rfl ?_
        refine OpJ.yld rfl rfl (Yld.move rfl rfl) ?_
        refine OpsJ.opT rfl rfl rfl ?_
        refine OpJ.yld rfl rfl (Yld.lenString rfl rfl rfl Tryd.underlying9 rfl) ?_
        refine OpsJ.opT rfl rfl rfl ?_
        refine OpJ.yld rfl rfl (Yld.intBin rfl rfl rfl rfl) ?_
        refine OpsJ.yld rfl rfl rfl (Yld.pickT rfl rfl rfl) ?_
        refine OpsJ.yld rfl rfl rfl (Yld.move rfl rfl) ?_
        refine OpsJ.splitP (s := 32) rfl (fun g32 => ?_) (fun g32 => ?_)
        · have hl1 : 1 < s.size := by omega
          refine OpsJ.opT rfl rfl rfl ?_
          refine OpJ.yld rfl rfl (Yld.move rfl rfl) ?_
          refine OpsJ.opT rfl rfl rfl ?_
          refine OpJ.yld rfl rfl (Yld.lenString rfl rfl rfl Tryd.underlying9 rfl) ?_
          refine OpsJ.opT rfl rfl rfl ?_
          refine OpJ.yld rfl rfl (Yld.intBin rfl rfl rfl rfl) ?_
          refine OpsJ.yld rfl rfl rfl (Yld.pickT rfl rfl rfl) ?_
          refine OpsJ.yld rfl rfl rfl (Yld.assign rfl rfl) ?_
          refine OpsJ.nil ?_
          refine ExJ.thenN ?_
          refine CodeJ.ret ?_
          exact ExJ.ret1 Tryd.results18 rfl ⟨by simp [nameOk, h1, hn, hc0, hl1]; omega, rfl⟩ fun w hI => hI
        · have hl1 : ¬ 1 < s.size := by omega
          refine OpsJ.opF rfl rfl rfl rfl rfl rfl ?_
          refine OpsJ.opF rfl rfl rfl rfl rfl rfl ?_
          refine OpsJ.opF rfl rfl rfl rfl rfl rfl ?_
          refine OpsJ.yld rfl rfl rfl (Yld.pickF rfl rfl rfl) ?_
          refine OpsJ.yld rfl rfl rfl (Yld.assign rfl rfl) ?_
          refine OpsJ.nil ?_
          refine ExJ.thenN ?_
          refine CodeJ.ret ?_
          exact ExJ.ret1 Tryd.results18 rfl ⟨by simp [nameOk, h1, hn, hc0, hl1], rfl⟩ fun w hI => hI
      · have hc0 : ¬ c = 0 := by simpa using g27
        refine OpsJ.opF rfl rfl rfl rfl rfl rfl ?_
        refine OpsJ.opF rfl rfl rfl rfl rfl rfl ?_
        refine OpsJ.opF rfl rfl rfl rfl rfl rfl ?_
        refine OpsJ.yld rfl rfl rfl (Yld.pickF rfl rfl rfl) ?_
        refine OpsJ.yld rfl rfl rfl (Yld.move rfl rfl) ?_
        refine OpsJ.opF rfl rfl rfl rfl rfl rfl ?_
        refine OpsJ.opF rfl rfl rfl rfl rfl rfl ?_
        refine OpsJ.opF rfl rfl rfl rfl rfl rfl ?_
        refine OpsJ.yld rfl rfl rfl (Yld.pickF rfl rfl rfl) ?_
        refine OpsJ.yld rfl rfl rfl (Yld.assign rfl rfl) ?_
        refine OpsJ.nil ?_
        refine ExJ.thenN ?_
        refine CodeJ.ret ?_
        exact ExJ.ret1 Tryd.results18 rfl ⟨by simp [nameOk, h1, hn, hc0], rfl⟩ fun w hI => hI

theorem longLabel_spec (s : ByteArray) (hs : s.size ≤ 140737488355328) : Spec Tryd.prog 24 [.string s] [] (fun _ => True) (fun r H' => r = .bool (longLabel s.data.toList) ∧ H' = []) := by
  refine Spec.of Tryd.func24 rfl Tryd.ntmps24 rfl fun w0 _ => ?_
  refine CodeJ.seq ?_
  refine CodeJ.region ?_
  refine OpsJ.yld rfl rfl rfl (Yld.assign rfl rfl) ?_
  refine OpsJ.nil ?_
  refine ExJ.thenN ?_
  refine CodeJ.seq ?_
  refine CodeJ.region ?_
  refine OpsJ.yld rfl rfl rfl (Yld.assign rfl rfl) ?_
  refine OpsJ.nil ?_
  refine ExJ.thenN ?_
  refine CodeJ.seq ?_
  refine CodeJ.region ?_
  refine OpsJ.yld rfl rfl rfl (Yld.assign rfl rfl) ?_
  refine OpsJ.nil ?_
  refine ExJ.thenN ?_
  refine CodeJ.seq ?_
  refine CodeJ.seq ?_
  refine CodeJ.region ?_
  refine OpsJ.yld rfl rfl rfl (Yld.move rfl rfl) ?_
  refine OpsJ.yld rfl rfl rfl (Yld.lenString rfl rfl rfl Tryd.underlying9 rfl) ?_
  refine OpsJ.yld rfl rfl rfl (Yld.move rfl rfl) ?_
  refine OpsJ.nil ?_
  refine ExJ.thenN ?_
  refine CodeJ.block ?_
  refine CodeJ.loopP (fun L H m => ∃ (k c : Nat) (b : Bool), k ≤ s.size ∧ ll (s.data.toList.take k) = (c, b) ∧ L = [(0, .string s), (3, .int .i64 c), (4, .bool b), (7, .int .i64 s.size), (8, .int .i64 k)] ∧ H = [] ∧ m = s.size - k) ⟨0, 0, false, Nat.zero_le _, rfl, rfl, rfl, rfl⟩ ⟨rfl, rfl, rfl, rfl, rfl, trivial⟩ (fun w hI => hI) ?_
  rintro _ _ _ ⟨k, c, b, hk, hst, rfl, rfl, rfl⟩
  refine CodeJ.seq ?_
  refine CodeJ.region ?_
  refine OpsJ.yld rfl rfl rfl (Yld.intBin rfl rfl rfl rfl) ?_
  refine OpsJ.nil ?_
  refine ExJ.thenN ?_
  refine CodeJ.seq ?_
  refine CodeJ.condP rfl (fun c9 => ?_) (fun c9 => ?_)
  · have hk' : k < s.size := by omega
    obtain ⟨x, hx⟩ := str_get s k hk'
    have hnx : ll (s.data.toList.take (k + 1)) = llStep (c, b) x := by rw [take_snoc _ _ _ hx, ll_snoc, hst]
    have hle := ll_le (s.data.toList.take k)
    rw [hst] at hle
    simp only [List.length_take, str_len] at hle
    refine CodeJ.skip ?_
    refine ExJ.thenN ?_
    refine CodeJ.seq ?_
    refine CodeJ.block ?_
    refine CodeJ.seq ?_
    refine CodeJ.region ?_
    refine OpsJ.yld rfl rfl rfl (Yld.move rfl rfl) ?_
    refine OpsJ.yld rfl rfl rfl (Yld.assign rfl rfl) ?_
    refine OpsJ.nil ?_
    refine ExJ.thenN ?_
    refine CodeJ.seq ?_
    refine CodeJ.region ?_
    refine OpsJ.yld rfl rfl rfl (Yld.move rfl rfl) ?_
    refine OpsJ.yld rfl rfl rfl (Yld.intBin rfl rfl rfl rfl) ?_
    rw [i64_succ c (by omega)]
    refine OpsJ.yld rfl rfl rfl (Yld.assign rfl rfl) ?_
    refine OpsJ.nil ?_
    refine ExJ.thenN ?_
    refine CodeJ.seq ?_
    refine CodeJ.seq ?_
    refine CodeJ.region ?_
    refine OpsJ.yld rfl rfl rfl (Yld.move rfl rfl) ?_
    refine OpsJ.yld rfl rfl rfl (Yld.move rfl rfl) ?_
    refine OpsJ.yld rfl rfl rfl (Yld.index rfl Tryd.underlying9 rfl rfl hx) ?_
    refine OpsJ.yld rfl rfl rfl (Yld.intBin rfl rfl rfl rfl) ?_
    refine OpsJ.nil ?_
    refine ExJ.thenN ?_
    refine CodeJ.cond rfl (fun c16 => ?_) (fun c16 => ?_)
    · have hdot : x = 46 := (dotE x).1 c16
      refine CodeJ.region ?_
      refine OpsJ.yld rfl rfl rfl (Yld.assign rfl rfl) ?_
      refine OpsJ.nil ?_
      refine ExJ.thenN ?_
      refine CodeJ.region ?_
      refine OpsJ.yld rfl rfl rfl (Yld.move rfl rfl) ?_
      refine OpsJ.yld rfl rfl rfl (Yld.move rfl rfl) ?_
      refine OpsJ.splitB (s := 18) rfl (fun g18 => ?_) (fun g18 => ?_)
      · have hb : b = true := g18
        refine OpsJ.opF rfl rfl rfl rfl rfl rfl ?_
        refine OpsJ.opF rfl rfl rfl rfl rfl rfl ?_
        refine OpsJ.yld rfl rfl rfl (Yld.pickT rfl rfl rfl) ?_
        refine OpsJ.yld rfl rfl rfl (Yld.assign rfl rfl) ?_
        refine OpsJ.nil ?_
        refine ExJ.blockN ?_
        refine ExJ.thenN ?_
        refine CodeJ.region ?_
        refine OpsJ.yld rfl rfl rfl (Yld.intBin rfl rfl rfl rfl) ?_
        rw [i64_succ k (by omega)]
        refine OpsJ.yld rfl rfl rfl (Yld.move rfl rfl) ?_
        refine OpsJ.nil ?_
        exact ExJ.againP ⟨k + 1, 0, true, by omega, by simp [hnx, llStep, hdot, hb], rfl, rfl, rfl⟩ (by omega) ⟨rfl, rfl, rfl, rfl, rfl, trivial⟩ fun w hI => hI
      · have hb : b = false := g18
        refine OpsJ.opT rfl rfl rfl ?_
        refine OpJ.yld rfl rfl (Yld.move rfl rfl) ?_
        refine OpsJ.opT rfl rfl rfl ?_
        refine OpJ.yld rfl rfl (Yld.intBin rfl rfl rfl rfl) ?_
        refine OpsJ.yld rfl rfl rfl (Yld.pickF rfl rfl rfl) ?_
        refine OpsJ.yld rfl rfl rfl (Yld.assign rfl rfl) ?_
        refine OpsJ.nil ?_
        refine ExJ.blockN ?_
        refine ExJ.thenN ?_
        refine CodeJ.region ?_
        refine OpsJ.yld rfl rfl rfl (Yld.intBin rfl rfl rfl rfl) ?_
        rw [i64_succ k (by omega)]
        refine OpsJ.yld rfl rfl rfl (Yld.move rfl rfl) ?_
        refine OpsJ.nil ?_
        exact ExJ.againP ⟨k + 1, 0, false, by omega, by simp [hnx, llStep, hdot, hb], rfl, rfl, rfl⟩ (by omega) ⟨rfl, rfl, rfl, rfl, rfl, trivial⟩ fun w hI => hI
    · have hdot : ¬ x = 46 := (dotE' x).1 c16
      refine CodeJ.skip ?_
      refine ExJ.thenN ?_
      refine CodeJ.region ?_
      refine OpsJ.yld rfl rfl rfl (Yld.move rfl rfl) ?_
      refine OpsJ.yld rfl rfl rfl (Yld.move rfl rfl) ?_
      refine OpsJ.splitB (s := 18) rfl (fun g18 => ?_) (fun g18 => ?_)
      · have hb : b = true := g18
        refine OpsJ.opF rfl rfl rfl rfl rfl rfl ?_
        refine OpsJ.opF rfl rfl rfl rfl rfl rfl ?_
        refine OpsJ.yld rfl rfl rfl (Yld.pickT rfl rfl rfl) ?_
        refine OpsJ.yld rfl rfl rfl (Yld.assign rfl rfl) ?_
        refine OpsJ.nil ?_
        refine ExJ.blockN ?_
        refine ExJ.thenN ?_
        refine CodeJ.region ?_
        refine OpsJ.yld rfl rfl rfl (Yld.intBin rfl rfl rfl rfl) ?_
        rw [i64_succ k (by omega)]
        refine OpsJ.yld rfl rfl rfl (Yld.move rfl rfl) ?_
        refine OpsJ.nil ?_
        exact ExJ.againP ⟨k + 1, c + 1, true, by omega, by simp [hnx, llStep, hdot, hb], rfl, rfl, rfl⟩ (by omega) ⟨rfl, rfl, rfl, rfl, rfl, trivial⟩ fun w hI => hI
      · have hb : b = false := g18
        refine OpsJ.opT rfl rfl rfl ?_
        refine OpJ.yld rfl rfl (Yld.move rfl rfl) ?_
        refine OpsJ.opT rfl rfl rfl ?_
        refine OpJ.yld rfl rfl (Yld.intBin rfl rfl rfl rfl) ?_
        refine OpsJ.yld rfl rfl rfl (Yld.pickF rfl rfl rfl) ?_
        refine OpsJ.yld rfl rfl rfl (Yld.assign rfl rfl) ?_
        refine OpsJ.nil ?_
        refine ExJ.blockN ?_
        refine ExJ.thenN ?_
        refine CodeJ.region ?_
        refine OpsJ.yld rfl rfl rfl (Yld.intBin rfl rfl rfl rfl) ?_
        rw [i64_succ k (by omega)]
        refine OpsJ.yld rfl rfl rfl (Yld.move rfl rfl) ?_
        refine OpsJ.nil ?_
        exact ExJ.againP ⟨k + 1, c + 1, _, by omega, by simp only [hnx, llStep, if_neg hdot, hb, Bool.false_or, Prod.mk.injEq, true_and]; exact decide_eq_decide.2 (by omega), rfl, rfl, rfl⟩ (by omega) ⟨rfl, rfl, rfl, rfl, rfl, trivial⟩ fun w hI => hI
  · obtain rfl : k = s.size := by omega
    have hn : ll s.data.toList = (c, b) := by
      have ht : s.data.toList.take s.size = s.data.toList := List.take_of_length_le (by simp)
      rw [← ht, hst]
    refine CodeJ.exit ?_
    refine ExJ.thenX ?_
    refine ExJ.thenX ?_
    refine ExJ.blockHit ?_
    refine ExJ.thenN ?_
    refine CodeJ.seq ?_
    refine CodeJ.region ?_
    refine OpsJ.yld rfl rfl rfl (Yld.move rfl rfl) ?_
    refine OpsJ.yld rfl rfl rfl (Yld.move rfl rfl) ?_
    refine OpsJ.splitB (s := 24) rfl (fun g24 => ?_) (fun g24 => ?_)
    · have hb : b = true := g24
      refine OpsJ.opT rfl rfl rfl ?_
      refine OpJ.yld rfl rfl (Yld.move rfl rfl) ?_
      refine OpsJ.opT rfl rfl rfl ?_
      refine OpJ.yld rfl rfl (Yld.intBin rfl rfl rfl rfl) ?_
      refine OpsJ.yld rfl rfl rfl (Yld.pickT rfl rfl rfl) ?_
      refine OpsJ.yld rfl rfl rfl (Yld.move rfl rfl) ?_
      refine OpsJ.splitB (s := 28) rfl (fun g28 => ?_) (fun g28 => ?_)
      · have hc0 : c = 0 := by simpa using g28
        refine OpsJ.opT rfl rfl rfl ?_
        refine OpJ.yld rfl rfl (Yld.move rfl rfl) ?_
        refine OpsJ.opT rfl rfl rfl ?_
        refine OpJ.yld rfl rfl (Yld.lenString rfl rfl rfl Tryd.underlying9 rfl) ?_
        refine OpsJ.opT rfl rfl rfl ?_
        refine OpJ.yld rfl rfl (Yld.intBin rfl rfl rfl rfl) ?_
        refine OpsJ.yld rfl rfl rfl (Yld.pickT rfl rfl rfl) ?_
        refine OpsJ.yld rfl rfl rfl (Yld.assign rfl rfl) ?_
        refine OpsJ.nil ?_
        refine ExJ.thenN ?_
        refine CodeJ.ret ?_
        exact ExJ.ret1 Tryd.results24 rfl ⟨by simp [longLabel, hn, hb, hc0]; omega, rfl⟩ fun w hI => hI
      · have hc0 : ¬ c = 0 := by simpa using g28
        refine OpsJ.opF rfl rfl rfl rfl rfl rfl ?_
        refine OpsJ.opF rfl rfl rfl rfl rfl rfl ?_
        refine OpsJ.opF rfl rfl rfl rfl rfl rfl ?_
        refine OpsJ.yld rfl rfl rfl (Yld.pickF rfl rfl rfl) ?_
        refine OpsJ.yld rfl rfl rfl (Yld.assign rfl rfl) ?_
        refine OpsJ.nil ?_
        refine ExJ.thenN ?_
        refine CodeJ.ret ?_
        exact ExJ.ret1 Tryd.results24 rfl ⟨by simp [longLabel, hn, hb, hc0], rfl⟩ fun w hI => hI
    · have hb : b = false := g24
      refine OpsJ.opF rfl rfl rfl rfl rfl rfl ?_
      refine OpsJ.opF rfl rfl rfl rfl rfl rfl ?_
      refine OpsJ.yld rfl rfl rfl (Yld.pickF rfl rfl rfl) ?_
      refine OpsJ.yld rfl rfl rfl (Yld.move rfl rfl) ?_
      refine OpsJ.opF rfl rfl rfl rfl rfl rfl ?_
      refine OpsJ.opF rfl rfl rfl rfl rfl rfl ?_
      refine OpsJ.opF rfl rfl rfl rfl rfl rfl ?_
      refine OpsJ.yld rfl rfl rfl (Yld.pickF rfl rfl rfl) ?_
      refine OpsJ.yld rfl rfl rfl (Yld.assign rfl rfl) ?_
      refine OpsJ.nil ?_
      refine ExJ.thenN ?_
      refine CodeJ.ret ?_
      exact ExJ.ret1 Tryd.results24 rfl ⟨by simp [longLabel, hn, hb], rfl⟩ fun w hI => hI
end Go.Proofs.YtdiememgbnplkaaDoor
