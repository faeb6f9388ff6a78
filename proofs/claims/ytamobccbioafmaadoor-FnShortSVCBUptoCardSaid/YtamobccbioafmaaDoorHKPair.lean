/-
  Contracts of the reference: options and parameters are written; do they ascend?
-/
import Derived.Test.YtamobccbioafmaaDoorBg
import Derived.Test.YtamobccbioafmaaDoorHBodyP
namespace Go.Proofs.YtamobccbioafmaaDoor
open Go
set_option maxRecDepth 100000

theorem pairs_spec (v : Value) (ps : List PairD) (hl : (pairsW ps).length ≤ 4398046511104) :
    Spec Tryd.prog 69 [v] [] (fun w => PairsB w v ps) (RetB 5 (pairsW ps)) := by
  refine Spec.of Tryd.func69 rfl Tryd.ntmps69 rfl fun w0 hp => ?_
  obtain ⟨hrow, hdat⟩ := hp
  obtain ⟨pa, ca, rfl⟩ := Row.shape hrow
  have hnl : ps.length ≤ 4398046511104 := by
    have : ∀ l : List PairD, l.length ≤ (pairsW l).length := fun l => by
      induction l with
      | nil => simp
      | cons p r ih =>
        rw [pairsW_cons, List.length_append, pairW_len, List.length_cons]
        omega
    exact Nat.le_trans (this ps) hl
  refine CodeJ.seq ?_
  refine CodeJ.region ?_
  refine OpsJ.yld rfl rfl rfl (Yld.assign rfl rfl) ?_
  refine OpsJ.nil ?_
  refine ExJ.thenN ?_
  refine CodeJ.seq ?_
  refine CodeJ.region ?_
  refine OpsJ.op rfl ?_
  refine OpJ.buildSlice (xs := []) elt_31 rfl rfl rfl rfl rfl rfl (by rfl) (by decide) fun out hout => ?_
  refine OpsJ.yld rfl rfl rfl (Yld.assign rfl rfl) ?_
  refine OpsJ.nil ?_
  refine ExJ.thenN ?_
  refine CodeJ.seq ?_
  refine CodeJ.seq ?_
  refine CodeJ.region ?_
  refine OpsJ.yld rfl rfl rfl (Yld.move rfl rfl) ?_
  refine OpsJ.yld rfl rfl rfl (Yld.lenSlice rfl rfl rfl Tryd.underlying84 rfl) ?_
  refine OpsJ.yld rfl rfl rfl (Yld.move rfl rfl) ?_
  refine OpsJ.nil ?_
  refine ExJ.thenN ?_
  refine CodeJ.block ?_
  refine CodeJ.loopP (fun L H m => ∃ (k : Nat) (p : Option Addr) (q : Nat), k ≤ ps.length ∧ L = [(3, .slice p (pairsW (ps.take k)).length q), (7, .slice pa ps.length ca), (8, .int .i64 ps.length), (9, .int .i64 k)] ∧ H = [ownB 5 (.slice p (pairsW (ps.take k)).length q) (pairsW (ps.take k))] ∧ m = ps.length - k) ⟨0, _, _, Nat.zero_le _, rfl, rfl, rfl⟩ ⟨rfl, rfl, rfl, rfl, trivial⟩ (fun w hI => hI) ?_
  rintro _ _ _ ⟨k, p, q, hk, rfl, rfl, rfl⟩
  refine CodeJ.seq ?_
  refine CodeJ.region ?_
  refine OpsJ.yld rfl rfl rfl (Yld.intBin rfl rfl rfl rfl) ?_
  refine OpsJ.nil ?_
  refine ExJ.thenN ?_
  refine CodeJ.seq ?_
  refine CodeJ.condP rfl (fun c10 => ?_) (fun c10 => ?_)
  · have hk' : k < ps.length := by omega
    obtain ⟨x, hx⟩ : ∃ x, ps[k]? = some x := ⟨ps[k], List.getElem?_eq_getElem hk'⟩
    obtain ⟨b, off, c', hpv, hcell⟩ := Row.at hrow (by simp [PairD.cells]) (by simp) hk'
    simp only [Value.slice.injEq] at hpv
    obtain ⟨rfl, _, rfl⟩ := hpv
    have hcx := hcell x.cells (by simp [hx])
    have hxb := hdat x (List.mem_of_getElem? hx)
    have hnx0 := pairsW_take ps k x hx
    have hlt : (pairsW (ps.take (k + 1))).length ≤ 4398046511104 := Nat.le_trans (sized_take pairW ps (k + 1)) hl
    obtain ⟨pd, cd, hsd⟩ := hxb.shape
    obtain ⟨key, dv, data⟩ := x
    simp only at hsd hxb
    subst hsd
    have hnx : pairsW (ps.take (k + 1)) = [pairsW (ps.take k), be16 key, be16 (data.length % 65536), data].flatten := by rw [hnx0]; simp [pairW]
    rw [hnx] at hlt
    refine CodeJ.skip ?_
    refine ExJ.thenN ?_
    refine CodeJ.seq ?_
    refine CodeJ.block ?_
    refine CodeJ.seq ?_
    refine CodeJ.region ?_
    refine OpsJ.yld rfl rfl rfl (Yld.indexAddr rfl Tryd.underlying84 sz_161 rfl rfl hk') ?_
    refine OpsJ.yld rfl rfl rfl (Yld.loadN (vs := PairD.cells ⟨key, .slice pd data.length cd, data⟩) rfl Tryd.underlying161 rfl sz_161 rfl (fun w hI => hI.old hcx (by simp [fp]))) ?_
    refine OpsJ.op rfl ?_
    refine OpJ.alloc rfl rfl rfl zero_161 fun ab hab => ?_
    refine OpsJ.op rfl ?_
    refine OpJ.storeW (i := 0) rfl rfl rfl rfl sz_161 rfl (PairD.oneB hxb) rfl ?_
    refine OpsJ.nil ?_
    refine ExJ.thenN ?_
    refine CodeJ.any (fuel := 14) (listed := #[false, false, false, false, false, false, false, false, false, false, false, false, false, false]) [0, 1] rfl follows_mixed rfl rfl ?_
    refine AnyJ.take (fuel := 13) (listed' := #[true, false, false, false, false, false, false, false, false, false, false, false, false, false]) 0 rfl (by kernel_rfl) (by kernel_rfl) (by kernel_rfl) rfl rfl rfl rfl (Yld.move rfl rfl) (fun w hI => hI.pick (is := [0, 1]) (by decide) rfl) ?_
    refine AnyJ.take (fuel := 12) (listed' := #[true, true, false, false, false, false, false, false, false, false, false, false, false, false]) 1 rfl (by kernel_rfl) (by kernel_rfl) (by kernel_rfl) rfl rfl rfl rfl (Yld.fieldAddr fa_161_0 rfl rfl) (fun w hI => hI.pick (is := [0, 1]) (by decide) rfl) ?_
    refine AnyJ.take (fuel := 11) (listed' := #[true, true, true, false, false, false, false, false, false, false, false, false, false, false]) 2 rfl (by kernel_rfl) (by kernel_rfl) (by kernel_rfl) rfl rfl rfl rfl (Yld.load1 rfl Tryd.underlying22 rfl rfl (fun w hI => Inv.cell1 hI (i := 0) rfl rfl)) (fun w hI => hI.pick (is := [0, 1]) (by decide) rfl) ?_
    refine AnyJ.take (fuel := 10) (listed' := #[true, true, true, false, true, false, false, false, false, false, false, false, false, false]) 4 rfl (by kernel_rfl) (by kernel_rfl) (by kernel_rfl) rfl rfl rfl rfl (Yld.fieldAddr fa_161_1 rfl rfl) (fun w hI => hI.pick (is := [0, 1]) (by decide) rfl) ?_
    refine AnyJ.take (fuel := 9) (listed' := #[true, true, true, false, true, true, false, false, false, false, false, false, false, false]) 5 rfl (by kernel_rfl) (by kernel_rfl) (by kernel_rfl) rfl rfl rfl rfl (Yld.load1 rfl Tryd.underlying31 rfl rfl (fun w hI => Inv.cell1 hI (i := 0) rfl rfl)) (fun w hI => hI.pick (is := [0, 1]) (by decide) rfl) ?_
    refine AnyJ.take (fuel := 8) (listed' := #[true, true, true, false, true, true, true, false, false, false, false, false, false, false]) 6 rfl (by kernel_rfl) (by kernel_rfl) (by kernel_rfl) rfl rfl rfl rfl (Yld.lenSlice rfl rfl rfl Tryd.underlying31 rfl) (fun w hI => hI.pick (is := [0, 1]) (by decide) rfl) ?_
    refine AnyJ.take (fuel := 7) (listed' := #[true, true, true, false, true, true, true, true, false, false, false, false, false, false]) 7 rfl (by kernel_rfl) (by kernel_rfl) (by kernel_rfl) rfl rfl rfl rfl (Yld.convInt rfl Tryd.underlying3 Tryd.underlying22 rfl) (fun w hI => hI.pick (is := [0, 1]) (by decide) rfl) ?_
    rw [u16_wrap]
    refine AnyJ.take (fuel := 6) (listed' := #[true, true, true, false, true, true, true, true, false, true, false, false, false, false]) 9 rfl (by kernel_rfl) (by kernel_rfl) (by kernel_rfl) rfl rfl rfl rfl (Yld.fieldAddr fa_161_1 rfl rfl) (fun w hI => hI.pick (is := [0, 1]) (by decide) rfl) ?_
    refine AnyJ.take (fuel := 5) (listed' := #[true, true, true, false, true, true, true, true, false, true, true, false, false, false]) 10 rfl (by kernel_rfl) (by kernel_rfl) (by kernel_rfl) rfl rfl rfl rfl (Yld.load1 rfl Tryd.underlying31 rfl rfl (fun w hI => Inv.cell1 hI (i := 0) rfl rfl)) (fun w hI => hI.pick (is := [0, 1]) (by decide) rfl) ?_
    refine AnyJ.one (fuel := 4) 3 (by kernel_rfl) ?_
    refine StepJ.op (listed' := #[true, true, true, true, true, true, true, true, false, true, true, false, false, false]) rfl rfl rfl ?_
    refine OpJ.call (two_spec _) has_67 rfl rfl rfl rfl rfl [] [0, 1] (by decide) rfl rfl (fun _ _ => trivial) ?_
    rintro _ _ ⟨p16, c16, rfl, rfl⟩
    refine ⟨fun w hI => hI.pick (is := [1, 2]) (by decide) rfl, ?_⟩
    refine AnyJ.one (fuel := 3) 8 (by kernel_rfl) ?_
    refine StepJ.op (listed' := #[true, true, true, true, true, true, true, true, true, true, true, false, false, false]) rfl rfl rfl ?_
    refine OpJ.call (two_spec _) has_67 rfl rfl rfl rfl rfl [] [0, 1, 2] (by decide) rfl rfl (fun _ _ => trivial) ?_
    rintro _ _ ⟨p21, c21, rfl, rfl⟩
    refine ⟨fun w hI => hI.pick (is := [2, 3]) (by decide) rfl, ?_⟩
    refine AnyJ.one (fuel := 2) 11 (by kernel_rfl) ?_
    refine StepJ.op (listed' := #[true, true, true, true, true, true, true, true, true, true, true, true, false, false]) rfl rfl rfl ?_
    refine OpJ.buildSlice (xs := [.tmp 13, .tmp 16, .tmp 21, .tmp 23]) elt_162 rfl rfl rfl rfl rfl rfl (by rfl) (by decide) fun parts hparts => ?_
    refine ⟨fun w hI => hI.pick (is := [3, 4]) (by decide) rfl, ?_⟩
    refine AnyJ.one (fuel := 1) 12 (by kernel_rfl) ?_
    refine StepJ.op (listed' := #[true, true, true, true, true, true, true, true, true, true, true, true, true, false]) rfl rfl rfl ?_
    refine OpJ.call (joined_spec _ [pairsW (ps.take k), be16 key, be16 (data.length % 65536), data] (by omega) (by simp)) has_66 rfl rfl rfl rfl rfl [] [0, 1, 2, 3, 4] (by decide) rfl rfl (Inv.parts (i := 0) rfl rfl ⟨Inv.bytes (k := 4) rfl, Inv.bytes (k := 2) rfl, Inv.bytes (k := 1) rfl, fun w hI => hxb.keep hI.keep (by simp [fp]), trivial⟩) ?_
    rintro _ _ ⟨p25, c25, rfl, rfl⟩
    refine ⟨fun w hI => hI.pick (is := [4, 5]) (by decide) rfl, ?_⟩
    refine AnyJ.take (fuel := 0) (listed' := #[true, true, true, true, true, true, true, true, true, true, true, true, true, true]) 13 rfl (by kernel_rfl) (by kernel_rfl) (by kernel_rfl) rfl rfl rfl rfl (Yld.assign rfl rfl) (fun w hI => hI.pick (is := [4, 5]) (by decide) rfl) ?_
    refine AnyJ.done (by kernel_rfl) ?_
    refine ExJ.blockN ?_
    refine ExJ.thenN ?_
    refine CodeJ.region ?_
    refine OpsJ.yld rfl rfl rfl (Yld.intBin rfl rfl rfl rfl) ?_
    rw [i64_succ k (by omega)]
    refine OpsJ.yld rfl rfl rfl (Yld.move rfl rfl) ?_
    refine OpsJ.nil ?_
    exact ExJ.againP ⟨k + 1, p25, c25, by omega, rfl, rfl, rfl⟩ (by omega) ⟨by rw [hnx]; rfl, rfl, rfl, rfl, trivial⟩ fun w hI => by rw [hnx]; exact hI.pick (is := [0]) (by decide) rfl
  · obtain rfl : k = ps.length := by omega
    rw [List.take_length]
    refine CodeJ.exit ?_
    refine ExJ.thenX ?_
    refine ExJ.thenX ?_
    refine ExJ.blockHit ?_
    refine ExJ.thenN ?_
    refine CodeJ.seq ?_
    refine CodeJ.region ?_
    refine OpsJ.yld rfl rfl rfl (Yld.move rfl rfl) ?_
    refine OpsJ.yld rfl rfl rfl (Yld.assign rfl rfl) ?_
    refine OpsJ.nil ?_
    refine ExJ.thenN ?_
    refine CodeJ.ret ?_
    exact ExJ.retB Tryd.results69 rfl fun w hI => hI

theorem ascN_iff : ∀ ps : List PairD, ascN ps = true ↔ ∀ (i : Nat) (p q : PairD), ps[i]? = some p → ps[i + 1]? = some q → p.key < q.key
  | [] => by simp [ascN]
  | [p] => by simp [ascN]
  | p :: q :: r => by
    rw [ascN, Bool.and_eq_true, decide_eq_true_eq, ascN_iff (q :: r)]
    constructor
    · intro ⟨h1, h2⟩ i a b ha hb
      cases i with
      | zero =>
        simp at ha hb
        subst ha hb
        exact h1
      | succ i => exact h2 i a b (by simpa using ha) (by simpa using hb)
    · intro h
      exact ⟨h 0 p q rfl rfl, fun i a b ha hb => h (i + 1) a b (by simpa using ha) (by simpa using hb)⟩
theorem ascending_spec (v : Value) (ps : List PairD) (hn : ps.length ≤ 4398046511104000) : Spec Tryd.prog 62 [v] [] (fun w => Pairs w v ps) (fun x H' => x = .bool (ascN ps) ∧ H' = []) := by
  refine Spec.of Tryd.func62 rfl Tryd.ntmps62 rfl fun w0 hrow => ?_
  obtain ⟨pa, ca, rfl⟩ := Row.shape hrow
  refine CodeJ.seq ?_
  refine CodeJ.region ?_
  refine OpsJ.yld rfl rfl rfl (Yld.assign rfl rfl) ?_
  refine OpsJ.nil ?_
  refine ExJ.thenN ?_
  refine CodeJ.seq ?_
  refine CodeJ.seq ?_
  refine CodeJ.region ?_
  refine OpsJ.yld rfl rfl rfl (Yld.assign rfl rfl) ?_
  refine OpsJ.nil ?_
  refine ExJ.thenN ?_
  refine CodeJ.block ?_
  refine CodeJ.loopP (fun L H m => ∃ i : Nat, 1 ≤ i ∧ i ≤ ps.length + 1 ∧ (∀ j, j + 1 < i → ∀ p q : PairD, ps[j]? = some p → ps[j + 1]? = some q → p.key < q.key) ∧ L = [(0, .slice pa ps.length ca), (3, .int .i64 i)] ∧ H = [] ∧ m = ps.length + 1 - i) ⟨1, by omega, by omega, fun j hj => by omega, rfl, rfl, rfl⟩ ⟨rfl, rfl, trivial⟩ (fun w hI => hI) ?_
  rintro _ _ _ ⟨i, hi1, hi2, hasc, rfl, rfl, rfl⟩
  refine CodeJ.seq ?_
  refine CodeJ.seq ?_
  refine CodeJ.region ?_
  refine OpsJ.yld rfl rfl rfl (Yld.move rfl rfl) ?_
  refine OpsJ.yld rfl rfl rfl (Yld.move rfl rfl) ?_
  refine OpsJ.yld rfl rfl rfl (Yld.lenSlice rfl rfl rfl Tryd.underlying84 rfl) ?_
  refine OpsJ.yld rfl rfl rfl (Yld.intBin rfl rfl rfl rfl) ?_
  refine OpsJ.nil ?_
  refine ExJ.thenN ?_
  refine CodeJ.condP rfl (fun c7 => ?_) (fun c7 => ?_)
  · have hil : i < ps.length := by omega
    obtain ⟨p, hp⟩ : ∃ p, ps[i - 1]? = some p := ⟨ps[i - 1], List.getElem?_eq_getElem (by omega)⟩
    obtain ⟨q, hq⟩ : ∃ q, ps[i]? = some q := ⟨ps[i], List.getElem?_eq_getElem hil⟩
    obtain ⟨b, off, c', hpv, hcell⟩ := Row.at hrow (by simp [PairD.cells]) (by simp) (show i - 1 < ps.length by omega)
    obtain ⟨b', off', c'', hpv', hcell'⟩ := Row.at hrow (by simp [PairD.cells]) (by simp) hil
    simp only [Value.slice.injEq] at hpv hpv'
    obtain ⟨rfl, _, rfl⟩ := hpv
    obtain ⟨hb1, _, hb2⟩ := hpv'
    injection hb1 with hb1
    injection hb1 with hb3 hb4 _
    subst hb3 hb4
    have hcp := (hcell p.cells (by simp [hp])).one (k := 0) (v := .int .u16 p.key) rfl
    have hcq := (hcell' q.cells (by simp [hq])).one (k := 0) (v := .int .u16 q.key) rfl
    refine CodeJ.skip ?_
    refine ExJ.thenN ?_
    refine CodeJ.seq ?_
    refine CodeJ.block ?_
    refine CodeJ.seq ?_
    refine CodeJ.any (fuel := 12) (listed := #[false, false, false, false, false, false, false, false, false, false, false, false]) [] rfl follows_mixed rfl rfl ?_
    refine AnyJ.take (fuel := 11) (listed' := #[true, false, false, false, false, false, false, false, false, false, false, false]) 0 rfl (by kernel_rfl) (by kernel_rfl) (by kernel_rfl) rfl rfl rfl rfl (Yld.move rfl rfl) (fun w hI => hI.pick (is := []) (by decide) rfl) ?_
    refine AnyJ.take (fuel := 10) (listed' := #[true, true, false, false, false, false, false, false, false, false, false, false]) 1 rfl (by kernel_rfl) (by kernel_rfl) (by kernel_rfl) rfl rfl rfl rfl (Yld.move rfl rfl) (fun w hI => hI.pick (is := []) (by decide) rfl) ?_
    refine AnyJ.take (fuel := 9) (listed' := #[true, true, true, false, false, false, false, false, false, false, false, false]) 2 rfl (by kernel_rfl) (by kernel_rfl) (by kernel_rfl) rfl rfl rfl rfl (Yld.intBin rfl rfl rfl rfl) (fun w hI => hI.pick (is := []) (by decide) rfl) ?_
    rw [show (i : Int) - 1 = ((i - 1 : Nat) : Int) by omega, i64_wrap (i - 1) (by omega)]
    refine AnyJ.take (fuel := 8) (listed' := #[true, true, true, true, false, false, false, false, false, false, false, false]) 3 rfl (by kernel_rfl) (by kernel_rfl) (by kernel_rfl) rfl rfl rfl rfl (Yld.indexAddr (i := i - 1) rfl Tryd.underlying84 sz_161 rfl rfl (by omega)) (fun w hI => hI.pick (is := []) (by decide) rfl) ?_
    refine AnyJ.take (fuel := 7) (listed' := #[true, true, true, true, true, false, false, false, false, false, false, false]) 4 rfl (by kernel_rfl) (by kernel_rfl) (by kernel_rfl) rfl rfl rfl rfl (Yld.fieldAddr fa_161_0 rfl rfl) (fun w hI => hI.pick (is := []) (by decide) rfl) ?_
    refine AnyJ.take (fuel := 6) (listed' := #[true, true, true, true, true, true, false, false, false, false, false, false]) 5 rfl (by kernel_rfl) (by kernel_rfl) (by kernel_rfl) rfl rfl rfl rfl (Yld.load1 rfl Tryd.underlying22 rfl rfl (fun w hI => hI.old hcp (by simp [fp]))) (fun w hI => hI.pick (is := []) (by decide) rfl) ?_
    refine AnyJ.take (fuel := 5) (listed' := #[true, true, true, true, true, true, true, false, false, false, false, false]) 6 rfl (by kernel_rfl) (by kernel_rfl) (by kernel_rfl) rfl rfl rfl rfl (Yld.move rfl rfl) (fun w hI => hI.pick (is := []) (by decide) rfl) ?_
    refine AnyJ.take (fuel := 4) (listed' := #[true, true, true, true, true, true, true, true, false, false, false, false]) 7 rfl (by kernel_rfl) (by kernel_rfl) (by kernel_rfl) rfl rfl rfl rfl (Yld.move rfl rfl) (fun w hI => hI.pick (is := []) (by decide) rfl) ?_
    refine AnyJ.take (fuel := 3) (listed' := #[true, true, true, true, true, true, true, true, true, false, false, false]) 8 rfl (by kernel_rfl) (by kernel_rfl) (by kernel_rfl) rfl rfl rfl rfl (Yld.indexAddr (i := i) rfl Tryd.underlying84 sz_161 rfl rfl hil) (fun w hI => hI.pick (is := []) (by decide) rfl) ?_
    refine AnyJ.take (fuel := 2) (listed' := #[true, true, true, true, true, true, true, true, true, true, false, false]) 9 rfl (by kernel_rfl) (by kernel_rfl) (by kernel_rfl) rfl rfl rfl rfl (Yld.fieldAddr fa_161_0 rfl rfl) (fun w hI => hI.pick (is := []) (by decide) rfl) ?_
    refine AnyJ.take (fuel := 1) (listed' := #[true, true, true, true, true, true, true, true, true, true, true, false]) 10 rfl (by kernel_rfl) (by kernel_rfl) (by kernel_rfl) rfl rfl rfl rfl (Yld.load1 rfl Tryd.underlying22 rfl rfl (fun w hI => hI.old hcq (by simp [fp]))) (fun w hI => hI.pick (is := []) (by decide) rfl) ?_
    refine AnyJ.take (fuel := 0) (listed' := #[true, true, true, true, true, true, true, true, true, true, true, true]) 11 rfl (by kernel_rfl) (by kernel_rfl) (by kernel_rfl) rfl rfl rfl rfl (Yld.intBin rfl rfl rfl rfl) (fun w hI => hI.pick (is := []) (by decide) rfl) ?_
    refine AnyJ.done (by kernel_rfl) ?_
    refine ExJ.thenN ?_
    refine CodeJ.condP rfl (fun c21 => ?_) (fun c21 => ?_)
    · have hbad : ascN ps = false := by
        cases h : ascN ps with
        | false => rfl
        | true =>
          have := (ascN_iff ps).1 h (i - 1) p q hp (by rw [show i - 1 + 1 = i by omega]; exact hq)
          omega
      refine CodeJ.seq ?_
      refine CodeJ.region ?_
      refine OpsJ.yld rfl rfl rfl (Yld.assign rfl rfl) ?_
      refine OpsJ.nil ?_
      refine ExJ.thenN ?_
      refine CodeJ.ret ?_
      refine ExJ.blockR ?_
      refine ExJ.thenR ?_
      refine ExJ.thenR ?_
      refine ExJ.blockR ?_
      refine ExJ.thenR ?_
      exact ExJ.ret1 Tryd.results62 rfl ⟨by rw [hbad], rfl⟩ fun w hI => hI
    · refine CodeJ.skip ?_
      refine ExJ.blockN ?_
      refine ExJ.thenN ?_
      refine CodeJ.region ?_
      refine OpsJ.yld rfl rfl rfl (Yld.move rfl rfl) ?_
      refine OpsJ.yld rfl rfl rfl (Yld.intBin rfl rfl rfl rfl) ?_
      rw [i64_succ i (by omega)]
      refine OpsJ.yld rfl rfl rfl (Yld.assign rfl rfl) ?_
      refine OpsJ.nil ?_
      exact ExJ.againP ⟨i + 1, by omega, by omega, (fun j hj p' q' hp' hq' => by rcases (by omega : j + 1 < i ∨ j + 1 = i) with h | h; exact hasc j h p' q' hp' hq'; obtain rfl : j = i - 1 := (by omega); rw [hp] at hp'; rw [show i - 1 + 1 = i by omega, hq] at hq'; injection hp' with hp'; injection hq' with hq'; subst hp' hq'; omega), rfl, rfl, rfl⟩ (by omega) ⟨rfl, rfl, trivial⟩ fun w hI => hI
  · have hgood : ascN ps = true := (ascN_iff ps).2 fun j p q hp hq => hasc j (by have := (List.getElem?_eq_some_iff.1 hq).1; omega) p q hp hq
    refine CodeJ.exit ?_
    refine ExJ.thenX ?_
    refine ExJ.thenX ?_
    refine ExJ.blockHit ?_
    refine ExJ.thenN ?_
    refine CodeJ.seq ?_
    refine CodeJ.region ?_
    refine OpsJ.yld rfl rfl rfl (Yld.assign rfl rfl) ?_
    refine OpsJ.nil ?_
    refine ExJ.thenN ?_
    refine CodeJ.ret ?_
    exact ExJ.ret1 Tryd.results62 rfl ⟨by rw [hgood], rfl⟩ fun w hI => hI
theorem kd_mem {ps qs : List PairD} (h : ps.map PairD.kd = qs.map PairD.kd) {p : PairD} (hp : p ∈ ps) : ∃ q ∈ qs, p.key = q.key ∧ p.data = q.data := by
  have h1 : p.kd ∈ qs.map PairD.kd := by rw [← h]; exact List.mem_map.2 ⟨p, hp, rfl⟩
  obtain ⟨q, hq, e⟩ := List.mem_map.1 h1
  exact ⟨q, hq, (congrArg Prod.fst e).symm, (congrArg Prod.snd e).symm⟩
theorem ascN_kd : ∀ {ps qs : List PairD}, ps.map PairD.kd = qs.map PairD.kd → ascN ps = ascN qs
  | [], [], _ => rfl
  | [p], [q], _ => rfl
  | p :: p' :: r, q :: q' :: s, h => by
    simp only [List.map_cons, List.cons.injEq] at h
    have h1 : p.key = q.key := congrArg Prod.fst h.1
    have h2 : p'.key = q'.key := congrArg Prod.fst h.2.1
    rw [ascN, ascN, h1, h2, ascN_kd (ps := p' :: r) (qs := q' :: s) (by simp [h.2.1, h.2.2])]
  | [], _ :: _, h => by simp at h
  | _ :: _, [], h => by simp at h
  | [_], _ :: _ :: _, h => by simp at h
  | _ :: _ :: _, [_], h => by simp at h
end Go.Proofs.YtamobccbioafmaaDoor
