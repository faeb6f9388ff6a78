/-
  Facts of the program's tables that the laws' walks use.
-/
import Derived.Test.YtamobccbioafmaaDoorBd
import Derived.Test.YtamobccbioafmaaDoorBa
import Derived.Test.YtamobccbioafmaaDoorBb
namespace Go.Proofs.YtamobccbioafmaaDoor
open Go
set_option maxRecDepth 100000
theorem elt_37 : Elt Tryd.prog 37 82 3 24 (.agg #[.string ByteArray.empty, .int .u16 0, .int .u16 0]) := ⟨Tryd.underlying37, by decide, by kernel_rfl, by kernel_rfl, by decide⟩
theorem elt_38 : Elt Tryd.prog 38 86 16 168 (.agg #[.string ByteArray.empty, .int .u16 0, .int .u16 0, .int .u32 0, .int .u16 0, .int .i64 0, .slice none 0 0, .string ByteArray.empty, .string ByteArray.empty, .int .u32 0, .int .u32 0, .int .u32 0, .int .u32 0, .int .u32 0, .slice none 0 0, .slice none 0 0]) := ⟨Tryd.underlying38, by decide, by kernel_rfl, by kernel_rfl, by decide⟩
theorem elt_43 : Elt Tryd.prog 43 93 20 200 (.agg #[.int .i64 0, .string ByteArray.empty, .int .u16 0, .int .u16 0, .string ByteArray.empty, .int .u16 0, .int .u16 0, .int .u32 0, .int .u16 0, .int .i64 0, .slice none 0 0, .string ByteArray.empty, .string ByteArray.empty, .int .u32 0, .int .u32 0, .int .u32 0, .int .u32 0, .int .u32 0, .slice none 0 0, .slice none 0 0]) := ⟨Tryd.underlying43, by decide, by kernel_rfl, by kernel_rfl, by decide⟩
theorem elt_84 : Elt Tryd.prog 84 161 2 32 (.agg #[.int .u16 0, .slice none 0 0]) := ⟨Tryd.underlying84, by decide, by kernel_rfl, by kernel_rfl, by decide⟩
theorem fa_35_10 : FieldAt Tryd.prog 35 10 10 := by unfold FieldAt; kernel_rfl
theorem fa_35_11 : FieldAt Tryd.prog 35 11 11 := by unfold FieldAt; kernel_rfl
theorem fa_35_12 : FieldAt Tryd.prog 35 12 12 := by unfold FieldAt; kernel_rfl
theorem fa_35_13 : FieldAt Tryd.prog 35 13 13 := by unfold FieldAt; kernel_rfl
theorem fa_35_14 : FieldAt Tryd.prog 35 14 14 := by unfold FieldAt; kernel_rfl
theorem fa_35_15 : FieldAt Tryd.prog 35 15 15 := by unfold FieldAt; kernel_rfl
theorem fa_35_6 : FieldAt Tryd.prog 35 6 6 := by unfold FieldAt; kernel_rfl
theorem fa_35_7 : FieldAt Tryd.prog 35 7 7 := by unfold FieldAt; kernel_rfl
theorem fa_35_8 : FieldAt Tryd.prog 35 8 8 := by unfold FieldAt; kernel_rfl
theorem fa_35_9 : FieldAt Tryd.prog 35 9 9 := by unfold FieldAt; kernel_rfl
theorem has_30 : Has Tryd.prog 30 := ⟨_, Tryd.func30, by kernel_rfl, rfl⟩
theorem has_31 : Has Tryd.prog 31 := ⟨_, Tryd.func31, by kernel_rfl, rfl⟩
theorem has_32 : Has Tryd.prog 32 := ⟨_, Tryd.func32, by kernel_rfl, rfl⟩
theorem has_61 : Has Tryd.prog 61 := ⟨_, Tryd.func61, by kernel_rfl, rfl⟩
theorem places_40 : places Tryd.prog 40 = some [(0, 10), (10, 1), (11, 1), (12, 1), (13, 1)] := by kernel_rfl
theorem places_86 : places Tryd.prog 86 = some [(0, 1), (1, 1), (2, 1), (3, 1), (4, 1), (5, 1), (6, 1), (7, 1), (8, 1), (9, 1), (10, 1), (11, 1), (12, 1), (13, 1), (14, 1), (15, 1)] := by kernel_rfl
theorem places_93 : places Tryd.prog 93 = some [(0, 1), (1, 3), (4, 16)] := by kernel_rfl
theorem sz_160 : (Tryd.prog.info? 160).map (·.size) = some 2 := by kernel_rfl
theorem sz_26 : (Tryd.prog.info? 26).map (·.size) = some 1 := by kernel_rfl
theorem sz_40 : (Tryd.prog.info? 40).map (·.size) = some 14 := by kernel_rfl
theorem zero_160 : (Tryd.prog.info? 160).bind (·.zero) = some (.agg #[.int .u16 0, .slice none 0 0]) := by kernel_rfl
theorem zero_35 : (Tryd.prog.info? 35).bind (·.zero) = some (.agg #[.string ByteArray.empty, .int .u16 0, .int .u16 0, .int .u32 0, .int .u16 0, .int .i64 0, .slice none 0 0, .string ByteArray.empty, .string ByteArray.empty, .int .u32 0, .int .u32 0, .int .u32 0, .int .u32 0, .int .u32 0, .slice none 0 0, .slice none 0 0]) := by kernel_rfl
theorem zero_40 : (Tryd.prog.info? 40).bind (·.zero) = some (.agg #[.int .u16 0, .bool false, .int .u16 0, .bool false, .bool false, .bool false, .bool false, .bool false, .bool false, .int .u16 0, .slice none 0 0, .slice none 0 0, .slice none 0 0, .slice none 0 0]) := by kernel_rfl
theorem zero_91 : (Tryd.prog.info? 91).bind (·.zero) = some (.agg #[.string ByteArray.empty, .int .u16 0, .int .u16 0]) := by kernel_rfl
end Go.Proofs.YtamobccbioafmaaDoor

/-
  Contract: steps.
-/
namespace Go.Proofs.YtamobccbioafmaaDoor
open Go
set_option maxRecDepth 100000

def zAsk : AskD := ⟨ByteArray.empty, 0, 0⟩
def zRec : RecD := ⟨ByteArray.empty, 0, 0, 0, 0, 0, .slice none 0 0, [], ByteArray.empty, ByteArray.empty, 0, 0, 0, 0, 0, .slice none 0 0, [], .slice none 0 0, []⟩
theorem zRec_ok (w : World) : RecOk w zRec := ⟨.inl ⟨none, 0, rfl, rfl⟩, .inl ⟨none, 0, rfl, rfl, rfl⟩, .inl ⟨none, 0, rfl, rfl, rfl⟩, fun p hp => by cases hp⟩
def mkStep (k : Nat) : StepD := ⟨k, zAsk, zRec⟩
def askStep (a : AskD) : StepD := ⟨6, a, zRec⟩
def recStep (r : RecD) : StepD := ⟨7, zAsk, r⟩
/-- the steps of the sections for records; i: how many sections were begun -/
def secSteps : Nat → List (List RecD) → List StepD
  | _, [] => []
  | i, rs :: r => mkStep (3 + i) :: (rs.map recStep ++ secSteps (i + 1) r)
def stepsL (sh : Bool) (qs : List AskD) (secs : List (List RecD)) : List StepD := (if sh then [mkStep 1] else []) ++ mkStep 2 :: (qs.map askStep ++ secSteps 0 secs)
def ownSt (v : Value) (ss : List StepD) : Res := ownL 93 20 StepD.cells v ss

theorem secSteps_snoc : ∀ (secs : List (List RecD)) (i k : Nat) (rs : List RecD), secs[k]? = some rs → secSteps i (secs.take (k + 1)) = secSteps i (secs.take k) ++ mkStep (3 + (i + k)) :: rs.map recStep
  | [], _, _, _, h => by simp at h
  | s :: r, i, 0, rs, h => by
    simp at h
    subst h
    simp [secSteps]
  | s :: r, i, k + 1, rs, h => by
    simp at h
    have := secSteps_snoc r (i + 1) k rs h
    simp only [List.take_succ_cons, secSteps, this, List.cons_append, List.append_assoc]
    rw [show i + 1 + k = i + (k + 1) by omega]
theorem secSteps_take (secs : List (List RecD)) (k : Nat) : (secSteps 0 (secs.take k)).length ≤ (secSteps 0 secs).length := by
  have key : ∀ (secs : List (List RecD)) (i k : Nat), (secSteps i (secs.take k)).length ≤ (secSteps i secs).length := by
    intro secs
    induction secs with
    | nil => intro i k; simp
    | cons s r ih =>
      intro i k
      cases k with
      | zero => simp [secSteps]
      | succ k =>
        have := ih (i + 1) k
        simp only [List.take_succ_cons, secSteps, List.length_cons, List.length_append]
        omega
  exact key secs 0 k
theorem secSteps_ge : ∀ (secs : List (List RecD)) (i : Nat), secs.length ≤ (secSteps i secs).length
  | [], _ => by simp
  | s :: r, i => by
    have := secSteps_ge r (i + 1)
    simp only [secSteps, List.length_cons, List.length_append]
    omega
theorem StepD.ones {w : World} {s : StepD} (h : RecOk w s.rec_) : ∀ u ∈ s.cells, u.oneCell' = true := fun u hu => List.all_eq_true.1 (StepD.one h) u hu
theorem room_steps {n m : Nat} (h : n + 1 ≤ m) (hm : m ≤ 1000000000) : (n + 1) * 200 ≤ 175921860444160 ∧ n + 1 ≤ 9223372036854775807 := by omega

theorem build_rec {o : Oper} {n : Nat} {L : List (Nat × Value)} {I : World → Prop} {parts : Array (Nat × Operand)} (x : RecD) (ho : o.op = .build 93 parts) (hv : evp L parts.toList = some [(0, .int .i64 7), (2, .agg x.cells.toArray)]) : Yld Tryd.prog o n L I (.agg (recStep x).cells.toArray) :=
  Yld.build places_93 zero_93 ho hv (by kernel_rfl)
theorem flat_ones {α : Type} (vs : List α) : (vs.map fun v => [v]).flatten = vs := by
  induction vs with
  | nil => rfl
  | cons b r ih => simp [ih]
theorem steps_spec (sh : Bool) (qs : List AskD) (secs : List (List RecD)) (av sv : Value) (vs : List Value) (hvs : vs.length = secs.length) (hn : (stepsL sh qs secs).length ≤ 1000000000) :
    Spec Tryd.prog 15 [.bool sh, av, sv] [] (fun w => Asks w av qs ∧ Row w 1 sv vs.length vs ∧ ∀ (i : Nat) v rs, vs[i]? = some v → secs[i]? = some rs → Recs w v rs)
      (fun r H' => ∃ p c, r = .slice p (stepsL sh qs secs).length c ∧ H' = [ownSt r (stepsL sh qs secs)]) := by
  refine Spec.of Tryd.func15 rfl Tryd.ntmps15 rfl fun w0 hR => ?_
  obtain ⟨hask, hsec, hrecs⟩ := hR
  obtain ⟨pa, ca, rfl⟩ := hask.shape
  obtain ⟨ps, cs, rfl⟩ := hsec.shape
  have hlen : (stepsL sh qs secs).length = (if sh then [mkStep 1] else []).length + 1 + qs.length + (secSteps 0 secs).length := by
    simp [stepsL]
    omega
  refine CodeJ.seq ?_
  refine CodeJ.region ?_
  refine OpsJ.yld rfl rfl rfl (Yld.assign rfl rfl) ?_
  refine OpsJ.nil ?_
  refine ExJ.thenN ?_
  refine CodeJ.seq ?_
  refine CodeJ.region ?_
  refine OpsJ.op rfl ?_
  refine OpJ.buildSlice (xs := []) elt_43 rfl rfl rfl rfl rfl rfl (by rfl) (by decide) fun out hout => ?_
  refine OpsJ.yld rfl rfl rfl (Yld.assign rfl rfl) ?_
  refine OpsJ.nil ?_
  refine ExJ.thenN ?_
  refine CodeJ.cutP (fun L H => ∃ p c, L = [(1, .slice pa qs.length ca), (2, .slice ps vs.length cs), (7, .slice p (if sh then [mkStep 1] else []).length c)] ∧ H = [ownSt (.slice p (if sh then [mkStep 1] else []).length c) (if sh then [mkStep 1] else [])]) ?_ ?_
  · refine CodeJ.seq ?_
    refine CodeJ.region ?_
    refine OpsJ.yld rfl rfl rfl (Yld.move rfl rfl) ?_
    refine OpsJ.nil ?_
    refine ExJ.thenN ?_
    refine CodeJ.cond rfl (fun c15 => ?_) (fun c15 => ?_)
    · subst c15
      refine CodeJ.region ?_
      refine OpsJ.yld rfl rfl rfl (Yld.move rfl rfl) ?_
      refine OpsJ.yld rfl rfl rfl (Yld.build places_93 zero_93 rfl rfl rfl) ?_
      refine OpsJ.op rfl ?_
      refine OpJ.buildSlice (xs := [.tmp 17]) elt_43 rfl rfl rfl rfl rfl rfl (by rfl) (by decide) fun one hone => ?_
      refine OpsJ.op rfl ?_
      refine OpJ.appendL (cells := StepD.cells) (xs := []) (i := 1) (news := mkStep 1) elt_43 rfl rfl rfl rfl rfl rfl (fun w hI => Inv.src hI (i := 0) rfl Tryd.underlying43 (StepD.ones (s := mkStep 1) (zRec_ok w))) (by decide) fun p19 c19 => ?_
      refine OpsJ.yld rfl rfl rfl (Yld.assign rfl rfl) ?_
      refine OpsJ.nil ?_
      exact ExJ.meetP ⟨p19, c19, rfl, rfl⟩ ⟨rfl, rfl, rfl, trivial⟩ fun w hI => hI.pick (is := [1]) (by decide) rfl
    · subst c15
      refine CodeJ.skip ?_
      exact ExJ.meetP ⟨some ⟨out, 0, none⟩, 0, rfl, rfl⟩ ⟨rfl, rfl, rfl, trivial⟩ fun w hI => hI.pick (is := [0]) (by decide) rfl
  · rintro _ _ ⟨p, c, rfl, rfl⟩
    refine CodeJ.seq ?_
    refine CodeJ.region ?_
    refine OpsJ.yld rfl rfl rfl (Yld.move rfl rfl) ?_
    refine OpsJ.yld rfl rfl rfl (Yld.build places_93 zero_93 rfl rfl rfl) ?_
    refine OpsJ.op rfl ?_
    refine OpJ.buildSlice (xs := [.tmp 21]) elt_43 rfl rfl rfl rfl rfl rfl (by rfl) (by decide) fun one hone => ?_
    refine OpsJ.op rfl ?_
    refine OpJ.appendL (cells := StepD.cells) (i := 1) (news := mkStep 2) elt_43 rfl rfl rfl rfl rfl rfl (fun w hI => Inv.src hI (i := 0) rfl Tryd.underlying43 (StepD.ones (s := mkStep 2) (zRec_ok w))) (room_steps (m := (stepsL sh qs secs).length) (by omega) hn) fun p23 c23 => ?_
    refine OpsJ.yld rfl rfl rfl (Yld.assign rfl rfl) ?_
    refine OpsJ.nil ?_
    refine ExJ.thenN ?_
    refine CodeJ.seq ?_
    refine CodeJ.seq ?_
    refine CodeJ.region ?_
    refine OpsJ.yld rfl rfl rfl (Yld.move rfl rfl) ?_
    refine OpsJ.yld rfl rfl rfl (Yld.lenSlice rfl rfl rfl Tryd.underlying25 rfl) ?_
    refine OpsJ.yld rfl rfl rfl (Yld.move rfl rfl) ?_
    refine OpsJ.nil ?_
    refine ExJ.thenN ?_
    refine CodeJ.block ?_
    refine CodeJ.loopP (fun L H m => ∃ (k : Nat) (p : Option Addr) (c : Nat) (ss : List StepD), k ≤ qs.length ∧ ss = (if sh then [mkStep 1] else []) ++ [mkStep 2] ++ (qs.take k).map askStep ∧ L = [(2, .slice ps vs.length cs), (7, .slice p ss.length c), (24, .slice pa qs.length ca), (25, .int .i64 qs.length), (26, .int .i64 k)] ∧ H = [ownSt (.slice p ss.length c) ss] ∧ m = qs.length - k) ⟨0, p23, c23, (if sh then [mkStep 1] else []) ++ [mkStep 2], Nat.zero_le _, by simp, rfl, rfl, rfl⟩ ⟨rfl, rfl, rfl, rfl, rfl, trivial⟩ (fun w hI => hI.pick (is := [1]) (by decide) rfl) ?_
    rintro _ _ _ ⟨k, p, c, ss, hk, hss, rfl, rfl, rfl⟩
    refine CodeJ.seq ?_
    refine CodeJ.region ?_
    refine OpsJ.yld rfl rfl rfl (Yld.intBin rfl rfl rfl rfl) ?_
    refine OpsJ.nil ?_
    refine ExJ.thenN ?_
    refine CodeJ.seq ?_
    refine CodeJ.condP rfl (fun c27 => ?_) (fun c27 => ?_)
    · have hk' : k < qs.length := by omega
      obtain ⟨x, hx⟩ : ∃ x, qs[k]? = some x := ⟨qs[k], List.getElem?_eq_getElem hk'⟩
      obtain ⟨b, off, c', hpv, hcell⟩ := Row.at hask (by simp [AskD.cells]) (by simp) hk'
      simp only [Value.slice.injEq] at hpv
      obtain ⟨rfl, _, rfl⟩ := hpv
      have hcx := hcell x.cells (by simp [hx])
      have hsl : ss.length + 1 ≤ (stepsL sh qs secs).length := by
        rw [hss]
        simp only [List.length_append, List.length_map, List.length_take, List.length_cons, List.length_nil]
        omega
      refine CodeJ.skip ?_
      refine ExJ.thenN ?_
      refine CodeJ.seq ?_
      refine CodeJ.block ?_
      refine CodeJ.seq ?_
      refine CodeJ.region ?_
      refine OpsJ.yld rfl rfl rfl (Yld.indexAddr rfl Tryd.underlying25 sz_91 rfl rfl hk') ?_
      refine OpsJ.yld rfl rfl rfl (Yld.loadN (vs := x.cells) rfl Tryd.underlying91 rfl sz_91 rfl (fun w hI => hI.old hcx (by simp [fp]))) ?_
      refine OpsJ.op rfl ?_
      refine OpJ.alloc rfl rfl rfl zero_91 fun ab hab => ?_
      refine OpsJ.op rfl ?_
      refine OpJ.storeW (i := 0) rfl rfl rfl rfl sz_91 rfl rfl rfl ?_
      refine OpsJ.nil ?_
      refine ExJ.thenN ?_
      refine CodeJ.region ?_
      refine OpsJ.yld rfl rfl rfl (Yld.move rfl rfl) ?_
      refine OpsJ.yld rfl rfl rfl (Yld.loadN (vs := x.cells) rfl Tryd.underlying91 rfl sz_91 rfl (fun w hI => Inv.whole hI (i := 0) rfl)) ?_
      refine OpsJ.yld rfl rfl rfl (Yld.build places_93 zero_93 rfl rfl rfl) ?_
      refine OpsJ.op rfl ?_
      refine OpJ.buildSlice (xs := [.tmp 32]) elt_43 rfl rfl rfl rfl rfl rfl (by rfl) (by decide) fun one hone => ?_
      refine OpsJ.op rfl ?_
      refine OpJ.appendL (cells := StepD.cells) (i := 2) (news := askStep x) elt_43 rfl rfl rfl rfl rfl rfl (fun w hI => Inv.src hI (i := 0) rfl Tryd.underlying43 (StepD.ones (s := askStep x) (zRec_ok w))) (room_steps hsl hn) fun p34 c34 => ?_
      refine OpsJ.yld rfl rfl rfl (Yld.assign rfl rfl) ?_
      refine OpsJ.nil ?_
      refine ExJ.blockN ?_
      refine ExJ.thenN ?_
      refine CodeJ.region ?_
      refine OpsJ.yld rfl rfl rfl (Yld.intBin rfl rfl rfl rfl) ?_
      rw [i64_succ k (by omega)]
      refine OpsJ.yld rfl rfl rfl (Yld.move rfl rfl) ?_
      refine OpsJ.nil ?_
      exact ExJ.againP ⟨k + 1, p34, c34, ss ++ [askStep x], by omega, by rw [hss, take_snoc _ _ _ hx]; simp, rfl, rfl, rfl⟩ (by omega) ⟨rfl, rfl, rfl, rfl, rfl, trivial⟩ fun w hI => hI.pick (is := [2]) (by decide) rfl
    · obtain rfl : k = qs.length := by omega
      rw [List.take_length] at hss
      refine CodeJ.exit ?_
      refine ExJ.thenX ?_
      refine ExJ.thenX ?_
      refine ExJ.blockHit ?_
      refine ExJ.thenN ?_
      refine CodeJ.seq ?_
      refine CodeJ.seq ?_
      refine CodeJ.region ?_
      refine OpsJ.yld rfl rfl rfl (Yld.move rfl rfl) ?_
      refine OpsJ.yld rfl rfl rfl (Yld.lenSlice rfl rfl rfl Tryd.underlying90 rfl) ?_
      refine OpsJ.yld rfl rfl rfl (Yld.move rfl rfl) ?_
      refine OpsJ.nil ?_
      refine ExJ.thenN ?_
      refine CodeJ.block ?_
      refine CodeJ.loopP (fun L H m => ∃ (k : Nat) (p : Option Addr) (c : Nat) (s2 : List StepD), k ≤ vs.length ∧ s2 = ss ++ secSteps 0 (secs.take k) ∧ L = [(7, .slice p s2.length c), (36, .slice ps vs.length cs), (37, .int .i64 vs.length), (38, .int .i64 k)] ∧ H = [ownSt (.slice p s2.length c) s2] ∧ m = vs.length - k) ⟨0, p, c, ss, Nat.zero_le _, by simp [secSteps], rfl, rfl, rfl⟩ ⟨rfl, rfl, rfl, rfl, trivial⟩ (fun w hI => hI) ?_
      rintro _ _ _ ⟨k2, p2, c2, s2, hk2, hs2, rfl, rfl, rfl⟩
      refine CodeJ.seq ?_
      refine CodeJ.region ?_
      refine OpsJ.yld rfl rfl rfl (Yld.intBin rfl rfl rfl rfl) ?_
      refine OpsJ.nil ?_
      refine ExJ.thenN ?_
      refine CodeJ.seq ?_
      refine CodeJ.condP rfl (fun c39 => ?_) (fun c39 => ?_)
      · have hk3 : k2 < vs.length := by omega
        obtain ⟨v, hv⟩ : ∃ v, vs[k2]? = some v := ⟨vs[k2], List.getElem?_eq_getElem hk3⟩
        obtain ⟨rs, hrs⟩ : ∃ rs, secs[k2]? = some rs := ⟨secs[k2]'(by omega), List.getElem?_eq_getElem (by omega)⟩
        have hrec := hrecs k2 v rs hv hrs
        obtain ⟨pr, cr, rfl⟩ := hrec.1.shape
        obtain ⟨sb, soff, sc, hpv2, hscell⟩ := Row.at (xss := vs.map fun v => [v]) (sz := 1) (by rw [flat_ones]; exact hsec) (by simp) (by simp) hk3
        simp only [Value.slice.injEq] at hpv2
        obtain ⟨rfl, _, rfl⟩ := hpv2
        have hsc := hscell [.slice pr rs.length cr] (by simp [hv])
        have htot : ss.length + (secSteps 0 secs).length = (stepsL sh qs secs).length := by
          rw [hss]
          simp only [List.length_append, List.length_map, List.length_cons, List.length_nil]
          omega
        have hsnoc := secSteps_snoc secs 0 k2 rs hrs
        have hsge := secSteps_ge secs 0
        have hupto := secSteps_take secs (k2 + 1)
        rw [hsnoc, List.length_append, List.length_cons, List.length_map] at hupto
        have hs2l : s2.length + 1 + rs.length ≤ (stepsL sh qs secs).length := by
          rw [hs2, List.length_append]
          omega
        refine CodeJ.skip ?_
        refine ExJ.thenN ?_
        refine CodeJ.seq ?_
        refine CodeJ.block ?_
        refine CodeJ.seq ?_
        refine CodeJ.region ?_
        refine OpsJ.yld rfl rfl rfl (Yld.move rfl rfl) ?_
        refine OpsJ.yld rfl rfl rfl (Yld.indexAddr rfl Tryd.underlying90 sz_26 rfl rfl hk3) ?_
        refine OpsJ.yld rfl rfl rfl (Yld.load1 rfl Tryd.underlying26 rfl rfl (fun w hI => hI.old hsc (by simp [fp]))) ?_
        refine OpsJ.yld rfl rfl rfl (Yld.assign rfl rfl) ?_
        refine OpsJ.yld rfl rfl rfl (Yld.assign rfl rfl) ?_
        refine OpsJ.nil ?_
        refine ExJ.thenN ?_
        refine CodeJ.seq ?_
        refine CodeJ.region ?_
        refine OpsJ.yld rfl rfl rfl (Yld.move rfl rfl) ?_
        refine OpsJ.yld rfl rfl rfl (Yld.move rfl rfl) ?_
        refine OpsJ.yld rfl rfl rfl (Yld.intBin rfl rfl rfl rfl) ?_
        rw [show IntKind.i64.wrap ((3 : Int) + (k2 : Int)) = ((3 + k2 : Nat) : Int) from i64_add 3 k2 (by omega)]
        refine OpsJ.yld rfl rfl rfl (Yld.build places_93 zero_93 rfl rfl rfl) ?_
        refine OpsJ.op rfl ?_
        refine OpJ.buildSlice (xs := [.tmp 46]) elt_43 rfl rfl rfl rfl rfl rfl (by rfl) (by decide) fun one hone => ?_
        refine OpsJ.op rfl ?_
        refine OpJ.appendL (cells := StepD.cells) (i := 1) (news := mkStep (3 + k2)) elt_43 rfl rfl rfl rfl rfl rfl (fun w hI => Inv.src hI (i := 0) rfl Tryd.underlying43 (StepD.ones (s := mkStep (3 + k2)) (zRec_ok w))) (room_steps (m := (stepsL sh qs secs).length) (by omega) hn) fun p48 c48 => ?_
        refine OpsJ.yld rfl rfl rfl (Yld.assign rfl rfl) ?_
        refine OpsJ.nil ?_
        refine ExJ.thenN ?_
        refine CodeJ.seq ?_
        refine CodeJ.region ?_
        refine OpsJ.yld rfl rfl rfl (Yld.move rfl rfl) ?_
        refine OpsJ.yld rfl rfl rfl (Yld.lenSlice rfl rfl rfl Tryd.underlying26 rfl) ?_
        refine OpsJ.yld rfl rfl rfl (Yld.move rfl rfl) ?_
        refine OpsJ.nil ?_
        refine ExJ.thenN ?_
        refine CodeJ.block ?_
        refine CodeJ.loopP (fun L H m => ∃ (k : Nat) (p : Option Addr) (c : Nat) (s3 : List StepD), k ≤ rs.length ∧ s3 = s2 ++ [mkStep (3 + k2)] ++ (rs.take k).map recStep ∧ L = [(7, .slice p s3.length c), (36, .slice (some ⟨sb, soff, none⟩) vs.length cs), (37, .int .i64 vs.length), (38, .int .i64 k2), (49, .slice pr rs.length cr), (50, .int .i64 rs.length), (51, .int .i64 k)] ∧ H = [ownSt (.slice p s3.length c) s3] ∧ m = rs.length - k) ⟨0, p48, c48, s2 ++ [mkStep (3 + k2)], Nat.zero_le _, by simp, rfl, rfl, rfl⟩ ⟨rfl, rfl, rfl, rfl, rfl, rfl, rfl, trivial⟩ (fun w hI => hI.pick (is := [1]) (by decide) rfl) ?_
        rintro _ _ _ ⟨k4, p3, c3, s3, hk4, hs3, rfl, rfl, rfl⟩
        refine CodeJ.seq ?_
        refine CodeJ.region ?_
        refine OpsJ.yld rfl rfl rfl (Yld.intBin rfl rfl rfl rfl) ?_
        refine OpsJ.nil ?_
        refine ExJ.thenN ?_
        refine CodeJ.seq ?_
        refine CodeJ.condP rfl (fun c52 => ?_) (fun c52 => ?_)
        · have hk5 : k4 < rs.length := by omega
          obtain ⟨x, hx⟩ : ∃ x, rs[k4]? = some x := ⟨rs[k4], List.getElem?_eq_getElem hk5⟩
          obtain ⟨rb, roff, rc, hpv3, hrcell⟩ := Row.at hrec.1 (by simp [RecD.cells]) (by simp) hk5
          simp only [Value.slice.injEq] at hpv3
          obtain ⟨rfl, _, rfl⟩ := hpv3
          have hcx := hrcell x.cells (by simp [hx])
          have hxok := hrec.2 x (List.mem_of_getElem? hx)
          have hsl : s3.length + 1 ≤ (stepsL sh qs secs).length := by
            rw [hs3]
            simp only [List.length_append, List.length_map, List.length_take, List.length_cons, List.length_nil]
            omega
          refine CodeJ.skip ?_
          refine ExJ.thenN ?_
          refine CodeJ.seq ?_
          refine CodeJ.block ?_
          refine CodeJ.seq ?_
          refine CodeJ.region ?_
          refine OpsJ.yld rfl rfl rfl (Yld.indexAddr rfl Tryd.underlying26 sz_35 rfl rfl hk5) ?_
          refine OpsJ.yld rfl rfl rfl (Yld.loadN (vs := x.cells) rfl Tryd.underlying35 rfl sz_35 rfl (fun w hI => hI.old hcx (by simp [fp]))) ?_
          refine OpsJ.op rfl ?_
          refine OpJ.alloc rfl rfl rfl zero_35 fun rb2 hrb2 => ?_
          refine OpsJ.op rfl ?_
          refine OpJ.storeW (i := 0) rfl rfl rfl rfl sz_35 rfl hxok.one rfl ?_
          refine OpsJ.nil ?_
          refine ExJ.thenN ?_
          refine CodeJ.region ?_
          refine OpsJ.yld rfl rfl rfl (Yld.move rfl rfl) ?_
          refine OpsJ.yld rfl rfl rfl (Yld.loadN (vs := x.cells) rfl Tryd.underlying35 rfl sz_35 rfl (fun w hI => Inv.whole hI (i := 0) rfl)) ?_
          refine OpsJ.yld rfl rfl rfl (build_rec x rfl rfl) ?_
          refine OpsJ.op rfl ?_
          refine OpJ.buildSlice (xs := [.tmp 57]) elt_43 rfl rfl rfl rfl rfl rfl (by rfl) (by decide) fun one hone => ?_
          refine OpsJ.op rfl ?_
          refine OpJ.appendL (cells := StepD.cells) (i := 2) (news := recStep x) elt_43 rfl rfl rfl rfl rfl rfl (fun w hI => Inv.src hI (i := 0) rfl Tryd.underlying43 (StepD.ones (s := recStep x) (hxok.keep0 hI.keep))) (room_steps hsl hn) fun p59 c59 => ?_
          refine OpsJ.yld rfl rfl rfl (Yld.assign rfl rfl) ?_
          refine OpsJ.nil ?_
          refine ExJ.blockN ?_
          refine ExJ.thenN ?_
          refine CodeJ.region ?_
          refine OpsJ.yld rfl rfl rfl (Yld.intBin rfl rfl rfl rfl) ?_
          rw [i64_succ k4 (by omega)]
          refine OpsJ.yld rfl rfl rfl (Yld.move rfl rfl) ?_
          refine OpsJ.nil ?_
          exact ExJ.againP ⟨k4 + 1, p59, c59, s3 ++ [recStep x], by omega, by rw [hs3, take_snoc _ _ _ hx]; simp, rfl, rfl, rfl⟩ (by omega) ⟨rfl, rfl, rfl, rfl, rfl, rfl, rfl, trivial⟩ fun w hI => hI.pick (is := [2]) (by decide) rfl
        · obtain rfl : k4 = rs.length := by omega
          rw [List.take_length] at hs3
          have hs3 : s3 = ss ++ secSteps 0 (secs.take (k2 + 1)) := by
            rw [hs3, hs2, hsnoc]
            simp
          refine CodeJ.exit ?_
          refine ExJ.thenX ?_
          refine ExJ.thenX ?_
          refine ExJ.blockHit ?_
          refine ExJ.blockN ?_
          refine ExJ.thenN ?_
          refine CodeJ.region ?_
          refine OpsJ.yld rfl rfl rfl (Yld.intBin rfl rfl rfl rfl) ?_
          rw [i64_succ k2 (by omega)]
          refine OpsJ.yld rfl rfl rfl (Yld.move rfl rfl) ?_
          refine OpsJ.nil ?_
          exact ExJ.againP ⟨k2 + 1, p3, c3, s3, by omega, hs3, rfl, rfl, rfl⟩ (by omega) ⟨rfl, rfl, rfl, rfl, trivial⟩ fun w hI => hI
      · obtain rfl : k2 = vs.length := by omega
        have hfin : s2 = stepsL sh qs secs := by
          rw [hs2, hss, hvs, List.take_length]
          simp [stepsL]
        subst hfin
        refine CodeJ.exit ?_
        refine ExJ.thenX ?_
        refine ExJ.thenX ?_
        refine ExJ.blockHit ?_
        refine ExJ.thenN ?_
        refine CodeJ.seq ?_
        refine CodeJ.region ?_
        refine OpsJ.yld rfl rfl rfl (Yld.move rfl rfl) ?_
        refine OpsJ.yld rfl rfl rfl (Yld.assign rfl rfl) ?_
        refine OpsJ.nil ?_
        refine ExJ.thenN ?_
        refine CodeJ.ret ?_
        exact ExJ.ret1 Tryd.results15 rfl ⟨p2, c2, rfl, rfl⟩ fun w hI => hI
end Go.Proofs.YtamobccbioafmaaDoor

/-
  Contracts: specAsks, specRecord, specRecords, message.
-/
namespace Go.Proofs.YtamobccbioafmaaDoor
open Go
set_option maxRecDepth 100000

theorem AskD.ones (a : AskD) : ∀ u ∈ a.cells, u.oneCell' = true := by
  intro u hu
  simp [AskD.cells] at hu
  rcases hu with rfl | rfl | rfl <;> rfl

theorem specAsks_spec (qs : List AskD) (av : Value) (hn : qs.length * 24 ≤ 140737488351232) :
    Spec Tryd.prog 31 [av] [] (fun w => Asks w av qs) (fun r H' => ∃ p c, r = .slice p qs.length c ∧ H' = [ownL 82 3 AskD.cells r qs]) := by
  refine Spec.of Tryd.func31 rfl Tryd.ntmps31 rfl fun w0 hask => ?_
  obtain ⟨pa, ca, rfl⟩ := hask.shape
  refine CodeJ.seq ?_
  refine CodeJ.region ?_
  refine OpsJ.yld rfl rfl rfl (Yld.assign rfl rfl) ?_
  refine OpsJ.nil ?_
  refine ExJ.thenN ?_
  refine CodeJ.seq ?_
  refine CodeJ.region ?_
  refine OpsJ.op rfl ?_
  refine OpJ.buildSlice (xs := []) elt_37 rfl rfl rfl rfl rfl rfl (by rfl) (by decide) fun out hout => ?_
  refine OpsJ.yld rfl rfl rfl (Yld.assign rfl rfl) ?_
  refine OpsJ.nil ?_
  refine ExJ.thenN ?_
  refine CodeJ.seq ?_
  refine CodeJ.seq ?_
  refine CodeJ.region ?_
  refine OpsJ.yld rfl rfl rfl (Yld.move rfl rfl) ?_
  refine OpsJ.yld rfl rfl rfl (Yld.lenSlice rfl rfl rfl Tryd.underlying25 rfl) ?_
  refine OpsJ.yld rfl rfl rfl (Yld.move rfl rfl) ?_
  refine OpsJ.nil ?_
  refine ExJ.thenN ?_
  refine CodeJ.block ?_
  refine CodeJ.loopP (fun L H m => ∃ (k : Nat) (p : Option Addr) (c : Nat) (ss : List AskD), k ≤ qs.length ∧ ss = qs.take k ∧ L = [(3, .slice p ss.length c), (7, .slice pa qs.length ca), (8, .int .i64 qs.length), (9, .int .i64 k)] ∧ H = [ownL 82 3 AskD.cells (.slice p ss.length c) ss] ∧ m = qs.length - k) ⟨0, some ⟨out, 0, none⟩, 0, [], Nat.zero_le _, rfl, rfl, rfl, rfl⟩ ⟨rfl, rfl, rfl, rfl, trivial⟩ (fun w hI => hI) ?_
  rintro _ _ _ ⟨k, p, c, ss, hk, hss, rfl, rfl, rfl⟩
  refine CodeJ.seq ?_
  refine CodeJ.region ?_
  refine OpsJ.yld rfl rfl rfl (Yld.intBin rfl rfl rfl rfl) ?_
  refine OpsJ.nil ?_
  refine ExJ.thenN ?_
  refine CodeJ.seq ?_
  refine CodeJ.condP rfl (fun c10 => ?_) (fun c10 => ?_)
  · have hk' : k < qs.length := by omega
    obtain ⟨x, hx⟩ : ∃ x, qs[k]? = some x := ⟨qs[k], List.getElem?_eq_getElem hk'⟩
    obtain ⟨b, off, c', hpv, hcell⟩ := Row.at hask (by simp [AskD.cells]) (by simp) hk'
    simp only [Value.slice.injEq] at hpv
    obtain ⟨rfl, _, rfl⟩ := hpv
    have hcx := hcell x.cells (by simp [hx])
    have hsl : ss.length = k := by rw [hss, List.length_take]; omega
    refine CodeJ.skip ?_
    refine ExJ.thenN ?_
    refine CodeJ.seq ?_
    refine CodeJ.block ?_
    refine CodeJ.seq ?_
    refine CodeJ.region ?_
    refine OpsJ.yld rfl rfl rfl (Yld.indexAddr rfl Tryd.underlying25 sz_91 rfl rfl hk') ?_
    refine OpsJ.yld rfl rfl rfl (Yld.loadN (vs := x.cells) rfl Tryd.underlying91 rfl sz_91 rfl (fun w hI => hI.old hcx (by simp [fp]))) ?_
    refine OpsJ.op rfl ?_
    refine OpJ.alloc rfl rfl rfl zero_91 fun ab hab => ?_
    refine OpsJ.op rfl ?_
    refine OpJ.storeW (i := 0) rfl rfl rfl rfl sz_91 rfl rfl rfl ?_
    refine OpsJ.nil ?_
    refine ExJ.thenN ?_
    refine CodeJ.region ?_
    refine OpsJ.yld rfl rfl rfl (Yld.move rfl rfl) ?_
    refine OpsJ.yld rfl rfl rfl (Yld.loadN (vs := x.cells) rfl Tryd.underlying91 rfl sz_91 rfl (fun w hI => Inv.whole hI (i := 0) rfl)) ?_
    refine OpsJ.op rfl ?_
    refine OpJ.buildSlice (xs := [.tmp 14]) elt_37 rfl rfl rfl rfl rfl rfl (by rfl) (by decide) fun one hone => ?_
    refine OpsJ.op rfl ?_
    refine OpJ.appendL (cells := AskD.cells) (i := 2) (news := x) elt_37 rfl rfl rfl rfl rfl rfl (fun w hI => Inv.src hI (i := 0) rfl Tryd.underlying37 (AskD.ones x)) (by omega) fun p16 c16 => ?_
    refine OpsJ.yld rfl rfl rfl (Yld.assign rfl rfl) ?_
    refine OpsJ.nil ?_
    refine ExJ.blockN ?_
    refine ExJ.thenN ?_
    refine CodeJ.region ?_
    refine OpsJ.yld rfl rfl rfl (Yld.intBin rfl rfl rfl rfl) ?_
    rw [i64_succ k (by omega)]
    refine OpsJ.yld rfl rfl rfl (Yld.move rfl rfl) ?_
    refine OpsJ.nil ?_
    exact ExJ.againP ⟨k + 1, p16, c16, ss ++ [x], by omega, by rw [hss, take_snoc _ _ _ hx], rfl, rfl, rfl⟩ (by omega) ⟨rfl, rfl, rfl, rfl, trivial⟩ fun w hI => hI.pick (is := [2]) (by decide) rfl
  · obtain rfl : k = qs.length := by omega
    rw [List.take_length] at hss
    subst hss
    refine CodeJ.exit ?_
    refine ExJ.thenX ?_
    refine ExJ.thenX ?_
    refine ExJ.blockHit ?_
    refine ExJ.thenN ?_
    refine CodeJ.seq ?_
    refine CodeJ.region ?_
    refine OpsJ.yld rfl rfl rfl (Yld.move rfl rfl) ?_
    refine OpsJ.yld rfl rfl rfl (Yld.assign rfl rfl) ?_
    refine OpsJ.nil ?_
    refine ExJ.thenN ?_
    refine CodeJ.ret ?_
    exact ExJ.ret1 Tryd.results31 rfl ⟨p, c, rfl, rfl⟩ fun w hI => hI

/-- a record, as the reference has it -/
def specRec (kind : Int) (r : RecD) (pv : Value) : RecD := { r with kind := kind, pairsV := pv }
theorem PairD.ones {w : World} {a : PairD} (h : Bytes w a.dataV a.data) : ∀ u ∈ a.cells, u.oneCell' = true := by
  intro u hu
  obtain ⟨p, c, hs⟩ := h.shape
  simp [PairD.cells] at hu
  rcases hu with rfl | rfl
  · rfl
  · rw [hs]; rfl
theorem PairD.oneB {w : World} {a : PairD} (h : Bytes w a.dataV a.data) : oneCells (Value.agg a.cells.toArray).cells.toList = true := List.all_eq_true.2 (PairD.ones h)

theorem specRecord_spec (r : RecD) (kind : Int) (hn : r.pairs.length * 32 ≤ 140737488351232) :
    Spec Tryd.prog 61 [.agg r.cells.toArray, .int .i64 kind] [] (fun w => RecOk w r) (fun x H' => ∃ p c, x = .agg (specRec kind r (.slice p r.pairs.length c)).cells.toArray ∧ H' = [ownL 161 2 PairD.cells (.slice p r.pairs.length c) r.pairs]) := by
  refine Spec.of Tryd.func61 rfl Tryd.ntmps61 rfl fun w0 hR => ?_
  obtain ⟨hdata, htexts, hpairs, hpdata⟩ := hR
  obtain ⟨nm, typ, cls, ttl, len, kd, dataV, data, host, box, n1, n2, n3, n4, n5, textsV, texts, pairsV, qs⟩ := r
  simp only at hdata htexts hpairs hpdata hn
  obtain ⟨pa, ca, rfl⟩ := hpairs.shape
  obtain ⟨pd, cd, rfl⟩ := hdata.shape
  obtain ⟨pt, ct, rfl⟩ := htexts.shape
  refine CodeJ.seq ?_
  refine CodeJ.region ?_
  refine OpsJ.op rfl ?_
  refine OpJ.box rfl rfl rfl rfl fun rb hrb => ?_
  refine OpsJ.op rfl ?_
  refine OpJ.alloc rfl rfl rfl zero_86 fun res hres => ?_
  refine OpsJ.nil ?_
  refine ExJ.thenN ?_
  refine CodeJ.seq ?_
  refine CodeJ.region ?_
  refine OpsJ.op rfl ?_
  refine OpJ.buildSlice (xs := []) elt_84 rfl rfl rfl rfl rfl rfl (by rfl) (by decide) fun out hout => ?_
  refine OpsJ.yld rfl rfl rfl (Yld.assign rfl rfl) ?_
  refine OpsJ.nil ?_
  refine ExJ.thenN ?_
  refine CodeJ.seq ?_
  refine CodeJ.seq ?_
  refine CodeJ.region ?_
  refine OpsJ.yld rfl rfl rfl (Yld.fieldAddr fa_35_15 rfl rfl) ?_
  refine OpsJ.yld rfl rfl rfl (Yld.load1 rfl Tryd.underlying33 rfl rfl (fun w hI => Inv.cell1 hI (i := 2) rfl rfl)) ?_
  refine OpsJ.yld rfl rfl rfl (Yld.lenSlice rfl rfl rfl Tryd.underlying33 rfl) ?_
  refine OpsJ.yld rfl rfl rfl (Yld.move rfl rfl) ?_
  refine OpsJ.nil ?_
  refine ExJ.thenN ?_
  refine CodeJ.block ?_
  refine CodeJ.loopP (fun L H m => ∃ (k : Nat) (p : Option Addr) (c : Nat) (ss : List PairD), k ≤ qs.length ∧ ss = qs.take k ∧ L = [(1, .int .i64 kind), (2, .pointer (some ⟨rb, 0, none⟩)), (4, .pointer (some ⟨res, 0, none⟩)), (5, .slice p ss.length c), (10, .slice pa qs.length ca), (11, .int .i64 qs.length), (12, .int .i64 k)] ∧
  H = [ownL 161 2 PairD.cells (.slice p ss.length c) ss, .blk res (#[.string ByteArray.empty, .int .u16 0, .int .u16 0, .int .u32 0, .int .u16 0, .int .i64 0, .slice none 0 0, .string ByteArray.empty, .string ByteArray.empty, .int .u32 0, .int .u32 0, .int .u32 0, .int .u32 0, .int .u32 0, .slice none 0 0, .slice none 0 0] : Array Value) 86, .blk rb (RecD.cells ⟨nm, typ, cls, ttl, len, kd, .slice pd data.length cd, data, host, box, n1, n2, n3, n4, n5, .slice pt texts.length ct, texts, .slice pa qs.length ca, qs⟩).toArray 35] ∧ m = qs.length - k) ⟨0, some ⟨out, 0, none⟩, 0, [], Nat.zero_le _, rfl, rfl, rfl, rfl⟩ ⟨rfl, rfl, rfl, rfl, rfl, rfl, rfl, trivial⟩ (fun w hI => hI.pick (is := [0, 1, 2]) (by decide) rfl) ?_
  rintro _ _ _ ⟨k, p, c, ss, hk, hss, rfl, rfl, rfl⟩
  refine CodeJ.seq ?_
  refine CodeJ.region ?_
  refine OpsJ.yld rfl rfl rfl (Yld.intBin rfl rfl rfl rfl) ?_
  refine OpsJ.nil ?_
  refine ExJ.thenN ?_
  refine CodeJ.seq ?_
  refine CodeJ.condP rfl (fun c13 => ?_) (fun c13 => ?_)
  · have hk' : k < qs.length := by omega
    obtain ⟨x, hx⟩ : ∃ x, qs[k]? = some x := ⟨qs[k], List.getElem?_eq_getElem hk'⟩
    obtain ⟨b, off, c', hpv, hcell⟩ := Row.at hpairs (by simp [PairD.cells]) (by simp) hk'
    simp only [Value.slice.injEq] at hpv
    obtain ⟨rfl, _, rfl⟩ := hpv
    have hcx := hcell x.cells (by simp [hx])
    have hsl : ss.length = k := by rw [hss, List.length_take]; omega
    have hxb := hpdata x (List.mem_of_getElem? hx)
    refine CodeJ.skip ?_
    refine ExJ.thenN ?_
    refine CodeJ.seq ?_
    refine CodeJ.block ?_
    refine CodeJ.seq ?_
    refine CodeJ.region ?_
    refine OpsJ.yld rfl rfl rfl (Yld.indexAddr rfl Tryd.underlying33 sz_160 rfl rfl hk') ?_
    refine OpsJ.yld rfl rfl rfl (Yld.loadN (vs := x.cells) rfl Tryd.underlying160 rfl sz_160 rfl (fun w hI => hI.old hcx (by simp [fp]))) ?_
    refine OpsJ.op rfl ?_
    refine OpJ.alloc rfl rfl rfl zero_160 fun ab hab => ?_
    refine OpsJ.op rfl ?_
    refine OpJ.storeW (i := 0) rfl rfl rfl rfl sz_160 rfl (PairD.oneB hxb) rfl ?_
    refine OpsJ.nil ?_
    refine ExJ.thenN ?_
    refine CodeJ.region ?_
    refine OpsJ.yld rfl rfl rfl (Yld.move rfl rfl) ?_
    refine OpsJ.yld rfl rfl rfl (Yld.loadN (vs := x.cells) rfl Tryd.underlying160 rfl sz_160 rfl (fun w hI => Inv.whole hI (i := 0) rfl)) ?_
    refine OpsJ.op rfl ?_
    refine OpJ.buildSlice (xs := [.tmp 17]) elt_84 rfl rfl rfl rfl rfl rfl (by rfl) (by decide) fun one hone => ?_
    refine OpsJ.op rfl ?_
    refine OpJ.appendL (cells := PairD.cells) (i := 2) (news := x) elt_84 rfl rfl rfl rfl rfl rfl (fun w hI => Inv.src hI (i := 0) rfl Tryd.underlying84 (PairD.ones hxb)) (by omega) fun p19 c19 => ?_
    refine OpsJ.yld rfl rfl rfl (Yld.assign rfl rfl) ?_
    refine OpsJ.nil ?_
    refine ExJ.blockN ?_
    refine ExJ.thenN ?_
    refine CodeJ.region ?_
    refine OpsJ.yld rfl rfl rfl (Yld.intBin rfl rfl rfl rfl) ?_
    rw [i64_succ k (by omega)]
    refine OpsJ.yld rfl rfl rfl (Yld.move rfl rfl) ?_
    refine OpsJ.nil ?_
    exact ExJ.againP ⟨k + 1, p19, c19, ss ++ [x], by omega, by rw [hss, take_snoc _ _ _ hx], rfl, rfl, rfl⟩ (by omega) ⟨rfl, rfl, rfl, rfl, rfl, rfl, rfl, trivial⟩ fun w hI => hI.pick (is := [2, 3, 4]) (by decide) rfl
  · obtain rfl : k = qs.length := by omega
    rw [List.take_length] at hss
    subst hss
    refine CodeJ.exit ?_
    refine ExJ.thenX ?_
    refine ExJ.thenX ?_
    refine ExJ.blockHit ?_
    refine ExJ.thenN ?_
    refine CodeJ.seq ?_
    refine CodeJ.region ?_
    refine OpsJ.yld rfl rfl rfl (Yld.fieldAddr fa_35_0 rfl rfl) ?_
    refine OpsJ.yld rfl rfl rfl (Yld.load1 rfl Tryd.underlying9 rfl rfl (fun w hI => Inv.cell1 hI (i := 2) rfl rfl)) ?_
    refine OpsJ.yld rfl rfl rfl (Yld.fieldAddr fa_35_1 rfl rfl) ?_
    refine OpsJ.yld rfl rfl rfl (Yld.load1 rfl Tryd.underlying22 rfl rfl (fun w hI => Inv.cell1 hI (i := 2) rfl rfl)) ?_
    refine OpsJ.yld rfl rfl rfl (Yld.fieldAddr fa_35_2 rfl rfl) ?_
    refine OpsJ.yld rfl rfl rfl (Yld.load1 rfl Tryd.underlying22 rfl rfl (fun w hI => Inv.cell1 hI (i := 2) rfl rfl)) ?_
    refine OpsJ.yld rfl rfl rfl (Yld.fieldAddr fa_35_3 rfl rfl) ?_
    refine OpsJ.yld rfl rfl rfl (Yld.load1 rfl Tryd.underlying30 rfl rfl (fun w hI => Inv.cell1 hI (i := 2) rfl rfl)) ?_
    refine OpsJ.yld rfl rfl rfl (Yld.fieldAddr fa_35_4 rfl rfl) ?_
    refine OpsJ.yld rfl rfl rfl (Yld.load1 rfl Tryd.underlying22 rfl rfl (fun w hI => Inv.cell1 hI (i := 2) rfl rfl)) ?_
    refine OpsJ.yld rfl rfl rfl (Yld.move rfl rfl) ?_
    refine OpsJ.yld rfl rfl rfl (Yld.fieldAddr fa_35_6 rfl rfl) ?_
    refine OpsJ.yld rfl rfl rfl (Yld.load1 rfl Tryd.underlying31 rfl rfl (fun w hI => Inv.cell1 hI (i := 2) rfl rfl)) ?_
    refine OpsJ.yld rfl rfl rfl (Yld.fieldAddr fa_35_7 rfl rfl) ?_
    refine OpsJ.yld rfl rfl rfl (Yld.load1 rfl Tryd.underlying9 rfl rfl (fun w hI => Inv.cell1 hI (i := 2) rfl rfl)) ?_
    refine OpsJ.yld rfl rfl rfl (Yld.fieldAddr fa_35_8 rfl rfl) ?_
    refine OpsJ.yld rfl rfl rfl (Yld.load1 rfl Tryd.underlying9 rfl rfl (fun w hI => Inv.cell1 hI (i := 2) rfl rfl)) ?_
    refine OpsJ.yld rfl rfl rfl (Yld.fieldAddr fa_35_9 rfl rfl) ?_
    refine OpsJ.yld rfl rfl rfl (Yld.load1 rfl Tryd.underlying30 rfl rfl (fun w hI => Inv.cell1 hI (i := 2) rfl rfl)) ?_
    refine OpsJ.yld rfl rfl rfl (Yld.fieldAddr fa_35_10 rfl rfl) ?_
    refine OpsJ.yld rfl rfl rfl (Yld.load1 rfl Tryd.underlying30 rfl rfl (fun w hI => Inv.cell1 hI (i := 2) rfl rfl)) ?_
    refine OpsJ.yld rfl rfl rfl (Yld.fieldAddr fa_35_11 rfl rfl) ?_
    refine OpsJ.yld rfl rfl rfl (Yld.load1 rfl Tryd.underlying30 rfl rfl (fun w hI => Inv.cell1 hI (i := 2) rfl rfl)) ?_
    refine OpsJ.yld rfl rfl rfl (Yld.fieldAddr fa_35_12 rfl rfl) ?_
    refine OpsJ.yld rfl rfl rfl (Yld.load1 rfl Tryd.underlying30 rfl rfl (fun w hI => Inv.cell1 hI (i := 2) rfl rfl)) ?_
    refine OpsJ.yld rfl rfl rfl (Yld.fieldAddr fa_35_13 rfl rfl) ?_
    refine OpsJ.yld rfl rfl rfl (Yld.load1 rfl Tryd.underlying30 rfl rfl (fun w hI => Inv.cell1 hI (i := 2) rfl rfl)) ?_
    refine OpsJ.yld rfl rfl rfl (Yld.fieldAddr fa_35_14 rfl rfl) ?_
    refine OpsJ.yld rfl rfl rfl (Yld.load1 rfl Tryd.underlying32 rfl rfl (fun w hI => Inv.cell1 hI (i := 2) rfl rfl)) ?_
    refine OpsJ.yld rfl rfl rfl (Yld.move rfl rfl) ?_
    refine OpsJ.yld rfl rfl rfl (Yld.buildAll places_86 zero_86 rfl rfl ⟨rfl, rfl, rfl, rfl, rfl, rfl, rfl, rfl, rfl, rfl, rfl, rfl, rfl, rfl, rfl, rfl, trivial⟩ rfl) ?_
    refine OpsJ.op rfl ?_
    refine OpJ.storeW (i := 1) rfl rfl rfl rfl sz_86 rfl rfl rfl ?_
    refine OpsJ.nil ?_
    refine ExJ.thenN ?_
    refine CodeJ.ret ?_
    exact ExJ.retC (vs := (specRec kind ⟨nm, typ, cls, ttl, len, kd, .slice pd data.length cd, data, host, box, n1, n2, n3, n4, n5, .slice pt texts.length ct, texts, .slice pa ss.length ca, ss⟩ (.slice p ss.length c)).cells) Tryd.results61 rfl Tryd.underlying86 rfl sz_86 (fun w hI => Inv.whole hI (i := 1) rfl) ⟨p, c, rfl, rfl⟩ fun w hI => hI.pick (is := [0]) (by decide) rfl

/-- records, as the reference has them -/
def SpecOf (kind : Int) : List RecD → List RecD → Prop
  | [], [] => True
  | r :: rs, r' :: rs' => (∃ p c, r' = specRec kind r (.slice p r.pairs.length c)) ∧ SpecOf kind rs rs'
  | _, _ => False
theorem SpecOf.len {kind : Int} : ∀ {rs rs' : List RecD}, SpecOf kind rs rs' → rs'.length = rs.length
  | [], [], _ => rfl
  | _ :: _, _ :: _, h => by simp [SpecOf.len h.2]
  | [], _ :: _, h => h.elim
  | _ :: _, [], h => h.elim
theorem SpecOf.snoc {kind : Int} : ∀ {rs rs' : List RecD} {r : RecD} {p : Option Addr} {c : Nat}, SpecOf kind rs rs' → SpecOf kind (rs ++ [r]) (rs' ++ [specRec kind r (.slice p r.pairs.length c)])
  | [], [], _, p, c, _ => ⟨⟨p, c, rfl⟩, trivial⟩
  | _ :: _, _ :: _, _, _, _, h => ⟨h.1, SpecOf.snoc h.2⟩
  | [], _ :: _, _, _, _, h => h.elim
  | _ :: _, [], _, _, _, h => h.elim
theorem SpecOf.from_ {kind : Int} : ∀ {rs rs' : List RecD}, SpecOf kind rs rs' → ∀ r' ∈ rs', ∃ r ∈ rs, ∃ p c, r' = specRec kind r (.slice p r.pairs.length c)
  | [], [], _, r', h => by cases h
  | r :: rs, r0 :: rs', h, r', hr => by
    rcases List.mem_cons.1 hr with rfl | hr
    · obtain ⟨p, c, e⟩ := h.1
      exact ⟨r, by simp, p, c, e⟩
    · obtain ⟨x, hx, e⟩ := SpecOf.from_ h.2 r' hr
      exact ⟨x, by simp [hx], e⟩
  | [], _ :: _, h, _, _ => h.elim
  | _ :: _, [], h, _, _ => h.elim
theorem SpecOf.map {kind : Int} {β : Type} (f : RecD → β) (hf : ∀ r pv, f (specRec kind r pv) = f r) : ∀ {rs rs' : List RecD}, SpecOf kind rs rs' → rs'.map f = rs.map f
  | [], [], _ => rfl
  | _ :: _, _ :: _, h => by
    obtain ⟨p, c, e⟩ := h.1
    simp [SpecOf.map f hf h.2, e, hf]
  | [], _ :: _, h => h.elim
  | _ :: _, [], h => h.elim
/-- the records' own memory -/
def SRecs (v : Value) (rs : List RecD) (w : World) : Prop := Row w 16 v rs.length (rs.map RecD.cells).flatten ∧ ∀ r ∈ rs, Pairs w r.pairsV r.pairs
theorem SRecs.recs {kind : Int} {v : Value} {rs rs' : List RecD} {w : World} (h : SRecs v rs' w) (hs : SpecOf kind rs rs') (ho : ∀ r ∈ rs, RecOk w r) : Recs w v rs' := by
  refine ⟨h.1, fun r' hr' => ?_⟩
  obtain ⟨r, hr, p, c, rfl⟩ := hs.from_ r' hr'
  have := ho r hr
  exact ⟨this.data, this.texts, h.2 _ hr', this.pdata⟩
theorem RecD.ones {w : World} {r : RecD} (h : RecOk w r) : ∀ u ∈ r.cells, u.oneCell' = true := fun u hu => List.all_eq_true.1 h.one u hu

theorem specRecords_spec (rs : List RecD) (kind : Int) (v : Value) (hn : rs.length * 168 ≤ 140737488351232) (hp : ∀ r ∈ rs, r.pairs.length * 32 ≤ 140737488351232) :
    Spec Tryd.prog 32 [v, .int .i64 kind] [] (fun w => Recs w v rs) (fun x H' => ∃ p c rs' q bs hq, x = .slice p rs.length c ∧ SpecOf kind rs rs' ∧ (∀ w, q w → SRecs x rs' w) ∧ H' = [.ro q bs hq]) := by
  refine Spec.of Tryd.func32 rfl Tryd.ntmps32 rfl fun w0 hR => ?_
  obtain ⟨hrow, hrec⟩ := hR
  obtain ⟨pa, ca, rfl⟩ := hrow.shape
  refine CodeJ.seq ?_
  refine CodeJ.region ?_
  refine OpsJ.yld rfl rfl rfl (Yld.assign rfl rfl) ?_
  refine OpsJ.nil ?_
  refine ExJ.thenN ?_
  refine CodeJ.seq ?_
  refine CodeJ.region ?_
  refine OpsJ.op rfl ?_
  refine OpJ.buildSlice (xs := []) elt_38 rfl rfl rfl rfl rfl rfl (by rfl) (by decide) fun out hout => ?_
  refine OpsJ.yld rfl rfl rfl (Yld.assign rfl rfl) ?_
  refine OpsJ.nil ?_
  refine ExJ.thenN ?_
  refine CodeJ.seq ?_
  refine CodeJ.seq ?_
  refine CodeJ.region ?_
  refine OpsJ.yld rfl rfl rfl (Yld.move rfl rfl) ?_
  refine OpsJ.yld rfl rfl rfl (Yld.lenSlice rfl rfl rfl Tryd.underlying26 rfl) ?_
  refine OpsJ.yld rfl rfl rfl (Yld.move rfl rfl) ?_
  refine OpsJ.nil ?_
  refine ExJ.thenN ?_
  refine CodeJ.block ?_
  refine CodeJ.loopP (fun L H m => ∃ (k : Nat) (p : Option Addr) (c : Nat) (ss : List RecD) (q : World → Prop) (bs : List Nat) (hq : ∀ w w' : World, (∀ b ∈ bs, w'.heap[b]? = w.heap[b]?) → q w → q w'), k ≤ rs.length ∧ SpecOf kind (rs.take k) ss ∧ (∀ w, q w → ∀ r ∈ ss, Pairs w r.pairsV r.pairs) ∧
  L = [(1, .int .i64 kind), (5, .slice p ss.length c), (9, .slice pa rs.length ca), (10, .int .i64 rs.length), (11, .int .i64 k)] ∧ H = [ownL 86 16 RecD.cells (.slice p ss.length c) ss, .ro q bs hq] ∧ m = rs.length - k) ⟨0, some ⟨out, 0, none⟩, 0, [], fun _ => True, [], fun _ _ _ _ => trivial, Nat.zero_le _, trivial, fun _ _ r hr => (by cases hr), rfl, rfl, rfl⟩ ⟨rfl, rfl, rfl, rfl, rfl, trivial⟩ (fun w hI => (hI.roNil fun _ => trivial).pick (is := [1, 0]) (by decide) rfl) ?_
  rintro _ _ _ ⟨k, p, c, ss, q, bs, hq, hk, hss, hqs, rfl, rfl, rfl⟩
  refine CodeJ.seq ?_
  refine CodeJ.region ?_
  refine OpsJ.yld rfl rfl rfl (Yld.intBin rfl rfl rfl rfl) ?_
  refine OpsJ.nil ?_
  refine ExJ.thenN ?_
  refine CodeJ.seq ?_
  refine CodeJ.condP rfl (fun c12 => ?_) (fun c12 => ?_)
  · have hk' : k < rs.length := by omega
    obtain ⟨x, hx⟩ : ∃ x, rs[k]? = some x := ⟨rs[k], List.getElem?_eq_getElem hk'⟩
    obtain ⟨b, off, c', hpv, hcell⟩ := Row.at hrow (by simp [RecD.cells]) (by simp) hk'
    simp only [Value.slice.injEq] at hpv
    obtain ⟨rfl, _, rfl⟩ := hpv
    have hcx := hcell x.cells (by simp [hx])
    have hsl : ss.length = k := by rw [hss.len, List.length_take]; omega
    have hxr := hrec x (List.mem_of_getElem? hx)
    refine CodeJ.skip ?_
    refine ExJ.thenN ?_
    refine CodeJ.seq ?_
    refine CodeJ.block ?_
    refine CodeJ.seq ?_
    refine CodeJ.region ?_
    refine OpsJ.yld rfl rfl rfl (Yld.indexAddr rfl Tryd.underlying26 sz_35 rfl rfl hk') ?_
    refine OpsJ.yld rfl rfl rfl (Yld.loadN (vs := x.cells) rfl Tryd.underlying35 rfl sz_35 rfl (fun w hI => hI.old hcx (by simp [fp]))) ?_
    refine OpsJ.op rfl ?_
    refine OpJ.alloc rfl rfl rfl zero_35 fun ab hab => ?_
    refine OpsJ.op rfl ?_
    refine OpJ.storeW (i := 0) rfl rfl rfl rfl sz_35 rfl hxr.one rfl ?_
    refine OpsJ.nil ?_
    refine ExJ.thenN ?_
    refine CodeJ.region ?_
    refine OpsJ.yld rfl rfl rfl (Yld.move rfl rfl) ?_
    refine OpsJ.yld rfl rfl rfl (Yld.loadN (vs := x.cells) rfl Tryd.underlying35 rfl sz_35 rfl (fun w hI => Inv.whole hI (i := 0) rfl)) ?_
    refine OpsJ.yld rfl rfl rfl (Yld.move rfl rfl) ?_
    refine OpsJ.op rfl ?_
    refine OpJ.call (specRecord_spec x kind (hp x (List.mem_of_getElem? hx))) has_61 rfl rfl rfl rfl rfl [] [0, 1, 2] (by decide) rfl rfl (fun w hI => hxr.keep0 hI.keep) ?_
    rintro _ _ ⟨p18, c18, rfl, rfl⟩
    have hq2 : ∀ w, (ownL 161 2 PairD.cells (.slice p18 x.pairs.length c18) x.pairs).holds w ∧ (Res.ro q bs hq).holds w → ∀ r ∈ ss ++ [specRec kind x (.slice p18 x.pairs.length c18)], Pairs w r.pairsV r.pairs := by
      intro w hw r hr
      rcases List.mem_append.1 hr with h | h
      · exact hqs w hw.2.1 r h
      · simp at h
        subst h
        exact Own.row hw.1.1
    have hones : ∀ u ∈ (specRec kind x (.slice p18 x.pairs.length c18)).cells, u.oneCell' = true := by
      obtain ⟨q1, d1, e1⟩ := hxr.data.shape
      obtain ⟨q2, d2, e2⟩ := hxr.texts.shape
      intro u hu
      simp only [specRec, RecD.cells, e1, e2, List.mem_cons, List.not_mem_nil, or_false] at hu
      rcases hu with rfl | rfl | rfl | rfl | rfl | rfl | rfl | rfl | rfl | rfl | rfl | rfl | rfl | rfl | rfl | rfl <;> rfl
    refine OpsJ.op rfl ?_
    refine OpJ.buildSlice (xs := [.tmp 18]) elt_38 rfl rfl rfl rfl rfl rfl (by rfl) (by decide) fun one hone => ?_
    refine OpsJ.op rfl ?_
    refine OpJ.appendL (cells := RecD.cells) (i := 3) (news := specRec kind x (.slice p18 x.pairs.length c18)) elt_38 rfl rfl rfl rfl rfl rfl (fun w hI => Inv.src hI (i := 0) rfl Tryd.underlying38 hones) (by omega) fun p20 c20 => ?_
    refine OpsJ.yld rfl rfl rfl (Yld.assign rfl rfl) ?_
    refine OpsJ.nil ?_
    refine ExJ.blockN ?_
    refine ExJ.thenN ?_
    refine CodeJ.region ?_
    refine OpsJ.yld rfl rfl rfl (Yld.intBin rfl rfl rfl rfl) ?_
    rw [i64_succ k (by omega)]
    refine OpsJ.yld rfl rfl rfl (Yld.move rfl rfl) ?_
    refine OpsJ.nil ?_
    exact ExJ.againP ⟨k + 1, p20, c20, ss ++ [specRec kind x (.slice p18 x.pairs.length c18)], _, _, _, by omega, by rw [take_snoc _ _ _ hx]; exact hss.snoc, hq2, rfl, rfl, rfl⟩ (by omega) ⟨rfl, rfl, rfl, rfl, rfl, trivial⟩ fun w hI => (Inv.join (hI.pick (is := [1, 4, 3]) (by decide) rfl)).pick (is := [1, 0]) (by decide) rfl
  · obtain rfl : k = rs.length := by omega
    rw [List.take_length] at hss
    have hsl := hss.len
    refine CodeJ.exit ?_
    refine ExJ.thenX ?_
    refine ExJ.thenX ?_
    refine ExJ.blockHit ?_
    refine ExJ.thenN ?_
    refine CodeJ.seq ?_
    refine CodeJ.region ?_
    refine OpsJ.yld rfl rfl rfl (Yld.move rfl rfl) ?_
    refine OpsJ.yld rfl rfl rfl (Yld.assign rfl rfl) ?_
    refine OpsJ.nil ?_
    refine ExJ.thenN ?_
    refine CodeJ.ret ?_
    refine ExJ.ret1 Tryd.results32 rfl ⟨p, c, ss, _, _, _, by rw [hsl], hss, ?_, rfl⟩ fun w hI => hI.join
    intro w hw
    exact ⟨Own.row hw.1.1, hqs w hw.2.1⟩
end Go.Proofs.YtamobccbioafmaaDoor

/-
  Contract: message.
-/
namespace Go.Proofs.YtamobccbioafmaaDoor
open Go
set_option maxRecDepth 100000

/-- a message as the reference has it; m: as it was given -/
structure MsgOf (kind : Int) (m m' : MsgD) : Prop where
  head : m'.head = m.head
  asks : m'.asks = m.asks
  one : SpecOf kind m.one m'.one
  two : SpecOf kind m.two m'.two
  three : SpecOf kind m.three m'.three
  ones : oneCells m'.cells = true
structure MsgMem (m' : MsgD) (w : World) : Prop where
  asks : Asks w m'.asksV m'.asks
  one : SRecs m'.oneV m'.one w
  two : SRecs m'.twoV m'.two w
  three : SRecs m'.threeV m'.three w
theorem MsgMem.ok {kind : Int} {m m' : MsgD} {w : World} (h : MsgMem m' w) (hm : MsgOf kind m m') (ho : ∀ r ∈ m.one ++ m.two ++ m.three, RecOk w r) : MsgOk w m' :=
  ⟨h.asks, h.one.recs hm.one fun r hr => ho r (by simp [hr]), h.two.recs hm.two fun r hr => ho r (by simp [hr]), h.three.recs hm.three fun r hr => ho r (by simp [hr])⟩
/-- what message needs of lengths -/
structure MsgFit (m : MsgD) : Prop where
  asks : m.asks.length * 24 ≤ 140737488351232
  one : m.one.length * 168 ≤ 140737488351232
  two : m.two.length * 168 ≤ 140737488351232
  three : m.three.length * 168 ≤ 140737488351232
  pairs : ∀ r ∈ m.one ++ m.two ++ m.three, r.pairs.length * 32 ≤ 140737488351232

theorem SpecOf.nil {kind : Int} {rs : List RecD} (h : SpecOf kind [] rs) : rs = [] := by
  cases rs with
  | nil => rfl
  | cons x r => exact h.elim
theorem MsgOf.nil {kind : Int} {h : Hd} {av v1 v2 v3 : Value} {qs : List AskD} {m' : MsgD} (hm : MsgOf kind ⟨h, av, qs, v1, [], v2, [], v3, []⟩ m') : ∃ a b c d, m' = ⟨h, a, qs, b, [], c, [], d, []⟩ := by
  obtain ⟨h', a, qs', b, r1, c, r2, d, r3⟩ := m'
  have h1 : h' = h := hm.head
  have h2 : qs' = qs := hm.asks
  have h3 : r1 = [] := hm.one.nil
  have h4 : r2 = [] := hm.two.nil
  have h5 : r3 = [] := hm.three.nil
  subst h1 h2 h3 h4 h5
  exact ⟨a, b, c, d, rfl⟩
theorem recs_nil (w : World) (p : Option Addr) (c : Nat) : Recs w (.slice p 0 c) [] := ⟨.inl ⟨p, c, rfl, rfl, rfl⟩, fun r hr => by cases hr⟩

theorem build_msg {o : Oper} {n : Nat} {L : List (Nat × Value)} {I : World → Prop} {parts : Array (Nat × Operand)} (h : Hd) (qs : List AskD) (rs1 rs2 rs3 : List RecD) {pa p1 p2 p3 : Option Addr} {na n1 n2 n3 ca c1 c2 c3 : Nat} (ho : o.op = .build 40 parts) (hv : evp L parts.toList = some [(0, .agg (hdCs h).toArray), (1, .slice pa na ca), (2, .slice p1 n1 c1), (3, .slice p2 n2 c2), (4, .slice p3 n3 c3)]) : Yld Tryd.prog o n L I (.agg (MsgD.cells ⟨h, .slice pa na ca, qs, .slice p1 n1 c1, rs1, .slice p2 n2 c2, rs2, .slice p3 n3 c3, rs3⟩).toArray) :=
  Yld.build places_40 zero_40 ho hv (by kernel_rfl)
theorem message_spec (kind : Int) (m : MsgD) (hf : MsgFit m) :
    Spec Tryd.prog 13 [.int .i64 kind, .agg (hdCs m.head).toArray, m.asksV, m.oneV, m.twoV, m.threeV] [] (fun w => MsgOk w m) (fun x H' => ∃ m' q bs hq, x = m'.val ∧ MsgOf kind m m' ∧ (∀ w, q w → MsgMem m' w) ∧ H' = [.ro q bs hq]) := by
  refine Spec.of Tryd.func13 rfl Tryd.ntmps13 rfl fun w0 hm => ?_
  refine CodeJ.seq ?_
  refine CodeJ.region ?_
  refine OpsJ.op rfl ?_
  refine OpJ.box rfl rfl rfl rfl fun hd hhd => ?_
  refine OpsJ.op rfl ?_
  refine OpJ.alloc rfl rfl rfl zero_40 fun res hres => ?_
  refine OpsJ.nil ?_
  refine ExJ.thenN ?_
  refine CodeJ.seq ?_
  refine CodeJ.region ?_
  refine OpsJ.yld rfl rfl rfl (Yld.loadN (vs := hdCs m.head) rfl Tryd.underlying24 rfl sz_24 rfl (fun w hI => Inv.whole hI (i := 1) rfl)) ?_
  refine OpsJ.op rfl ?_
  refine OpJ.call (specHead_spec m.head) has_30 rfl rfl rfl rfl rfl [] [0, 1] (by decide) rfl rfl (fun _ _ => trivial) ?_
  rintro _ _ ⟨rfl, rfl⟩
  refine OpsJ.yld rfl rfl rfl (Yld.move rfl rfl) ?_
  refine OpsJ.op rfl ?_
  refine OpJ.call (specAsks_spec m.asks m.asksV hf.asks) has_31 rfl rfl rfl rfl rfl [] [0, 1] (by decide) rfl rfl (fun w hI => Row.keep0 hm.asks hI.keep) ?_
  rintro _ _ ⟨pa, ca, rfl, rfl⟩
  refine OpsJ.yld rfl rfl rfl (Yld.move rfl rfl) ?_
  refine OpsJ.yld rfl rfl rfl (Yld.move rfl rfl) ?_
  refine OpsJ.op rfl ?_
  refine OpJ.call (specRecords_spec m.one kind m.oneV hf.one (fun r hr => hf.pairs r (by simp [hr]))) has_32 rfl rfl rfl rfl rfl [] [0, 1, 2] (by decide) rfl rfl (fun w hI => hm.one.keep0 hI.keep) ?_
  rintro _ _ ⟨p1, c1, rs1, q1, bs1, hq1, rfl, h1, hs1, rfl⟩
  refine OpsJ.yld rfl rfl rfl (Yld.move rfl rfl) ?_
  refine OpsJ.yld rfl rfl rfl (Yld.move rfl rfl) ?_
  refine OpsJ.op rfl ?_
  refine OpJ.call (specRecords_spec m.two kind m.twoV hf.two (fun r hr => hf.pairs r (by simp [hr]))) has_32 rfl rfl rfl rfl rfl [] [0, 1, 2, 3] (by decide) rfl rfl (fun w hI => hm.two.keep0 hI.keep) ?_
  rintro _ _ ⟨p2, c2, rs2, q2, bs2, hq2, rfl, h2, hs2, rfl⟩
  refine OpsJ.yld rfl rfl rfl (Yld.move rfl rfl) ?_
  refine OpsJ.yld rfl rfl rfl (Yld.move rfl rfl) ?_
  refine OpsJ.op rfl ?_
  refine OpJ.call (specRecords_spec m.three kind m.threeV hf.three (fun r hr => hf.pairs r (by simp [hr]))) has_32 rfl rfl rfl rfl rfl [] [0, 1, 2, 3, 4] (by decide) rfl rfl (fun w hI => hm.three.keep0 hI.keep) ?_
  rintro _ _ ⟨p3, c3, rs3, q3, bs3, hq3, rfl, h3, hs3, rfl⟩
  refine OpsJ.yld rfl rfl rfl (build_msg m.head m.asks rs1 rs2 rs3 rfl rfl) ?_
  refine OpsJ.op rfl ?_
  refine OpJ.storeW (i := 4) rfl rfl rfl rfl sz_40 rfl rfl rfl ?_
  refine OpsJ.nil ?_
  refine ExJ.thenN ?_
  refine CodeJ.ret ?_
  refine ExJ.retC (vs := MsgD.cells ⟨m.head, .slice pa m.asks.length ca, m.asks, .slice p1 m.one.length c1, rs1, .slice p2 m.two.length c2, rs2, .slice p3 m.three.length c3, rs3⟩) Tryd.results13 rfl Tryd.underlying40 rfl sz_40 (fun w hI => Inv.whole hI (i := 4) rfl)
    ⟨⟨m.head, .slice pa m.asks.length ca, m.asks, .slice p1 m.one.length c1, rs1, .slice p2 m.two.length c2, rs2, .slice p3 m.three.length c3, rs3⟩, _, _, _, rfl, ⟨rfl, rfl, h1, h2, h3, rfl⟩, ?_, rfl⟩ fun w hI => (((hI.pick (is := [3, 2, 1, 0]) (by decide) rfl).join).join).join
  intro w hw
  obtain ⟨hw, hw3⟩ := hw
  obtain ⟨⟨hw, hw2⟩, hr2⟩ := hw
  obtain ⟨⟨hwa, hw1⟩, hr1⟩ := hw
  exact ⟨Own.row hwa.1, hs1 w hw1.1, hs2 w hw2.1, hs3 w hw3.1⟩
end Go.Proofs.YtamobccbioafmaaDoor

/-
  Plain laws: how names are packed; what the builder's steps give for questions.
-/
namespace Go.Proofs.YtamobccbioafmaaDoor
open Go

theorem nokNone : ∀ s : List UInt8, s.foldl nokStep none = none
  | [] => rfl
  | _ :: r => nokNone r
theorem pk_wire (base : Nat) (m : List (List UInt8 × Nat)) : ∀ (s lab ys : List UInt8), s.foldl nokStep (some lab.length) = some 0 → pk base false s lab ys m = .ok ((s.foldl wstep (ys, lab)).1 ++ [0]) m
  | [], lab, ys, _ => by simp [pk]
  | c :: r, lab, ys, h => by
    rw [pk]
    by_cases hc : c = 46
    · subst hc
      by_cases h0 : lab.length = 0 ∨ lab.length > 63
      · have e : nokStep (some lab.length) 46 = none := by simp only [nokStep, if_pos h0]; simp
        rw [List.foldl_cons, e, nokNone] at h
        cases h
      · have e : nokStep (some lab.length) 46 = some 0 := by simp only [nokStep, if_neg h0]; simp
        rw [List.foldl_cons, e] at h
        have ih := pk_wire base m r [] (ys ++ [UInt8.ofNat lab.length] ++ lab) h
        have e2 : wstep (ys, lab) 46 = (ys ++ [UInt8.ofNat lab.length] ++ lab, []) := by
          have : lab.length > 0 := by omega
          simp only [wstep, if_pos this]
          simp
        rw [if_pos rfl, if_neg (by omega), if_neg (by omega), ih, List.foldl_cons, e2]
    · have e : nokStep (some lab.length) c = some (lab ++ [c]).length := by simp [nokStep, hc]
      rw [List.foldl_cons, e] at h
      have ih := pk_wire base m r (lab ++ [c]) ys h
      have e2 : wstep (ys, lab) c = (ys, lab ++ [c]) := by simp [wstep, hc]
      rw [if_neg hc, if_neg (by simp), ih, List.foldl_cons, e2]
theorem pk_ok (base : Nat) (on : Bool) : ∀ (s lab ys : List UInt8) (m : List (List UInt8 × Nat)), s.foldl nokStep (some lab.length) = some 0 → ∃ zs m', pk base on s lab ys m = .ok zs m'
  | [], lab, ys, m, _ => ⟨_, _, by rw [pk]⟩
  | c :: r, lab, ys, m, h => by
    rw [pk]
    by_cases hc : c = 46
    · subst hc
      by_cases h0 : lab.length = 0 ∨ lab.length > 63
      · have e : nokStep (some lab.length) 46 = none := by simp only [nokStep, if_pos h0]; simp
        rw [List.foldl_cons, e, nokNone] at h
        cases h
      · have e : nokStep (some lab.length) 46 = some 0 := by simp only [nokStep, if_neg h0]; simp
        rw [List.foldl_cons, e] at h
        rw [if_pos rfl, if_neg (by omega), if_neg (by omega)]
        exact pk_ok base on r [] _ m h
    · have e : nokStep (some lab.length) c = some (lab ++ [c]).length := by simp [nokStep, hc]
      rw [List.foldl_cons, e] at h
      rw [if_neg hc]
      split
      · split
        · exact ⟨_, _, rfl⟩
        · split
          · exact pk_ok base on r _ _ _ h
          · exact pk_ok base on r _ _ _ h
      · exact pk_ok base on r _ _ _ h
theorem pk_long (base : Nat) (m : List (List UInt8 × Nat)) : ∀ (s lab ys : List UInt8), s.foldl llStep (lab.length, decide (lab.length > 63)) = (0, true) → pk base false s lab ys m = .err m
  | [], lab, ys, h => by
    simp only [List.foldl_nil, Prod.mk.injEq, decide_eq_true_eq] at h
    omega
  | c :: r, lab, ys, h => by
    rw [pk]
    by_cases hc : c = 46
    · subst hc
      rw [if_pos rfl]
      by_cases h1 : lab.length ≥ 64
      · rw [if_pos h1]
      · rw [if_neg h1]
        by_cases h0 : lab.length = 0
        · rw [if_pos h0]
        · rw [if_neg h0]
          refine pk_long base m r [] _ ?_
          have e : llStep (lab.length, decide (lab.length > 63)) 46 = (0, false) := by
            have : ¬ lab.length > 63 := by omega
            simp [llStep, this]
          rw [List.foldl_cons, e] at h
          exact h
    · rw [if_neg hc, if_neg (by simp)]
      refine pk_long base m r _ _ ?_
      have e : llStep (lab.length, decide (lab.length > 63)) c = ((lab ++ [c]).length, decide ((lab ++ [c]).length > 63)) := by
        simp only [llStep, if_neg hc, List.length_append, List.length_singleton, Prod.mk.injEq, true_and]
        rw [Bool.eq_iff_iff]
        simp
        omega
      rw [List.foldl_cons, e] at h
      exact h

theorem nok_last (s : List UInt8) (h : nok s = some 0) (hl : 1 ≤ s.length) : s[s.length - 1]? = some 46 := by
  obtain ⟨t, c, rfl⟩ : ∃ t c, s = t ++ [c] := ⟨s.dropLast, s.getLast (by intro e; simp [e] at hl), (List.dropLast_concat_getLast _).symm⟩
  rw [nok_snoc] at h
  have hc : c = 46 := by
    cases hn : nok t with
    | none => rw [hn] at h; simp [nokStep] at h
    | some n =>
      rw [hn] at h
      by_cases hc : c = 46
      · exact hc
      · simp [nokStep, hc] at h
  subst hc
  simp
theorem ll_last (s : List UInt8) (h : (ll s).1 = 0) (hl : 1 ≤ s.length) : s[s.length - 1]? = some 46 := by
  obtain ⟨t, c, rfl⟩ : ∃ t c, s = t ++ [c] := ⟨s.dropLast, s.getLast (by intro e; simp [e] at hl), (List.dropLast_concat_getLast _).symm⟩
  rw [ll_snoc] at h
  have hc : c = 46 := by
    by_cases hc : c = 46
    · exact hc
    · simp [llStep, hc] at h
  subst hc
  simp
theorem nameOk_pname {l : List UInt8} (h : nameOk l = true) : PName l := by
  simp only [nameOk, Bool.or_eq_true, Bool.and_eq_true, decide_eq_true_eq] at h
  rcases h with h | ⟨⟨h1, h2⟩, h3⟩
  · have e : l = [46] := by simpa using h
    subst e
    exact ⟨by simp, by simp, by simp⟩
  · exact ⟨by omega, h3, nok_last l (by simpa using h1) (by omega)⟩
theorem long_pname {l : List UInt8} (h : longLabel l = true) : PName l := by
  simp only [longLabel, Bool.and_eq_true, decide_eq_true_eq] at h
  obtain ⟨⟨h1, h2⟩, h3⟩ := h
  have hl : 1 ≤ l.length := by
    cases l with
    | nil => simp [ll] at h1
    | cons c r => simp
  exact ⟨hl, h3, ll_last l (by simpa using h2) hl⟩
theorem cut255_id {s : ByteArray} (h : s.data.toList.length ≤ 255) : cut255 s = s.data.toList := List.take_of_length_le h
theorem cut_ok {s : ByteArray} (h : nameOk s.data.toList = true) : cut255 s = s.data.toList := cut255_id (Nat.le_trans (nameOk_pname h).le (by decide))
theorem cut_long {s : ByteArray} (h : longLabel s.data.toList = true) : cut255 s = s.data.toList := cut255_id (Nat.le_trans (long_pname h).le (by decide))
theorem packN_wire (base : Nat) (l : List UInt8) (m : List (List UInt8 × Nat)) (h : nameOk l = true) : packN base false l m = .ok (wire l) m := by
  unfold packN
  split
  · next e => subst e; rfl
  · next e =>
    simp only [nameOk, Bool.or_eq_true, Bool.and_eq_true, decide_eq_true_eq] at h
    rcases h with h | ⟨⟨h1, h2⟩, h3⟩
    · exact absurd (by simpa using h) e
    · exact pk_wire base m l [] [] (by simpa [nok] using h1)
theorem packN_ok (base : Nat) (on : Bool) (l : List UInt8) (m : List (List UInt8 × Nat)) (h : nameOk l = true) : ∃ zs m', packN base on l m = .ok zs m' := by
  unfold packN
  split
  · exact ⟨_, _, rfl⟩
  · next e =>
    simp only [nameOk, Bool.or_eq_true, Bool.and_eq_true, decide_eq_true_eq] at h
    rcases h with h | ⟨⟨h1, h2⟩, h3⟩
    · exact absurd (by simpa using h) e
    · exact pk_ok base on l [] [] m (by simpa [nok] using h1)
theorem packN_long (base : Nat) (l : List UInt8) (m : List (List UInt8 × Nat)) (h : longLabel l = true) : packN base false l m = .err m := by
  unfold packN
  split
  · next e => subst e; simp [longLabel, ll, llStep] at h
  · simp only [longLabel, Bool.and_eq_true, decide_eq_true_eq] at h
    obtain ⟨⟨h1, h2⟩, h3⟩ := h
    refine pk_long base m l [] [] ?_
    have : ll l = (0, true) := by
      have h2 : (ll l).1 = 0 := by simpa using h2
      exact Prod.ext h2 h1
    simpa [ll] using this
theorem packN_le (base : Nat) (on : Bool) (l : List UInt8) (m : List (List UInt8 × Nat)) (zs : List UInt8) (m' : List (List UInt8 × Nat)) (hl : l.length ≤ 254) (h : packN base on l m = .ok zs m') : zs.length ≤ 520 := by
  unfold packN at h
  split at h
  · injection h with h1 h2
    subst h1
    simp
  · have := pk_len base on l [] [] m zs m' h
    simp at this
    omega
theorem packN_tab (base : Nat) (on : Bool) (l : List UInt8) (m : List (List UInt8 × Nat)) (zs : List UInt8) (m' : List (List UInt8 × Nat)) (hs : ∀ x ∈ m, x.2 < 65536) (h : packN base on l m = .ok zs m') : ∀ x ∈ m', x.2 < 65536 := by
  unfold packN at h
  split at h
  · injection h with h1 h2
    subst h2
    exact hs
  · have := pk_small base on l [] [] m hs
    rw [h] at this
    exact this

/-! ### steps -/
theorem step_mk (A : Adder) (k : Nat) (on : Bool) (b : Bd) (h1 : 2 ≤ k) (h2 : k ≤ 5) : stepF A (mkStep k) on b = (on, { b with sec := k }, 0) := by
  rcases (by omega : k = 2 ∨ k = 3 ∨ k = 4 ∨ k = 5) with rfl | rfl | rfl | rfl <;> rfl
theorem step_on (A : Adder) (on : Bool) (b : Bd) : stepF A (mkStep 1) on b = (true, { b with m := [] }, 0) := rfl
theorem step_ask (A : Adder) (a : AskD) (on : Bool) (b : Bd) : stepF A (askStep a) on b = (on, askF a on b) := rfl
theorem ok_mk (A : Adder) (k : Nat) (on : Bool) (b : Bd) (hb : BdOk b) (h1 : b.sec ≤ k) (h2 : k ≤ 5) : StepOk A (mkStep k) on b :=
  ⟨hb, fun _ _ => h1, fun h => (by simp [mkStep] at h; omega), fun h => (by simp [mkStep] at h; omega)⟩
theorem ok_on (A : Adder) (on : Bool) (b : Bd) (hb : BdOk b) : StepOk A (mkStep 1) on b :=
  ⟨hb, fun h _ => (by simp [mkStep] at h), fun h => (by simp [mkStep] at h), fun h => (by simp [mkStep] at h)⟩
theorem ok_ask (A : Adder) (a : AskD) (on : Bool) (b : Bd) (hb : BdOk b) (h : b.sec < 2 ∨ (b.sec = 2 ∧ b.q < 65535 ∧ PName (cut255 a.name))) : StepOk A (askStep a) on b :=
  ⟨hb, fun _ h => (by simp [askStep] at h), fun _ => h, fun h => (by simp [askStep] at h)⟩
theorem BdOk.sec_ {b : Bd} (h : BdOk b) {k : Nat} (hk : 1 ≤ k) : BdOk { b with sec := k } := ⟨hk, h.start, h.big, h.small⟩
theorem BdOk.off {b : Bd} (h : BdOk b) : BdOk { b with m := [] } := ⟨h.sec, h.start, h.big, fun x hx => by cases hx⟩

theorem askF_ok {a : AskD} {on : Bool} {b : Bd} (h2 : b.sec = 2) (hn : nameOk a.name.data.toList = true) : ∃ ys m', askF a on b = ({ b with buf := b.buf ++ ys, q := b.q + 1, m := m' }, 0) ∧ ys.length ≤ 600 ∧ ((∀ x ∈ b.m, x.2 < 65536) → ∀ x ∈ m', x.2 < 65536) ∧ (on = false → ys = askWire a ∧ m' = b.m) := by
  obtain ⟨zs, m', hp⟩ := packN_ok (b.buf.length - b.start) on a.name.data.toList b.m hn
  refine ⟨zs ++ be16 a.typ ++ be16 a.cls, m', ?_, ?_, ?_, ?_⟩
  · rw [askF, if_neg (by omega), packQ, cut_ok hn, hp]
  · have := packN_le _ _ _ _ _ _ (nameOk_pname hn).le hp
    simp only [List.length_append, be16_len]
    omega
  · intro hs
    exact packN_tab _ _ _ _ _ _ hs hp
  · intro hon
    subst hon
    rw [packN_wire _ _ _ hn] at hp
    injection hp with h1 h2
    subst h1 h2
    exact ⟨rfl, rfl⟩

/-- the questions, one behind the other; ts: what is done behind them -/
theorem asks_run (A : Adder) (on : Bool) (ts : List StepD) : ∀ (qs : List AskD) (b : Bd), (∀ a ∈ qs, nameOk a.name.data.toList = true) → b.sec = 2 → BdOk b → b.q + qs.length ≤ 65535 → b.buf.length + 600 * qs.length ≤ 158329674399744 - 1024 →
    ∃ ys m', BdOk { b with buf := b.buf ++ ys, q := b.q + qs.length, m := m' } ∧ (on = false → ys = (qs.map askWire).flatten ∧ m' = b.m) ∧ ys.length ≤ 600 * qs.length ∧
      (RunOk A ts on { b with buf := b.buf ++ ys, q := b.q + qs.length, m := m' } → RunOk A (qs.map askStep ++ ts) on b) ∧
      runF A (qs.map askStep ++ ts) on b = ((runF A ts on { b with buf := b.buf ++ ys, q := b.q + qs.length, m := m' }).1, List.replicate qs.length 0 ++ (runF A ts on { b with buf := b.buf ++ ys, q := b.q + qs.length, m := m' }).2)
  | [], b, _, _, hb, _, _ => ⟨[], b.m, by simpa using hb, fun _ => ⟨rfl, rfl⟩, by simp, by simp, by simp⟩
  | a :: r, b, hn, h2, hb, hq, hl => by
    simp only [List.length_cons] at hq hl
    obtain ⟨ys, m', e, hy, hm, hw⟩ := askF_ok (on := on) h2 (hn a (by simp))
    have hb1 : BdOk { b with buf := b.buf ++ ys, q := b.q + 1, m := m' } := ⟨hb.sec, by simp; have := hb.start; omega, by simp; omega, hm hb.small⟩
    obtain ⟨zs, m2, hb2, hw2, hz, hr, hf⟩ := asks_run A on ts r { b with buf := b.buf ++ ys, q := b.q + 1, m := m' } (fun x hx => hn x (by simp [hx])) h2 hb1 (by simp; omega) (by simp; omega)
    have e2 : ({ b with buf := b.buf ++ ys ++ zs, q := b.q + 1 + r.length, m := m2 } : Bd) = { b with buf := b.buf ++ (ys ++ zs), q := b.q + (a :: r).length, m := m2 } := by
      rw [List.append_assoc, List.length_cons, show b.q + 1 + r.length = b.q + (r.length + 1) by omega]
    simp only at hb2 hr hf
    rw [e2] at hb2 hr hf
    refine ⟨ys ++ zs, m2, hb2, ?_, ?_, ?_, ?_⟩
    · intro hon
      obtain ⟨h3, h4⟩ := hw hon
      obtain ⟨h5, h6⟩ := hw2 hon
      exact ⟨by rw [h3, h5]; simp, by rw [h6, h4]⟩
    · simp only [List.length_append, List.length_cons]
      omega
    · intro h
      rw [List.map_cons, List.cons_append, RunOk, step_ask, e]
      exact ⟨ok_ask A a on b hb (.inr ⟨h2, by omega, by rw [cut_ok (hn a (by simp))]; exact nameOk_pname (hn a (by simp))⟩), hr h⟩
    · rw [List.map_cons, List.cons_append, runF, step_ask, e]
      simp only [hf]
      simp [List.replicate_succ]
end Go.Proofs.YtamobccbioafmaaDoor

/-
  What the steps of questions give, in plain terms.
-/
namespace Go.Proofs.YtamobccbioafmaaDoor
open Go
set_option maxRecDepth 100000

/-- no records -/
def K0 : Kind := ⟨fun _ => true, fun _ => [], fun _ => 0⟩
theorem stepsL_rec {w : World} {sh : Bool} {qs : List AskD} {secs : List (List RecD)} (h : ∀ l ∈ secs, ∀ r ∈ l, RecOk w r) : ∀ s ∈ stepsL sh qs secs, RecOk w s.rec_ := by
  have key : ∀ (secs : List (List RecD)) (i : Nat), (∀ l ∈ secs, ∀ r ∈ l, RecOk w r) → ∀ s ∈ secSteps i secs, RecOk w s.rec_ := by
    intro secs
    induction secs with
    | nil => intro i _ s hs; cases hs
    | cons l r ih =>
      intro i h s hs
      simp only [secSteps, List.mem_cons, List.mem_append, List.mem_map] at hs
      rcases hs with rfl | ⟨x, hx, rfl⟩ | hs
      · exact zRec_ok w
      · exact h l (by simp) x hx
      · exact ih (i + 1) (fun l' hl' => h l' (by simp [hl'])) s hs
  intro s hs
  simp only [stepsL, List.mem_append, List.mem_cons, List.mem_map] at hs
  rcases hs with hs | rfl | ⟨x, hx, rfl⟩ | hs
  · cases sh
    · cases hs
    · simp at hs
      subst hs
      exact zRec_ok w
  · exact zRec_ok w
  · exact zRec_ok w
  · exact key secs 0 h s hs
/-- what the steps of questions give -/
theorem asks_all (h : Hd) (on : Bool) (k : Nat) (hk : k ≤ 3) (qs : List AskD) (hn : ∀ a ∈ qs, nameOk a.name.data.toList = true) (hl : qs.length < 60000) : ∃ ys m', RunOk noAdder (stepsL on qs (List.replicate k [])) false (newB [] h) ∧
    runF noAdder (stepsL on qs (List.replicate k [])) false (newB [] h) = ({ newB [] h with buf := zero12 ++ ys, sec := 2 + k, q := qs.length, m := m' }, List.replicate (stepsL on qs (List.replicate k [])).length 0) ∧ ys.length ≤ 600 * qs.length ∧ (on = false → ys = (qs.map askWire).flatten) := by
  have hb0 := newB_ok h
  obtain ⟨ys, m', hb, hw, hy, hr, hf⟩ := asks_run noAdder on (secSteps 0 (List.replicate k [])) qs { newB [] h with sec := 2 } hn rfl (hb0.sec_ (by decide)) (by simp [newB]; omega) (by simp [newB, zero12]; omega)
  simp only [newB, List.nil_append, Nat.zero_add] at hb hr hf
  have htail : RunOk noAdder (secSteps 0 (List.replicate k [])) on ⟨zero12 ++ ys, ([] : List UInt8).length, 2, h.id, h.bits, qs.length, 0, 0, 0, m'⟩ ∧
      runF noAdder (secSteps 0 (List.replicate k [])) on ⟨zero12 ++ ys, ([] : List UInt8).length, 2, h.id, h.bits, qs.length, 0, 0, 0, m'⟩ = (⟨zero12 ++ ys, ([] : List UInt8).length, 2 + k, h.id, h.bits, qs.length, 0, 0, 0, m'⟩, List.replicate k 0) := by
    have h3 := hb.sec_ (k := 3) (by decide)
    have h4 := hb.sec_ (k := 4) (by decide)
    have h5 := hb.sec_ (k := 5) (by decide)
    rcases (by omega : k = 0 ∨ k = 1 ∨ k = 2 ∨ k = 3) with rfl | rfl | rfl | rfl
    · exact ⟨hb, rfl⟩
    · exact ⟨⟨ok_mk _ 3 _ _ hb (Nat.le_of_ble_eq_true rfl) (by decide), h3⟩, rfl⟩
    · exact ⟨⟨ok_mk _ 3 _ _ hb (Nat.le_of_ble_eq_true rfl) (by decide), ok_mk _ 4 _ _ h3 (Nat.le_of_ble_eq_true rfl) (by decide), h4⟩, rfl⟩
    · exact ⟨⟨ok_mk _ 3 _ _ hb (Nat.le_of_ble_eq_true rfl) (by decide), ok_mk _ 4 _ _ h3 (Nat.le_of_ble_eq_true rfl) (by decide), ok_mk _ 5 _ _ h4 (Nat.le_of_ble_eq_true rfl) (by decide), h5⟩, rfl⟩
  rw [htail.2] at hf
  have hlen : (secSteps 0 (List.replicate k [])).length = k := by
    rcases (by omega : k = 0 ∨ k = 1 ∨ k = 2 ∨ k = 3) with rfl | rfl | rfl | rfl <;> rfl
  refine ⟨ys, m', ?_, ?_, hy, fun ho => (hw ho).1⟩
  · cases on
    · exact ⟨ok_mk _ 2 _ _ hb0 (Nat.le_of_ble_eq_true rfl) (by decide), hr htail.1⟩
    · exact ⟨ok_on _ _ _ hb0, ok_mk _ 2 _ _ hb0.off (Nat.le_of_ble_eq_true rfl) (by decide), hr htail.1⟩
  · cases on
    · simp only [stepsL, Bool.false_eq_true, if_false, List.nil_append, runF, step_mk noAdder 2 false _ (by decide) (by decide)]
      simp only [newB, List.nil_append, hf]
      simp only [List.length_cons, List.length_append, List.length_map, hlen, List.replicate_succ, ← List.replicate_append_replicate]
    · simp only [stepsL, if_true, List.singleton_append, runF, step_on, step_mk noAdder 2 true _ (by decide) (by decide)]
      simp only [newB, List.nil_append, hf]
      simp only [List.length_cons, List.length_append, List.length_map, hlen, List.replicate_succ, ← List.replicate_append_replicate]
theorem fin_asks (h : Hd) (ys : List UInt8) (s q : Nat) (m' : List (List UInt8 × Nat)) (hq : q < 65536) : ({ newB [] h with buf := zero12 ++ ys, sec := s, q := q, m := m' } : Bd).fin = headWire h [q, 0, 0, 0] ++ ys := by
  have : q % 65536 = q := Nat.mod_eq_of_lt hq
  simp [Bd.fin, newB, zero12, hd12, headWire, this]
theorem all_zero (n : Nat) : ((List.replicate n 0).all (· == 0) && decide ((List.replicate n 0).length = n)) = true := by simp

theorem ok_asks {h : Hd} {a b c d : Value} {qs : List AskD} (hk : K0.okB ⟨h, a, qs, b, [], c, [], d, []⟩ = true) : (∀ x ∈ qs, nameOk x.name.data.toList = true) ∧ qs.length < 60000 ∧ h.ok = true := by
  simp only [Kind.okB, Bool.and_eq_true, List.all_eq_true, decide_eq_true_eq] at hk
  exact ⟨hk.1.1.1.1.1.1.1.1.1, hk.1.1.1.1.2, hk.1.1.1.1.1.2⟩
end Go.Proofs.YtamobccbioafmaaDoor

/-
  Facts of the program's tables that the laws' walks use.
-/
namespace Go.Proofs.YtamobccbioafmaaDoor
open Go
set_option maxRecDepth 100000
end Go.Proofs.YtamobccbioafmaaDoor
