/-
  Contract: steps.
-/
import Derived.Test.YtdiememgbnplkaaDoorFactsB
import Derived.Test.YtdiememgbnplkaaDoorMem7
import Derived.Test.YtdiememgbnplkaaDoorSpecD
namespace Go.Proofs.YtdiememgbnplkaaDoor
open Go
set_option maxRecDepth 100000

def zAsk : AskD := ⟨ByteArray.empty, 0, 0⟩
def zRec : RecD := ⟨ByteArray.empty, 0, 0, 0, 0, 0, .slice none 0 0, [], ByteArray.empty, ByteArray.empty, 0, 0, 0, 0, 0, .slice none 0 0, [], .slice none 0 0, []⟩
theorem zRec_ok (w : World) : RecOk w zRec := ⟨.inl ⟨none, 0, rfl, rfl⟩, .inl ⟨none, 0, rfl, rfl, rfl⟩, .inl ⟨none, 0, rfl, rfl, rfl⟩, fun p hp => by cases hp⟩
def mkStep (k : Nat) : StepD := ⟨k, zAsk, zRec⟩
def askStep (a : AskD) : StepD := ⟨6, a, zRec⟩
def recStep (r : RecD) : StepD := ⟨7, zAsk, r⟩
/-- the steps of the sections for records; i: how many sections were begun -/
def secSteps : Nat → List (List RecD) → List StepD
  | _, [] => []
  | i, rs :: r => mkStep (3 + i) :: (rs.map recStep ++ secSteps (i + 1) r)
def stepsL (sh : Bool) (qs : List AskD) (secs : List (List RecD)) : List StepD := (if sh then [mkStep 1] else []) ++ mkStep 2 :: (qs.map askStep ++ secSteps 0 secs)
def ownSt (v : Value) (ss : List StepD) : Res := ownL 49 20 StepD.cells v ss

theorem secSteps_snoc : ∀ (secs : List (List RecD)) (i k : Nat) (rs : List RecD), secs[k]? = some rs → secSteps i (secs.take (k + 1)) = secSteps i (secs.take k) ++ mkStep (3 + (i + k)) :: rs.map recStep
  | [], _, _, _, h => by simp at h
  | s :: r, i, 0, rs, h => by
    simp at h
    subst h
    simp [secSteps]
  | s :: r, i, k + 1, rs, h => by
    simp at h
    have := secSteps_snoc r (i + 1) k rs h
    simp only [List.take_succ_cons, secSteps, this, List.cons_append, List.append_assoc]
    rw [show i + 1 + k = i + (k + 1) by omega]
theorem secSteps_take (secs : List (List RecD)) (k : Nat) : (secSteps 0 (secs.take k)).length ≤ (secSteps 0 secs).length := by
  have key : ∀ (secs : List (List RecD)) (i k : Nat), (secSteps i (secs.take k)).length ≤ (secSteps i secs).length := by
    intro secs
    induction secs with
    | nil => intro i k; simp
    | cons s r ih =>
      intro i k
      cases k with
      | zero => simp [secSteps]
      | succ k =>
        have := ih (i + 1) k
        simp only [List.take_succ_cons, secSteps, List.length_cons, List.length_append]
        omega
  exact key secs 0 k
theorem secSteps_ge : ∀ (secs : List (List RecD)) (i : Nat), secs.length ≤ (secSteps i secs).length
  | [], _ => by simp
  | s :: r, i => by
    have := secSteps_ge r (i + 1)
    simp only [secSteps, List.length_cons, List.length_append]
    omega
theorem StepD.ones {w : World} {s : StepD} (h : RecOk w s.rec_) : ∀ u ∈ s.cells, u.oneCell' = true := fun u hu => List.all_eq_true.1 (StepD.one h) u hu
theorem room_steps {n m : Nat} (h : n + 1 ≤ m) (hm : m ≤ 1000000000) : (n + 1) * 200 ≤ 175921860444160 ∧ n + 1 ≤ 9223372036854775807 := by omega

theorem build_rec {o : Oper} {n : Nat} {L : List (Nat × Value)} {I : World → Prop} {parts : Array (Nat × Operand)} (x : RecD) (ho : o.op = .build 49 parts) (hv : evp L parts.toList = some [(0, .int .i64 7), (2, .agg x.cells.toArray)]) : Yld Tryd.prog o n L I (.agg (recStep x).cells.toArray) :=
  Yld.build places_49 zero_49 ho hv (by kernel_rfl)
theorem flat_ones {α : Type} (vs : List α) : (vs.map fun v => [v]).flatten = vs := by
  induction vs with
  | nil => rfl
  | cons b r ih => simp [ih]
theorem steps_spec (sh : Bool) (qs : List AskD) (secs : List (List RecD)) (av sv : Value) (vs : List Value) (hvs : vs.length = secs.length) (hn : (stepsL sh qs secs).length ≤ 1000000000) :
    Spec Tryd.prog 23 [.bool sh, av, sv] [] (fun w => Asks w av qs ∧ Row w 1 sv vs.length vs ∧ ∀ (i : Nat) v rs, vs[i]? = some v → secs[i]? = some rs → Recs w v rs)
      (fun r H' => ∃ p c, r = .slice p (stepsL sh qs secs).length c ∧ H' = [ownSt r (stepsL sh qs secs)]) := by
  refine Spec.of Tryd.func23 rfl Tryd.ntmps23 rfl fun w0 hR => ?_
  obtain ⟨hask, hsec, hrecs⟩ := hR
  obtain ⟨pa, ca, rfl⟩ := hask.shape
  obtain ⟨ps, cs, rfl⟩ := hsec.shape
  have hlen : (stepsL sh qs secs).length = (if sh then [mkStep 1] else []).length + 1 + qs.length + (secSteps 0 secs).length := by
    simp [stepsL]
    omega
  refine CodeJ.seq ?_
  refine CodeJ.region ?_
  refine OpsJ.yld rfl rfl rfl (Yld.assign rfl rfl) ?_
  refine OpsJ.nil ?_
  refine ExJ.thenN ?_
  refine CodeJ.seq ?_
  refine CodeJ.region ?_
  refine OpsJ.op rfl ?_
  refine OpJ.buildSlice (xs := []) elt_50 rfl rfl rfl rfl rfl rfl (by rfl) (by decide) fun out hout => ?_
  refine OpsJ.yld rfl rfl rfl (Yld.assign rfl rfl) ?_
  refine OpsJ.nil ?_
  refine ExJ.thenN ?_
  refine CodeJ.cutP (fun L H => ∃ p c, L = [(1, .slice pa qs.length ca), (2, .slice ps vs.length cs), (7, .slice p (if sh then [mkStep 1] else []).length c)] ∧ H = [ownSt (.slice p (if sh then [mkStep 1] else []).length c) (if sh then [mkStep 1] else [])]) ?_ ?_
  · refine CodeJ.seq ?_
    refine CodeJ.region ?_
    refine OpsJ.yld rfl rfl rfl (Yld.move rfl rfl) ?_
    refine OpsJ.nil ?_
    refine ExJ.thenN ?_
    refine CodeJ.cond rfl (fun c15 => ?_) (fun c15 => ?_)
    · subst c15
      refine CodeJ.region ?_
      refine OpsJ.yld rfl rfl rfl (Yld.move rfl rfl) ?_
      refine OpsJ.yld rfl rfl rfl (Yld.build places_49 zero_49 rfl rfl rfl) ?_
      refine OpsJ.op rfl ?_
      refine OpJ.buildSlice (xs := [.tmp 17]) elt_50 rfl rfl rfl rfl rfl rfl (by rfl) (by decide) fun one hone => ?_
      refine OpsJ.op rfl ?_
      refine OpJ.appendL (cells := StepD.cells) (xs := []) (i := 1) (news := mkStep 1) elt_50 rfl rfl rfl rfl rfl rfl (fun w hI => Inv.src hI (i := 0) rfl Tryd.underlying50 (StepD.ones (s := mkStep 1) (zRec_ok w))) (by decide) fun p19 c19 => ?_
      refine OpsJ.yld rfl rfl rfl (Yld.assign rfl rfl) ?_
      refine OpsJ.nil ?_
      exact ExJ.meetP ⟨p19, c19, rfl, rfl⟩ ⟨rfl, rfl, rfl, trivial⟩ fun w hI => hI.pick (is := [1]) (by decide) rfl
    · subst c15
      refine CodeJ.skip ?_
      exact ExJ.meetP ⟨some ⟨out, 0, none⟩, 0, rfl, rfl⟩ ⟨rfl, rfl, rfl, trivial⟩ fun w hI => hI.pick (is := [0]) (by decide) rfl
  · rintro _ _ ⟨p, c, rfl, rfl⟩
    refine CodeJ.seq ?_
    refine CodeJ.region ?_
    refine OpsJ.yld rfl rfl rfl (Yld.move rfl rfl) ?_
    refine OpsJ.yld rfl rfl rfl (Yld.build places_49 zero_49 rfl rfl rfl) ?_
    refine OpsJ.op rfl ?_
    refine OpJ.buildSlice (xs := [.tmp 21]) elt_50 rfl rfl rfl rfl rfl rfl (by rfl) (by decide) fun one hone => ?_
    refine OpsJ.op rfl ?_
    refine OpJ.appendL (cells := StepD.cells) (i := 1) (news := mkStep 2) elt_50 rfl rfl rfl rfl rfl rfl (fun w hI => Inv.src hI (i := 0) rfl Tryd.underlying50 (StepD.ones (s := mkStep 2) (zRec_ok w))) (room_steps (m := (stepsL sh qs secs).length) (by omega) hn) fun p23 c23 => ?_
    refine OpsJ.yld rfl rfl rfl (Yld.assign rfl rfl) ?_
    refine OpsJ.nil ?_
    refine ExJ.thenN ?_
    refine CodeJ.seq ?_
    refine CodeJ.seq ?_
    refine CodeJ.region ?_
    refine OpsJ.yld rfl rfl rfl (Yld.move rfl rfl) ?_
    refine OpsJ.yld rfl rfl rfl (Yld.lenSlice rfl rfl rfl Tryd.underlying25 rfl) ?_
    refine OpsJ.yld rfl rfl rfl (Yld.move rfl rfl) ?_
    refine OpsJ.nil ?_
    refine ExJ.thenN ?_
    refine CodeJ.block ?_
    refine CodeJ.loopP (fun L H m => ∃ (k : Nat) (p : Option Addr) (c : Nat) (ss : List StepD), k ≤ qs.length ∧ ss = (if sh then [mkStep 1] else []) ++ [mkStep 2] ++ (qs.take k).map askStep ∧ L = [(2, .slice ps vs.length cs), (7, .slice p ss.length c), (24, .slice pa qs.length ca), (25, .int .i64 qs.length), (26, .int .i64 k)] ∧ H = [ownSt (.slice p ss.length c) ss] ∧ m = qs.length - k) ⟨0, p23, c23, (if sh then [mkStep 1] else []) ++ [mkStep 2], Nat.zero_le _, by simp, rfl, rfl, rfl⟩ ⟨rfl, rfl, rfl, rfl, rfl, trivial⟩ (fun w hI => hI.pick (is := [1]) (by decide) rfl) ?_
    rintro _ _ _ ⟨k, p, c, ss, hk, hss, rfl, rfl, rfl⟩
    refine CodeJ.seq ?_
    refine CodeJ.region ?_
    refine OpsJ.yld rfl rfl rfl (Yld.intBin rfl rfl rfl rfl) ?_
    refine OpsJ.nil ?_
    refine ExJ.thenN ?_
    refine CodeJ.seq ?_
    refine CodeJ.condP rfl (fun c27 => ?_) (fun c27 => ?_)
    · have hk' : k < qs.length := by omega
      obtain ⟨x, hx⟩ : ∃ x, qs[k]? = some x := ⟨qs[k], List.getElem?_eq_getElem hk'⟩
      obtain ⟨b, off, c', hpv, hcell⟩ := Row.at hask (by simp [AskD.cells]) (by simp) hk'
      simp only [Value.slice.injEq] at hpv
      obtain ⟨rfl, _, rfl⟩ := hpv
      have hcx := hcell x.cells (by simp [hx])
      have hsl : ss.length + 1 ≤ (stepsL sh qs secs).length := by
        rw [hss]
        simp only [List.length_append, List.length_map, List.length_take, List.length_cons, List.length_nil]
        omega
      refine CodeJ.skip ?_
      refine ExJ.thenN ?_
      refine CodeJ.seq ?_
      refine CodeJ.block ?_
      refine CodeJ.seq ?_
      refine CodeJ.region ?_
      refine OpsJ.yld rfl rfl rfl (Yld.indexAddr rfl Tryd.underlying25 sz_41 rfl rfl hk') ?_
      refine OpsJ.yld rfl rfl rfl (Yld.loadN (vs := x.cells) rfl Tryd.underlying41 rfl sz_41 rfl (fun w hI => hI.old hcx (by simp [fp]))) ?_
      refine OpsJ.op rfl ?_
      refine OpJ.alloc rfl rfl rfl zero_41 fun ab hab => ?_
      refine OpsJ.op rfl ?_
      refine OpJ.storeW (i := 0) rfl rfl rfl rfl sz_41 rfl rfl rfl ?_
      refine OpsJ.nil ?_
      refine ExJ.thenN ?_
      refine CodeJ.region ?_
      refine OpsJ.yld rfl rfl rfl (Yld.move rfl rfl) ?_
      refine OpsJ.yld rfl rfl rfl (Yld.loadN (vs := x.cells) rfl Tryd.underlying41 rfl sz_41 rfl (fun w hI => Inv.whole hI (i := 0) rfl)) ?_
      refine OpsJ.yld rfl rfl rfl (Yld.build places_49 zero_49 rfl rfl rfl) ?_
      refine OpsJ.op rfl ?_
      refine OpJ.buildSlice (xs := [.tmp 32]) elt_50 rfl rfl rfl rfl rfl rfl (by rfl) (by decide) fun one hone => ?_
      refine OpsJ.op rfl ?_
      refine OpJ.appendL (cells := StepD.cells) (i := 2) (news := askStep x) elt_50 rfl rfl rfl rfl rfl rfl (fun w hI => Inv.src hI (i := 0) rfl Tryd.underlying50 (StepD.ones (s := askStep x) (zRec_ok w))) (room_steps hsl hn) fun p34 c34 => ?_
      refine OpsJ.yld rfl rfl rfl (Yld.assign rfl rfl) ?_
      refine OpsJ.nil ?_
      refine ExJ.blockN ?_
      refine ExJ.thenN ?_
      refine CodeJ.region ?_
      refine OpsJ.yld rfl rfl rfl (Yld.intBin rfl rfl rfl rfl) ?_
      rw [i64_succ k (by omega)]
      refine OpsJ.yld rfl rfl rfl (Yld.move rfl rfl) ?_
      refine OpsJ.nil ?_
      exact ExJ.againP ⟨k + 1, p34, c34, ss ++ [askStep x], by omega, by rw [hss, take_snoc _ _ _ hx]; simp, rfl, rfl, rfl⟩ (by omega) ⟨rfl, rfl, rfl, rfl, rfl, trivial⟩ fun w hI => hI.pick (is := [2]) (by decide) rfl
    · obtain rfl : k = qs.length := by omega
      rw [List.take_length] at hss
      refine CodeJ.exit ?_
      refine ExJ.thenX ?_
      refine ExJ.thenX ?_
      refine ExJ.blockHit ?_
      refine ExJ.thenN ?_
      refine CodeJ.seq ?_
      refine CodeJ.seq ?_
      refine CodeJ.region ?_
      refine OpsJ.yld rfl rfl rfl (Yld.move rfl rfl) ?_
      refine OpsJ.yld rfl rfl rfl (Yld.lenSlice rfl rfl rfl Tryd.underlying81 rfl) ?_
      refine OpsJ.yld rfl rfl rfl (Yld.move rfl rfl) ?_
      refine OpsJ.nil ?_
      refine ExJ.thenN ?_
      refine CodeJ.block ?_
      refine CodeJ.loopP (fun L H m => ∃ (k : Nat) (p : Option Addr) (c : Nat) (s2 : List StepD), k ≤ vs.length ∧ s2 = ss ++ secSteps 0 (secs.take k) ∧ L = [(7, .slice p s2.length c), (36, .slice ps vs.length cs), (37, .int .i64 vs.length), (38, .int .i64 k)] ∧ H = [ownSt (.slice p s2.length c) s2] ∧ m = vs.length - k) ⟨0, p, c, ss, Nat.zero_le _, by simp [secSteps], rfl, rfl, rfl⟩ ⟨rfl, rfl, rfl, rfl, trivial⟩ (fun w hI => hI) ?_
      rintro _ _ _ ⟨k2, p2, c2, s2, hk2, hs2, rfl, rfl, rfl⟩
      refine CodeJ.seq ?_
      refine CodeJ.region ?_
      refine OpsJ.yld rfl rfl rfl (Yld.intBin rfl rfl rfl rfl) ?_
      refine OpsJ.nil ?_
      refine ExJ.thenN ?_
      refine CodeJ.seq ?_
      refine CodeJ.condP rfl (fun c39 => ?_) (fun c39 => ?_)
      · have hk3 : k2 < vs.length := by omega
        obtain ⟨v, hv⟩ : ∃ v, vs[k2]? = some v := ⟨vs[k2], List.getElem?_eq_getElem hk3⟩
        obtain ⟨rs, hrs⟩ : ∃ rs, secs[k2]? = some rs := ⟨secs[k2]'(by omega), List.getElem?_eq_getElem (by omega)⟩
        have hrec := hrecs k2 v rs hv hrs
        obtain ⟨pr, cr, rfl⟩ := hrec.1.shape
        obtain ⟨sb, soff, sc, hpv2, hscell⟩ := Row.at (xss := vs.map fun v => [v]) (sz := 1) (by rw [flat_ones]; exact hsec) (by simp) (by simp) hk3
        simp only [Value.slice.injEq] at hpv2
        obtain ⟨rfl, _, rfl⟩ := hpv2
        have hsc := hscell [.slice pr rs.length cr] (by simp [hv])
        have htot : ss.length + (secSteps 0 secs).length = (stepsL sh qs secs).length := by
          rw [hss]
          simp only [List.length_append, List.length_map, List.length_cons, List.length_nil]
          omega
        have hsnoc := secSteps_snoc secs 0 k2 rs hrs
        have hsge := secSteps_ge secs 0
        have hupto := secSteps_take secs (k2 + 1)
        rw [hsnoc, List.length_append, List.length_cons, List.length_map] at hupto
        have hs2l : s2.length + 1 + rs.length ≤ (stepsL sh qs secs).length := by
          rw [hs2, List.length_append]
          omega
        refine CodeJ.skip ?_
        refine ExJ.thenN ?_
        refine CodeJ.seq ?_
        refine CodeJ.block ?_
        refine CodeJ.seq ?_
        refine CodeJ.region ?_
        refine OpsJ.yld rfl rfl rfl (Yld.move rfl rfl) ?_
        refine OpsJ.yld rfl rfl rfl (Yld.indexAddr rfl Tryd.underlying81 sz_64 rfl rfl hk3) ?_
        refine OpsJ.yld rfl rfl rfl (Yld.load1 rfl Tryd.underlying64 rfl rfl (fun w hI => hI.old hsc (by simp [fp]))) ?_
        refine OpsJ.yld rfl rfl rfl (Yld.assign rfl rfl) ?_
        refine OpsJ.yld rfl rfl rfl (Yld.assign rfl rfl) ?_
        refine OpsJ.nil ?_
        refine ExJ.thenN ?_
        refine CodeJ.seq ?_
        refine CodeJ.region ?_
        refine OpsJ.yld rfl rfl rfl (Yld.move rfl rfl) ?_
        refine OpsJ.yld rfl rfl rfl (Yld.move rfl rfl) ?_
        refine OpsJ.yld rfl rfl rfl (Yld.intBin rfl rfl rfl rfl) ?_
        rw [show IntKind.i64.wrap ((3 : Int) + (k2 : Int)) = ((3 + k2 : Nat) : Int) from i64_add 3 k2 (by omega)]
        refine OpsJ.yld rfl rfl rfl (Yld.build places_49 zero_49 rfl rfl rfl) ?_
        refine OpsJ.op rfl ?_
        refine OpJ.buildSlice (xs := [.tmp 46]) elt_50 rfl rfl rfl rfl rfl rfl (by rfl) (by decide) fun one hone => ?_
        refine OpsJ.op rfl ?_
        refine OpJ.appendL (cells := StepD.cells) (i := 1) (news := mkStep (3 + k2)) elt_50 rfl rfl rfl rfl rfl rfl (fun w hI => Inv.src hI (i := 0) rfl Tryd.underlying50 (StepD.ones (s := mkStep (3 + k2)) (zRec_ok w))) (room_steps (m := (stepsL sh qs secs).length) (by omega) hn) fun p48 c48 => ?_
        refine OpsJ.yld rfl rfl rfl (Yld.assign rfl rfl) ?_
        refine OpsJ.nil ?_
        refine ExJ.thenN ?_
        refine CodeJ.seq ?_
        refine CodeJ.region ?_
        refine OpsJ.yld rfl rfl rfl (Yld.move rfl rfl) ?_
        refine OpsJ.yld rfl rfl rfl (Yld.lenSlice rfl rfl rfl Tryd.underlying64 rfl) ?_
        refine OpsJ.yld rfl rfl rfl (Yld.move rfl rfl) ?_
        refine OpsJ.nil ?_
        refine ExJ.thenN ?_
        refine CodeJ.block ?_
        refine CodeJ.loopP (fun L H m => ∃ (k : Nat) (p : Option Addr) (c : Nat) (s3 : List StepD), k ≤ rs.length ∧ s3 = s2 ++ [mkStep (3 + k2)] ++ (rs.take k).map recStep ∧ L = [(7, .slice p s3.length c), (36, .slice (some ⟨sb, soff, none⟩) vs.length cs), (37, .int .i64 vs.length), (38, .int .i64 k2), (49, .slice pr rs.length cr), (50, .int .i64 rs.length), (51, .int .i64 k)] ∧ H = [ownSt (.slice p s3.length c) s3] ∧ m = rs.length - k) ⟨0, p48, c48, s2 ++ [mkStep (3 + k2)], Nat.zero_le _, by simp, rfl, rfl, rfl⟩ ⟨rfl, rfl, rfl, rfl, rfl, rfl, rfl, trivial⟩ (fun w hI => hI.pick (is := [1]) (by decide) rfl) ?_
        rintro _ _ _ ⟨k4, p3, c3, s3, hk4, hs3, rfl, rfl, rfl⟩
        refine CodeJ.seq ?_
        refine CodeJ.region ?_
        refine OpsJ.yld rfl rfl rfl (Yld.intBin rfl rfl rfl rfl) ?_
        refine OpsJ.nil ?_
        refine ExJ.thenN ?_
        refine CodeJ.seq ?_
        refine CodeJ.condP rfl (fun c52 => ?_) (fun c52 => ?_)
        · have hk5 : k4 < rs.length := by omega
          obtain ⟨x, hx⟩ : ∃ x, rs[k4]? = some x := ⟨rs[k4], List.getElem?_eq_getElem hk5⟩
          obtain ⟨rb, roff, rc, hpv3, hrcell⟩ := Row.at hrec.1 (by simp [RecD.cells]) (by simp) hk5
          simp only [Value.slice.injEq] at hpv3
          obtain ⟨rfl, _, rfl⟩ := hpv3
          have hcx := hrcell x.cells (by simp [hx])
          have hxok := hrec.2 x (List.mem_of_getElem? hx)
          have hsl : s3.length + 1 ≤ (stepsL sh qs secs).length := by
            rw [hs3]
            simp only [List.length_append, List.length_map, List.length_take, List.length_cons, List.length_nil]
            omega
          refine CodeJ.skip ?_
          refine ExJ.thenN ?_
          refine CodeJ.seq ?_
          refine CodeJ.block ?_
          refine CodeJ.seq ?_
          refine CodeJ.region ?_
          refine OpsJ.yld rfl rfl rfl (Yld.indexAddr rfl Tryd.underlying64 sz_47 rfl rfl hk5) ?_
          refine OpsJ.yld rfl rfl rfl (Yld.loadN (vs := x.cells) rfl Tryd.underlying47 rfl sz_47 rfl (fun w hI => hI.old hcx (by simp [fp]))) ?_
          refine OpsJ.op rfl ?_
          refine OpJ.alloc rfl rfl rfl zero_47 fun rb2 hrb2 => ?_
          refine OpsJ.op rfl ?_
          refine OpJ.storeW (i := 0) rfl rfl rfl rfl sz_47 rfl hxok.one rfl ?_
          refine OpsJ.nil ?_
          refine ExJ.thenN ?_
          refine CodeJ.region ?_
          refine OpsJ.yld rfl rfl rfl (Yld.move rfl rfl) ?_
          refine OpsJ.yld rfl rfl rfl (Yld.loadN (vs := x.cells) rfl Tryd.underlying47 rfl sz_47 rfl (fun w hI => Inv.whole hI (i := 0) rfl)) ?_
          refine OpsJ.yld rfl rfl rfl (build_rec x rfl rfl) ?_
          refine OpsJ.op rfl ?_
          refine OpJ.buildSlice (xs := [.tmp 57]) elt_50 rfl rfl rfl rfl rfl rfl (by rfl) (by decide) fun one hone => ?_
          refine OpsJ.op rfl ?_
          refine OpJ.appendL (cells := StepD.cells) (i := 2) (news := recStep x) elt_50 rfl rfl rfl rfl rfl rfl (fun w hI => Inv.src hI (i := 0) rfl Tryd.underlying50 (StepD.ones (s := recStep x) (hxok.keep0 hI.keep))) (room_steps hsl hn) fun p59 c59 => ?_
          refine OpsJ.yld rfl rfl rfl (Yld.assign rfl rfl) ?_
          refine OpsJ.nil ?_
          refine ExJ.blockN ?_
          refine ExJ.thenN ?_
          refine CodeJ.region ?_
          refine OpsJ.yld rfl rfl rfl (Yld.intBin rfl rfl rfl rfl) ?_
          rw [i64_succ k4 (by omega)]
          refine OpsJ.yld rfl rfl rfl (Yld.move rfl rfl) ?_
          refine OpsJ.nil ?_
          exact ExJ.againP ⟨k4 + 1, p59, c59, s3 ++ [recStep x], by omega, by rw [hs3, take_snoc _ _ _ hx]; simp, rfl, rfl, rfl⟩ (by omega) ⟨rfl, rfl, rfl, rfl, rfl, rfl, rfl, trivial⟩ fun w hI => hI.pick (is := [2]) (by decide) rfl
        · obtain rfl : k4 = rs.length := by omega
          rw [List.take_length] at hs3
          have hs3 : s3 = ss ++ secSteps 0 (secs.take (k2 + 1)) := by
            rw [hs3, hs2, hsnoc]
            simp
          refine CodeJ.exit ?_
          refine ExJ.thenX ?_
          refine ExJ.thenX ?_
          refine ExJ.blockHit ?_
          refine ExJ.blockN ?_
          refine ExJ.thenN ?_
          refine CodeJ.region ?_
          refine OpsJ.yld rfl rfl rfl (Yld.intBin rfl rfl rfl rfl) ?_
          rw [i64_succ k2 (by omega)]
          refine OpsJ.yld rfl rfl rfl (Yld.move rfl rfl) ?_
          refine OpsJ.nil ?_
          exact ExJ.againP ⟨k2 + 1, p3, c3, s3, by omega, hs3, rfl, rfl, rfl⟩ (by omega) ⟨rfl, rfl, rfl, rfl, trivial⟩ fun w hI => hI
      · obtain rfl : k2 = vs.length := by omega
        have hfin : s2 = stepsL sh qs secs := by
          rw [hs2, hss, hvs, List.take_length]
          simp [stepsL]
        subst hfin
        refine CodeJ.exit ?_
        refine ExJ.thenX ?_
        refine ExJ.thenX ?_
        refine ExJ.blockHit ?_
        refine ExJ.thenN ?_
        refine CodeJ.seq ?_
        refine CodeJ.region ?_
        refine OpsJ.yld rfl rfl rfl (Yld.move rfl rfl) ?_
        refine OpsJ.yld rfl rfl rfl (Yld.assign rfl rfl) ?_
        refine OpsJ.nil ?_
        refine ExJ.thenN ?_
        refine CodeJ.ret ?_
        exact ExJ.ret1 Tryd.results23 rfl ⟨p2, c2, rfl, rfl⟩ fun w hI => hI
end Go.Proofs.YtdiememgbnplkaaDoor
