/-
  Contract: run.
-/
import Derived.Test.YtdiememgbnplkaaDoorRunP
namespace Go.Proofs.YtdiememgbnplkaaDoor
open Go
set_option maxRecDepth 100000

theorem CodeJ.addNil {P : Program} {Q : Exit → Act → World → Prop} {n : Nat} {w0 : World} {S : List Nat} {L : List (Nat × Value)} {H : List Res} {code : Code} {T : TypeId} (h : CodeJ P Q n w0 S code L (ownB T (.slice none 0 0) [] :: H)) : CodeJ P Q n w0 S code L H := fun a w hE hI => by
  refine h a w hE ⟨hI.keep, fun r hr => ?_, List.pairwise_cons.2 ⟨fun s _ b hb => ?_, hI.dj⟩, fun r hr b hb => ?_⟩
  · rcases List.mem_cons.1 hr with rfl | hr
    · exact ⟨.inl ⟨rfl, rfl, rfl⟩, .inl ⟨rfl, rfl, rfl⟩, Nat.le_refl _⟩
    · exact hI.hs r hr
  · simp [ownB, own, Res.ats, blkOf] at hb
  · rcases List.mem_cons.1 hr with rfl | hr
    · simp [ownB, own, Res.ats, blkOf] at hb
    · exact hI.rng r hr b hb

theorem CodeJ.addNilI {P : Program} {Q : Exit → Act → World → Prop} {n : Nat} {w0 : World} {S : List Nat} {L : List (Nat × Value)} {H : List Res} {code : Code} {T : TypeId} (h : CodeJ P Q n w0 S code L (ownI T (.slice none 0 0) [] :: H)) : CodeJ P Q n w0 S code L H := CodeJ.addNil h
theorem CodeJ.addMp {P : Program} {Q : Exit → Act → World → Prop} {n : Nat} {w0 : World} {S : List Nat} {L : List (Nat × Value)} {H : List Res} {code : Code} (h : CodeJ P Q n w0 S code L (.mp none (kvV []) :: H)) : CodeJ P Q n w0 S code L H := fun a w hE hI => by
  refine h a w hE ⟨hI.keep, fun r hr => ?_, List.pairwise_cons.2 ⟨fun s _ b hb => ?_, hI.dj⟩, fun r hr b hb => ?_⟩
  · rcases List.mem_cons.1 hr with rfl | hr
    · exact rfl
    · exact hI.hs r hr
  · simp [Res.ats] at hb
  · rcases List.mem_cons.1 hr with rfl | hr
    · simp [Res.ats] at hb
    · exact hI.rng r hr b hb
theorem StepD.one {w : World} {s : StepD} (h : RecOk w s.rec_) : oneCells s.cells = true := by
  have := h.one
  simp only [oneCells, StepD.cells, List.all_append, Value.cells] at this ⊢
  rw [this]
  rfl

theorem Inv.fresh {w0 w : World} {H Hp : List Res} (hI : Inv w0 (fp []) H w) {is : List Nat} (hp : Proofs.YtdiememgbnplkaaDoor.pick H is = some Hp) : ∀ b ∈ fp Hp, w0.heap.size ≤ b := fun b hb => by
  obtain ⟨r, hr, hbr⟩ := List.mem_flatMap.1 hb
  obtain ⟨i, _, hi⟩ := pick_mem hp r hr
  rcases hI.rng r (List.mem_of_getElem? hi) b hbr with h | h
  · simp [fp] at h
  · exact h

/-- what run is given -/
structure RunIn (G : Nat → Addr) (bufV : Value) (pre : List UInt8) (stepsV : Value) (ss : List StepD) (w : World) : Prop where
  ge : GE G w []
  buf : Bytes w bufV pre
  row : Row w 20 stepsV ss.length (ss.map StepD.cells).flatten
  rec_ : ∀ s ∈ ss, RecOk w s.rec_
/-- what run returns -/
def RunPost (d : List UInt8) (fs : List Nat) (x : Value) (H' : List Res) : Prop :=
  ∃ p c p2 c2, x = .agg #[.slice p fs.length c, .slice p2 d.length c2, .int .i64 0] ∧ H' = [ownI 3 (.slice p fs.length c) fs, ownB 5 (.slice p2 d.length c2) d]

theorem run_spec (A : Adder) (f : FuncId) (hf : Has Tryd.prog f) (hA : A.Meets f) (G : Nat → Addr) (h : Hd) (hw : h.wf) (pre : List UInt8) (bufV stepsV : Value) (ss : List StepD) (hn : ss.length ≤ 1099511627776) (hpre : pre.length ≤ 140737488355328) (hok : RunOk A ss false (newB pre h)) :
    Spec Tryd.prog 26 [bufV, .agg (hdCs h).toArray, stepsV, .func (.func f) #[] #[]] [] (RunIn G bufV pre stepsV ss) (RunPost (runF A ss false (newB pre h)).1.fin (runF A ss false (newB pre h)).2) := by
  refine Spec.of Tryd.func26 rfl Tryd.ntmps26 rfl fun w0 hR => ?_
  obtain ⟨hge, hbuf, hrow, hrec⟩ := hR
  obtain ⟨ps, cs, rfl⟩ := hrow.shape
  refine CodeJ.addNil (T := 5) ?_
  refine CodeJ.addNilI (T := 3) ?_
  refine CodeJ.addMp ?_
  refine CodeJ.seq ?_
  refine CodeJ.region ?_
  refine OpsJ.op rfl ?_
  refine OpJ.box rfl rfl rfl rfl fun hd hhd => ?_
  refine OpsJ.op rfl ?_
  refine OpJ.alloc rfl rfl rfl zero_37 fun res hres => ?_
  refine OpsJ.nil ?_
  refine ExJ.thenN ?_
  refine CodeJ.cutP (fun L H => ∃ (p : Option Addr) (c bb rb : Nat), L = [(2, .slice ps ss.length cs), (3, .func (.func f) #[] #[]), (8, .pointer (some ⟨rb, 0, none⟩)), (9, .pointer (some ⟨bb, 0, none⟩))] ∧ H = bdR (newB pre h) bb p c none ++ [ownI 3 (.slice none 0 0) [], .blk rb #[.slice none 0 0, .slice none 0 0, .int .i64 0] 37]) ?_ ?_
  · refine CodeJ.any (fuel := 7) (listed := #[false, false, false, false, false, false, false]) [1] rfl follows_mixed rfl rfl ?_
    refine AnyJ.take (fuel := 6) (listed' := #[true, false, false, false, false, false, false]) 0 rfl (by kernel_rfl) (by kernel_rfl) (by kernel_rfl) rfl rfl rfl rfl (Yld.move rfl rfl) (fun w hI => hI.pick (is := [1]) (by decide) rfl) ?_
    refine AnyJ.take (fuel := 5) (listed' := #[true, false, true, false, false, false, false]) 2 rfl (by kernel_rfl) (by kernel_rfl) (by kernel_rfl) rfl rfl rfl rfl (Yld.loadN (vs := hdCs h) rfl Tryd.underlying24 rfl sz_24 rfl (fun w hI => Inv.whole hI (i := 0) rfl)) (fun w hI => hI.pick (is := [1]) (by decide) rfl) ?_
    refine AnyJ.two (fuel := 4) 1 5 (by kernel_rfl) ?_ ?_
    · refine StepJ.op (listed' := #[true, true, true, false, false, false, false]) rfl rfl rfl ?_
      refine OpJ.appendO (i := 4) (news := pre) elt_29 rfl rfl rfl rfl rfl rfl (fun w hI => Bytes.src (hbuf.keep hI.keep (by simp [fp])) Tryd.underlying29) (by simp; omega) fun p17 c17 => ?_
      refine ⟨fun w hI => hI.pick (is := [1]) (by decide) rfl, ?_⟩
      refine AnyJ.two (fuel := 3) 3 5 (by kernel_rfl) ?_ ?_
      · refine StepJ.op (listed' := #[true, true, true, true, false, false, false]) rfl rfl rfl ?_
        refine OpJ.call (headerOf_spec h) has_38 rfl rfl rfl rfl rfl [] [0, 1, 2, 3, 4] (by decide) rfl rfl (fun _ _ => trivial) ?_
        rintro _ _ ⟨rfl, rfl⟩
        refine ⟨fun w hI => hI.pick (is := [1]) (by decide) rfl, ?_⟩
        refine AnyJ.two (fuel := 2) 4 5 (by kernel_rfl) ?_ ?_
        · refine StepJ.op (listed' := #[true, true, true, true, true, false, false]) rfl rfl rfl ?_
          refine OpJ.call (newBuilder_spec pre p17 c17 h hw (by omega)) has_37 rfl rfl rfl rfl rfl [4] [0, 1, 2, 3] (by decide) rfl rfl (fun _ _ => trivial) ?_
          rintro _ _ ⟨p20, c20, rfl, rfl⟩
          refine ⟨fun w hI => hI.pick (is := [2]) (by decide) rfl, ?_⟩
          refine AnyJ.one (fuel := 1) 5 (by kernel_rfl) ?_
          refine StepJ.op (listed' := #[true, true, true, true, true, true, false]) rfl rfl rfl ?_
          refine OpJ.alloc rfl rfl rfl zero_89 fun bd hbd => ?_
          refine ⟨fun w hI => hI.pick (is := [3]) (by decide) rfl, ?_⟩
          refine AnyJ.one (fuel := 0) 6 (by kernel_rfl) ?_
          refine StepJ.op (listed' := #[true, true, true, true, true, true, true]) rfl rfl rfl ?_
          refine OpJ.storeW (i := 0) rfl rfl rfl rfl sz_89 rfl rfl rfl ?_
          refine ⟨fun w hI => hI.pick (is := [3]) (by decide) rfl, ?_⟩
          refine AnyJ.done (by kernel_rfl) ?_
          exact ExJ.meetP ⟨p20, c20, bd, res, rfl, rfl⟩ ⟨rfl, rfl, rfl, rfl, trivial⟩ fun w hI => hI.pick (is := [0, 1, 4, 5, 2]) (by decide) rfl
        · refine StepJ.op (listed' := #[true, true, true, true, false, true, false]) rfl rfl rfl ?_
          refine OpJ.alloc rfl rfl rfl zero_89 fun bd hbd => ?_
          refine ⟨fun w hI => hI.pick (is := [2]) (by decide) rfl, ?_⟩
          refine AnyJ.one (fuel := 1) 4 (by kernel_rfl) ?_
          refine StepJ.op (listed' := #[true, true, true, true, true, true, false]) rfl rfl rfl ?_
          refine OpJ.call (newBuilder_spec pre p17 c17 h hw (by omega)) has_37 rfl rfl rfl rfl rfl [5] [0, 1, 2, 3, 4] (by decide) rfl rfl (fun _ _ => trivial) ?_
          rintro _ _ ⟨p20, c20, rfl, rfl⟩
          refine ⟨fun w hI => hI.pick (is := [3]) (by decide) rfl, ?_⟩
          refine AnyJ.one (fuel := 0) 6 (by kernel_rfl) ?_
          refine StepJ.op (listed' := #[true, true, true, true, true, true, true]) rfl rfl rfl ?_
          refine OpJ.storeW (i := 1) rfl rfl rfl rfl sz_89 rfl rfl rfl ?_
          refine ⟨fun w hI => hI.pick (is := [3]) (by decide) rfl, ?_⟩
          refine AnyJ.done (by kernel_rfl) ?_
          exact ExJ.meetP ⟨p20, c20, bd, res, rfl, rfl⟩ ⟨rfl, rfl, rfl, rfl, trivial⟩ fun w hI => hI.pick (is := [1, 0, 4, 5, 2]) (by decide) rfl
      · refine StepJ.op (listed' := #[true, true, true, false, false, true, false]) rfl rfl rfl ?_
        refine OpJ.alloc rfl rfl rfl zero_89 fun bd hbd => ?_
        refine ⟨fun w hI => hI.pick (is := [2]) (by decide) rfl, ?_⟩
        refine AnyJ.one (fuel := 2) 3 (by kernel_rfl) ?_
        refine StepJ.op (listed' := #[true, true, true, true, false, true, false]) rfl rfl rfl ?_
        refine OpJ.call (headerOf_spec h) has_38 rfl rfl rfl rfl rfl [] [0, 1, 2, 3, 4, 5] (by decide) rfl rfl (fun _ _ => trivial) ?_
        rintro _ _ ⟨rfl, rfl⟩
        refine ⟨fun w hI => hI.pick (is := [2]) (by decide) rfl, ?_⟩
        refine AnyJ.one (fuel := 1) 4 (by kernel_rfl) ?_
        refine StepJ.op (listed' := #[true, true, true, true, true, true, false]) rfl rfl rfl ?_
        refine OpJ.call (newBuilder_spec pre p17 c17 h hw (by omega)) has_37 rfl rfl rfl rfl rfl [5] [0, 1, 2, 3, 4] (by decide) rfl rfl (fun _ _ => trivial) ?_
        rintro _ _ ⟨p20, c20, rfl, rfl⟩
        refine ⟨fun w hI => hI.pick (is := [3]) (by decide) rfl, ?_⟩
        refine AnyJ.one (fuel := 0) 6 (by kernel_rfl) ?_
        refine StepJ.op (listed' := #[true, true, true, true, true, true, true]) rfl rfl rfl ?_
        refine OpJ.storeW (i := 1) rfl rfl rfl rfl sz_89 rfl rfl rfl ?_
        refine ⟨fun w hI => hI.pick (is := [3]) (by decide) rfl, ?_⟩
        refine AnyJ.done (by kernel_rfl) ?_
        exact ExJ.meetP ⟨p20, c20, bd, res, rfl, rfl⟩ ⟨rfl, rfl, rfl, rfl, trivial⟩ fun w hI => hI.pick (is := [1, 0, 4, 5, 2]) (by decide) rfl
    · refine StepJ.op (listed' := #[true, false, true, false, false, true, false]) rfl rfl rfl ?_
      refine OpJ.alloc rfl rfl rfl zero_89 fun bd hbd => ?_
      refine ⟨fun w hI => hI.pick (is := [2]) (by decide) rfl, ?_⟩
      refine AnyJ.one (fuel := 3) 1 (by kernel_rfl) ?_
      refine StepJ.op (listed' := #[true, true, true, false, false, true, false]) rfl rfl rfl ?_
      refine OpJ.appendO (i := 5) (news := pre) elt_29 rfl rfl rfl rfl rfl rfl (fun w hI => Bytes.src (hbuf.keep hI.keep (by simp [fp])) Tryd.underlying29) (by simp; omega) fun p17 c17 => ?_
      refine ⟨fun w hI => hI.pick (is := [2]) (by decide) rfl, ?_⟩
      refine AnyJ.one (fuel := 2) 3 (by kernel_rfl) ?_
      refine StepJ.op (listed' := #[true, true, true, true, false, true, false]) rfl rfl rfl ?_
      refine OpJ.call (headerOf_spec h) has_38 rfl rfl rfl rfl rfl [] [0, 1, 2, 3, 4, 5] (by decide) rfl rfl (fun _ _ => trivial) ?_
      rintro _ _ ⟨rfl, rfl⟩
      refine ⟨fun w hI => hI.pick (is := [2]) (by decide) rfl, ?_⟩
      refine AnyJ.one (fuel := 1) 4 (by kernel_rfl) ?_
      refine StepJ.op (listed' := #[true, true, true, true, true, true, false]) rfl rfl rfl ?_
      refine OpJ.call (newBuilder_spec pre p17 c17 h hw (by omega)) has_37 rfl rfl rfl rfl rfl [5] [0, 1, 2, 3, 4] (by decide) rfl rfl (fun _ _ => trivial) ?_
      rintro _ _ ⟨p20, c20, rfl, rfl⟩
      refine ⟨fun w hI => hI.pick (is := [3]) (by decide) rfl, ?_⟩
      refine AnyJ.one (fuel := 0) 6 (by kernel_rfl) ?_
      refine StepJ.op (listed' := #[true, true, true, true, true, true, true]) rfl rfl rfl ?_
      refine OpJ.storeW (i := 1) rfl rfl rfl rfl sz_89 rfl rfl rfl ?_
      refine ⟨fun w hI => hI.pick (is := [3]) (by decide) rfl, ?_⟩
      refine AnyJ.done (by kernel_rfl) ?_
      exact ExJ.meetP ⟨p20, c20, bd, res, rfl, rfl⟩ ⟨rfl, rfl, rfl, rfl, trivial⟩ fun w hI => hI.pick (is := [1, 0, 4, 5, 2]) (by decide) rfl
  · rintro _ _ ⟨p0, c0, bb, rb, rfl, rfl⟩
    refine CodeJ.seq ?_
    refine CodeJ.region ?_
    refine OpsJ.yld rfl rfl rfl (Yld.build places_37 zero_37 rfl rfl rfl) ?_
    refine OpsJ.op rfl ?_
    refine OpJ.alloc rfl rfl rfl zero_37 fun out hout => ?_
    refine OpsJ.op rfl ?_
    refine OpJ.storeW (i := 0) rfl rfl rfl rfl sz_37 rfl rfl rfl ?_
    refine OpsJ.nil ?_
    refine ExJ.thenN ?_
    refine CodeJ.seq ?_
    refine CodeJ.seq ?_
    refine CodeJ.region ?_
    refine OpsJ.yld rfl rfl rfl (Yld.move rfl rfl) ?_
    refine OpsJ.yld rfl rfl rfl (Yld.lenSlice rfl rfl rfl Tryd.underlying50 rfl) ?_
    refine OpsJ.yld rfl rfl rfl (Yld.move rfl rfl) ?_
    refine OpsJ.nil ?_
    refine ExJ.thenN ?_
    refine CodeJ.block ?_
    refine CodeJ.loopP (fun L H m => ∃ (k : Nat) (on : Bool) (b : Bd) (fs : List Nat) (p : Option Addr) (c : Nat) (r : Option Nat) (pf : Option Addr) (cf ob : Nat), k ≤ ss.length ∧ r.isSome = on ∧ RunOk A (ss.drop k) on b ∧ runF A ss false (newB pre h) = ((runF A (ss.drop k) on b).1, fs ++ (runF A (ss.drop k) on b).2) ∧ fs.length = k ∧
    L = [(3, .func (.func f) #[] #[]), (8, .pointer (some ⟨rb, 0, none⟩)), (9, .pointer (some ⟨bb, 0, none⟩)), (10, .pointer (some ⟨ob, 0, none⟩)), (22, .slice ps ss.length cs), (23, .int .i64 ss.length), (24, .int .i64 k)] ∧
    H = [.blk ob #[.slice pf fs.length cf, .slice none 0 0, .int .i64 0] 37, ownI 3 (.slice pf fs.length cf) fs] ++ bdR b bb p c r ++ [.blk rb #[.slice none 0 0, .slice none 0 0, .int .i64 0] 37] ∧ m = ss.length - k) ⟨0, false, newB pre h, [], p0, c0, none, none, 0, out, Nat.zero_le _, rfl, hok, rfl, rfl, rfl, rfl, rfl⟩ ⟨rfl, rfl, rfl, rfl, rfl, rfl, rfl, trivial⟩ (fun w hI => hI.pick (is := [0, 4, 1, 2, 3, 5]) (by decide) rfl) ?_
    rintro _ _ _ ⟨k, on, b, fs, p, c, r, pf, cf, ob, hk, hon, hro, hrf, hfs, rfl, rfl, rfl⟩
    refine CodeJ.seq ?_
    refine CodeJ.region ?_
    refine OpsJ.yld rfl rfl rfl (Yld.intBin rfl rfl rfl rfl) ?_
    refine OpsJ.nil ?_
    refine ExJ.thenN ?_
    refine CodeJ.seq ?_
    refine CodeJ.condP rfl (fun c25 => ?_) (fun c25 => ?_)
    · have hk' : k < ss.length := by omega
      obtain ⟨s, hs⟩ : ∃ s, ss[k]? = some s := ⟨ss[k], List.getElem?_eq_getElem hk'⟩
      have hdr : ss.drop k = s :: ss.drop (k + 1) := by
        rw [List.drop_eq_getElem_cons hk']
        congr 1
        exact (List.getElem?_eq_some_iff.1 hs).2
      rw [hdr] at hro hrf
      obtain ⟨hso, hro'⟩ := hro
      obtain ⟨sb_, so, sc, hse, hcell⟩ := Row.at hrow (fun x hx => by obtain ⟨y, _, rfl⟩ := List.mem_map.1 hx; rfl) (by simp) hk'
      injection hse with hse1 hse2 hse3
      subst hse1
      have hcs := hcell s.cells (by simp [hs])
      have hrs := hrec s (List.mem_of_getElem? hs)
      refine CodeJ.skip ?_
      refine ExJ.thenN ?_
      refine CodeJ.seq ?_
      refine CodeJ.block ?_
      refine CodeJ.seq ?_
      refine CodeJ.region ?_
      refine OpsJ.yld rfl rfl rfl (Yld.indexAddr rfl Tryd.underlying50 sz_49 rfl rfl hk') ?_
      refine OpsJ.yld rfl rfl rfl (Yld.loadN (vs := s.cells) rfl Tryd.underlying49 rfl sz_49 rfl (fun w hI => hI.old hcs (by simp [fp]))) ?_
      refine OpsJ.op rfl ?_
      refine OpJ.alloc rfl rfl rfl zero_49 fun sb hsb => ?_
      refine OpsJ.op rfl ?_
      refine OpJ.storeW (i := 0) rfl rfl rfl rfl sz_49 rfl (StepD.one hrs) rfl ?_
      refine OpsJ.nil ?_
      refine ExJ.thenN ?_
      refine CodeJ.seq ?_
      refine CodeJ.region ?_
      refine OpsJ.yld rfl rfl rfl (Yld.assign rfl rfl) ?_
      refine OpsJ.nil ?_
      refine ExJ.thenN ?_
      refine CodeJ.cutP (fun L H => ∃ (on' : Bool) (b' : Bd) (ft : Nat) (p' : Option Addr) (c' : Nat) (r' : Option Nat), stepF A s on b = (on', b', ft) ∧ r'.isSome = on' ∧
      L = [(3, .func (.func f) #[] #[]), (8, .pointer (some ⟨rb, 0, none⟩)), (9, .pointer (some ⟨bb, 0, none⟩)), (10, .pointer (some ⟨ob, 0, none⟩)), (13, .int .i64 ft), (22, .slice (some ⟨sb_, so, none⟩) ss.length cs), (23, .int .i64 ss.length), (24, .int .i64 k)] ∧
      H = [.blk ob #[.slice pf fs.length cf, .slice none 0 0, .int .i64 0] 37, ownI 3 (.slice pf fs.length cf) fs] ++ bdR b' bb p' c' r' ++ [.blk rb #[.slice none 0 0, .slice none 0 0, .int .i64 0] 37]) ?_ ?_
      · refine CodeJ.seq ?_
        refine CodeJ.region ?_
        refine OpsJ.yld rfl rfl rfl (Yld.fieldAddr fa_49_0 rfl rfl) ?_
        refine OpsJ.yld rfl rfl rfl (Yld.load1 rfl Tryd.underlying3 rfl rfl (fun w hI => Inv.cell1 hI (i := 0) rfl rfl)) ?_
        refine OpsJ.nil ?_
        refine ExJ.thenN ?_
        refine CodeJ.block ?_
        refine CodeJ.seq ?_
        refine CodeJ.region ?_
        refine OpsJ.yld rfl rfl rfl (Yld.intBin rfl rfl rfl rfl) ?_
        refine OpsJ.yld rfl rfl rfl (Yld.assign rfl rfl) ?_
        refine OpsJ.nil ?_
        refine ExJ.thenN ?_
        refine CodeJ.cond rfl (fun c30 => ?_) (fun c30 => ?_)
        · have hact : s.act = 1 := by
            have : (s.act : Int) = 1 := by simpa using c30
            omega
          refine CodeJ.region ?_
          refine OpsJ.op rfl ?_
          refine OpJ.call (enable_spec b bb p c r) has_39 rfl rfl rfl rfl rfl [3, 4, 5] [0, 1, 2, 6] (by decide) rfl rfl (fun _ _ => trivial) ?_
          rintro _ _ ⟨k32, rfl⟩
          refine OpsJ.nil ?_
          refine ExJ.blockN ?_
          exact ExJ.meetP ⟨true, { b with m := [] }, 0, p, c, some k32, by simp [stepF, hact], rfl, rfl, rfl⟩ ⟨rfl, rfl, rfl, rfl, rfl, rfl, rfl, rfl, trivial⟩ fun w hI => hI.pick (is := [4, 5, 0, 1, 2, 6]) (by decide) rfl
        · have ha1 : ¬ s.act = 1 := fun h => by simp [h] at c30
          refine CodeJ.seq ?_
          refine CodeJ.region ?_
          refine OpsJ.yld rfl rfl rfl (Yld.intBin rfl rfl rfl rfl) ?_
          refine OpsJ.yld rfl rfl rfl (Yld.assign rfl rfl) ?_
          refine OpsJ.nil ?_
          refine ExJ.thenN ?_
          refine CodeJ.cond rfl (fun c33 => ?_) (fun c33 => ?_)
          · have hact : s.act = 2 := by
              have : (s.act : Int) = 2 := by simpa using c33
              omega
            refine CodeJ.region ?_
            refine OpsJ.op rfl ?_
            refine OpJ.call (startQuestions_spec b bb p c r hso.bd.sec (by have := hso.sec (by omega) (by omega); omega)) has_41 rfl rfl rfl rfl rfl [3, 4, 5] [0, 1, 2, 6] (by decide) rfl rfl (fun _ _ => trivial) ?_
            rintro _ _ ⟨rfl, rfl⟩
            refine OpsJ.op rfl ?_
            refine OpJ.call (faultOf_spec G .nilIface 0 (.inl ⟨rfl, rfl⟩)) has_40 rfl rfl rfl rfl rfl [] [0, 1, 2, 3, 4, 5, 6] (by decide) rfl rfl (fun w hI => hge.call hI (is := []) rfl) ?_
            rintro _ _ ⟨rfl, rfl⟩
            refine OpsJ.yld rfl rfl rfl (Yld.assign rfl rfl) ?_
            refine OpsJ.nil ?_
            refine ExJ.blockN ?_
            exact ExJ.meetP ⟨on, { b with sec := 2 }, 0, p, c, r, by simp [stepF, hact], hon, rfl, rfl⟩ ⟨rfl, rfl, rfl, rfl, rfl, rfl, rfl, rfl, trivial⟩ fun w hI => hI.pick (is := [4, 5, 0, 1, 2, 6]) (by decide) rfl
          · have ha2 : ¬ s.act = 2 := fun h => by simp [h] at c33
            refine CodeJ.seq ?_
            refine CodeJ.region ?_
            refine OpsJ.yld rfl rfl rfl (Yld.intBin rfl rfl rfl rfl) ?_
            refine OpsJ.yld rfl rfl rfl (Yld.assign rfl rfl) ?_
            refine OpsJ.nil ?_
            refine ExJ.thenN ?_
            refine CodeJ.cond rfl (fun c37 => ?_) (fun c37 => ?_)
            · have hact : s.act = 3 := by
                have : (s.act : Int) = 3 := by simpa using c37
                omega
              refine CodeJ.region ?_
              refine OpsJ.op rfl ?_
              refine OpJ.call (startAnswers_spec b bb p c r hso.bd.sec (by have := hso.sec (by omega) (by omega); omega)) has_42 rfl rfl rfl rfl rfl [3, 4, 5] [0, 1, 2, 6] (by decide) rfl rfl (fun _ _ => trivial) ?_
              rintro _ _ ⟨rfl, rfl⟩
              refine OpsJ.op rfl ?_
              refine OpJ.call (faultOf_spec G .nilIface 0 (.inl ⟨rfl, rfl⟩)) has_40 rfl rfl rfl rfl rfl [] [0, 1, 2, 3, 4, 5, 6] (by decide) rfl rfl (fun w hI => hge.call hI (is := []) rfl) ?_
              rintro _ _ ⟨rfl, rfl⟩
              refine OpsJ.yld rfl rfl rfl (Yld.assign rfl rfl) ?_
              refine OpsJ.nil ?_
              refine ExJ.blockN ?_
              exact ExJ.meetP ⟨on, { b with sec := 3 }, 0, p, c, r, by simp [stepF, hact], hon, rfl, rfl⟩ ⟨rfl, rfl, rfl, rfl, rfl, rfl, rfl, rfl, trivial⟩ fun w hI => hI.pick (is := [4, 5, 0, 1, 2, 6]) (by decide) rfl
            · have ha3 : ¬ s.act = 3 := fun h => by simp [h] at c37
              refine CodeJ.seq ?_
              refine CodeJ.region ?_
              refine OpsJ.yld rfl rfl rfl (Yld.intBin rfl rfl rfl rfl) ?_
              refine OpsJ.yld rfl rfl rfl (Yld.assign rfl rfl) ?_
              refine OpsJ.nil ?_
              refine ExJ.thenN ?_
              refine CodeJ.cond rfl (fun c41 => ?_) (fun c41 => ?_)
              · have hact : s.act = 4 := by
                  have : (s.act : Int) = 4 := by simpa using c41
                  omega
                refine CodeJ.region ?_
                refine OpsJ.op rfl ?_
                refine OpJ.call (startAuthorities_spec b bb p c r hso.bd.sec (by have := hso.sec (by omega) (by omega); omega)) has_43 rfl rfl rfl rfl rfl [3, 4, 5] [0, 1, 2, 6] (by decide) rfl rfl (fun _ _ => trivial) ?_
                rintro _ _ ⟨rfl, rfl⟩
                refine OpsJ.op rfl ?_
                refine OpJ.call (faultOf_spec G .nilIface 0 (.inl ⟨rfl, rfl⟩)) has_40 rfl rfl rfl rfl rfl [] [0, 1, 2, 3, 4, 5, 6] (by decide) rfl rfl (fun w hI => hge.call hI (is := []) rfl) ?_
                rintro _ _ ⟨rfl, rfl⟩
                refine OpsJ.yld rfl rfl rfl (Yld.assign rfl rfl) ?_
                refine OpsJ.nil ?_
                refine ExJ.blockN ?_
                exact ExJ.meetP ⟨on, { b with sec := 4 }, 0, p, c, r, by simp [stepF, hact], hon, rfl, rfl⟩ ⟨rfl, rfl, rfl, rfl, rfl, rfl, rfl, rfl, trivial⟩ fun w hI => hI.pick (is := [4, 5, 0, 1, 2, 6]) (by decide) rfl
              · have ha4 : ¬ s.act = 4 := fun h => by simp [h] at c41
                refine CodeJ.seq ?_
                refine CodeJ.region ?_
                refine OpsJ.yld rfl rfl rfl (Yld.intBin rfl rfl rfl rfl) ?_
                refine OpsJ.yld rfl rfl rfl (Yld.assign rfl rfl) ?_
                refine OpsJ.nil ?_
                refine ExJ.thenN ?_
                refine CodeJ.cond rfl (fun c45 => ?_) (fun c45 => ?_)
                · have hact : s.act = 5 := by
                    have : (s.act : Int) = 5 := by simpa using c45
                    omega
                  refine CodeJ.region ?_
                  refine OpsJ.op rfl ?_
                  refine OpJ.call (startAdditionals_spec b bb p c r hso.bd.sec (by have := hso.sec (by omega) (by omega); omega)) has_44 rfl rfl rfl rfl rfl [3, 4, 5] [0, 1, 2, 6] (by decide) rfl rfl (fun _ _ => trivial) ?_
                  rintro _ _ ⟨rfl, rfl⟩
                  refine OpsJ.op rfl ?_
                  refine OpJ.call (faultOf_spec G .nilIface 0 (.inl ⟨rfl, rfl⟩)) has_40 rfl rfl rfl rfl rfl [] [0, 1, 2, 3, 4, 5, 6] (by decide) rfl rfl (fun w hI => hge.call hI (is := []) rfl) ?_
                  rintro _ _ ⟨rfl, rfl⟩
                  refine OpsJ.yld rfl rfl rfl (Yld.assign rfl rfl) ?_
                  refine OpsJ.nil ?_
                  refine ExJ.blockN ?_
                  exact ExJ.meetP ⟨on, { b with sec := 5 }, 0, p, c, r, by simp [stepF, hact], hon, rfl, rfl⟩ ⟨rfl, rfl, rfl, rfl, rfl, rfl, rfl, rfl, trivial⟩ fun w hI => hI.pick (is := [4, 5, 0, 1, 2, 6]) (by decide) rfl
                · have ha5 : ¬ s.act = 5 := fun h => by simp [h] at c45
                  refine CodeJ.seq ?_
                  refine CodeJ.region ?_
                  refine OpsJ.yld rfl rfl rfl (Yld.intBin rfl rfl rfl rfl) ?_
                  refine OpsJ.yld rfl rfl rfl (Yld.assign rfl rfl) ?_
                  refine OpsJ.nil ?_
                  refine ExJ.thenN ?_
                  refine CodeJ.cond rfl (fun c49 => ?_) (fun c49 => ?_)
                  · have hact : s.act = 6 := by
                      have : (s.act : Int) = 6 := by simpa using c49
                      omega
                    refine CodeJ.region ?_
                    refine OpsJ.yld rfl rfl rfl (Yld.fieldAddr fa_49_1 rfl rfl) ?_
                    refine OpsJ.yld rfl rfl rfl (Yld.loadN (vs := s.ask.cells) rfl Tryd.underlying41 rfl sz_41 rfl (fun w hI => Inv.cells hI (i := 0) rfl rfl (Nat.le_of_ble_eq_true rfl))) ?_
                    refine OpsJ.op rfl ?_
                    refine OpJ.call (questionOf_spec s.ask.name s.ask.typ s.ask.cls) has_46 rfl rfl rfl rfl rfl [] [0, 1, 2, 3, 4, 5, 6] (by decide) rfl rfl (fun _ _ => trivial) ?_
                    rintro _ _ ⟨rfl, rfl⟩
                    refine OpsJ.op rfl ?_
                    refine OpJ.call (question_spec G s.ask on b hso.bd (hso.ask hact) bb p c r hon) has_45 rfl rfl rfl rfl rfl [3, 4, 5] [0, 1, 2, 6] (by decide) rfl rfl (fun w hI => hge.call hI (is := [3, 4, 5]) rfl) ?_
                    rintro _ _ ⟨he54, p54, c54, rfl⟩
                    refine OpsJ.op rfl ?_
                    refine OpJ.call (faultOf_spec G _ _ he54) has_40 rfl rfl rfl rfl rfl [] [0, 1, 2, 3, 4, 5, 6] (by decide) rfl rfl (fun w hI => hge.call hI (is := []) rfl) ?_
                    rintro _ _ ⟨rfl, rfl⟩
                    refine OpsJ.yld rfl rfl rfl (Yld.assign rfl rfl) ?_
                    refine OpsJ.nil ?_
                    refine ExJ.blockN ?_
                    exact ExJ.meetP ⟨on, (askF s.ask on b).1, (askF s.ask on b).2, p54, c54, r, by simp [stepF, hact], hon, rfl, rfl⟩ ⟨rfl, rfl, rfl, rfl, rfl, rfl, rfl, rfl, trivial⟩ fun w hI => hI.pick (is := [4, 5, 0, 1, 2, 6]) (by decide) rfl
                  · have ha6 : ¬ s.act = 6 := fun h => by simp [h] at c49
                    refine CodeJ.seq ?_
                    refine CodeJ.region ?_
                    refine OpsJ.yld rfl rfl rfl (Yld.intBin rfl rfl rfl rfl) ?_
                    refine OpsJ.yld rfl rfl rfl (Yld.assign rfl rfl) ?_
                    refine OpsJ.nil ?_
                    refine ExJ.thenN ?_
                    refine CodeJ.cond rfl (fun c56 => ?_) (fun c56 => ?_)
                    · have hact : s.act = 7 := by
                        have : (s.act : Int) = 7 := by simpa using c56
                        omega
                      refine CodeJ.any (fuel := 9) (listed := #[false, false, false, false, false, false, false, false, false]) [0] rfl follows_mixed rfl rfl ?_
                      refine AnyJ.take (fuel := 8) (listed' := #[true, false, false, false, false, false, false, false, false]) 0 rfl (by kernel_rfl) (by kernel_rfl) (by kernel_rfl) rfl rfl rfl rfl (Yld.move rfl rfl) (fun w hI => hI.pick (is := [0]) (by decide) rfl) ?_
                      refine AnyJ.take (fuel := 7) (listed' := #[true, true, false, false, false, false, false, false, false]) 1 rfl (by kernel_rfl) (by kernel_rfl) (by kernel_rfl) rfl rfl rfl rfl (Yld.fieldAddr fa_49_2 rfl rfl) (fun w hI => hI.pick (is := [0]) (by decide) rfl) ?_
                      refine AnyJ.take (fuel := 6) (listed' := #[true, true, true, false, false, false, false, false, false]) 2 rfl (by kernel_rfl) (by kernel_rfl) (by kernel_rfl) rfl rfl rfl rfl (Yld.loadN (vs := s.rec_.cells) rfl Tryd.underlying47 rfl sz_47 rfl (fun w hI => Inv.cells hI (i := 0) rfl rfl (Nat.le_of_ble_eq_true rfl))) (fun w hI => hI.pick (is := [0]) (by decide) rfl) ?_
                      refine AnyJ.take (fuel := 5) (listed' := #[true, true, true, false, true, false, false, false, false]) 4 rfl (by kernel_rfl) (by kernel_rfl) (by kernel_rfl) rfl rfl rfl rfl (Yld.fieldAddr fa_49_2 rfl rfl) (fun w hI => hI.pick (is := [0]) (by decide) rfl) ?_
                      refine AnyJ.take (fuel := 4) (listed' := #[true, true, true, false, true, true, false, false, false]) 5 rfl (by kernel_rfl) (by kernel_rfl) (by kernel_rfl) rfl rfl rfl rfl (Yld.loadN (vs := s.rec_.cells) rfl Tryd.underlying47 rfl sz_47 rfl (fun w hI => Inv.cells hI (i := 0) rfl rfl (Nat.le_of_ble_eq_true rfl))) (fun w hI => hI.pick (is := [0]) (by decide) rfl) ?_
                      refine AnyJ.one (fuel := 3) 3 (by kernel_rfl) ?_
                      refine StepJ.op (listed' := #[true, true, true, true, true, true, false, false, false]) rfl rfl rfl ?_
                      refine OpJ.call (resourceHeaderOf_spec s.rec_) has_47 rfl rfl rfl rfl rfl [] [0, 1, 2, 3, 4, 5, 6] (by decide) rfl rfl (fun _ _ => trivial) ?_
                      rintro _ _ ⟨rfl, rfl⟩
                      refine ⟨fun w hI => hI.pick (is := [0]) (by decide) rfl, ?_⟩
                      refine AnyJ.one (fuel := 2) 6 (by kernel_rfl) ?_
                      refine StepJ.op (listed' := #[true, true, true, true, true, true, true, false, false]) rfl rfl rfl ?_
                      refine OpJ.call (hA G s.rec_ on b bb p c r (hso.rec_ hact) hso.bd hon) hf rfl rfl rfl rfl rfl [3, 4, 5] [0, 1, 2, 6] (by decide) rfl rfl (fun w hI => ⟨hge.call hI (is := [3, 4, 5]) rfl, w0, hrs, hI.keep, hI.fresh (is := [3, 4, 5]) rfl⟩) ?_
                      rintro _ _ ⟨he64, p64, c64, rfl⟩
                      refine ⟨fun w hI => hI.pick (is := [3]) (by decide) rfl, ?_⟩
                      refine AnyJ.one (fuel := 1) 7 (by kernel_rfl) ?_
                      refine StepJ.op (listed' := #[true, true, true, true, true, true, true, true, false]) rfl rfl rfl ?_
                      refine OpJ.call (faultOf_spec G _ _ he64) has_40 rfl rfl rfl rfl rfl [] [0, 1, 2, 3, 4, 5, 6] (by decide) rfl rfl (fun w hI => hge.call hI (is := []) rfl) ?_
                      rintro _ _ ⟨rfl, rfl⟩
                      refine ⟨fun w hI => hI.pick (is := [3]) (by decide) rfl, ?_⟩
                      refine AnyJ.take (fuel := 0) (listed' := #[true, true, true, true, true, true, true, true, true]) 8 rfl (by kernel_rfl) (by kernel_rfl) (by kernel_rfl) rfl rfl rfl rfl (Yld.assign rfl rfl) (fun w hI => hI.pick (is := [3]) (by decide) rfl) ?_
                      refine AnyJ.done (by kernel_rfl) ?_
                      refine ExJ.blockN ?_
                      exact ExJ.meetP ⟨on, (A.eff s.rec_ on b).1, (A.eff s.rec_ on b).2, p64, c64, r, by simp [stepF, hact], hon, rfl, rfl⟩ ⟨rfl, rfl, rfl, rfl, rfl, rfl, rfl, rfl, trivial⟩ fun w hI => hI.pick (is := [4, 5, 0, 1, 2, 6]) (by decide) rfl
                    · have ha7 : ¬ s.act = 7 := fun h => by simp [h] at c56
                      refine CodeJ.skip ?_
                      refine ExJ.blockN ?_
                      exact ExJ.meetP ⟨on, b, 0, p, c, r, by simp [stepF, ha1, ha2, ha3, ha4, ha5, ha6, ha7], hon, rfl, rfl⟩ ⟨rfl, rfl, rfl, rfl, rfl, rfl, rfl, rfl, trivial⟩ fun w hI => hI.pick (is := [1, 2, 3, 4, 5, 6]) (by decide) rfl
      · rintro _ _ ⟨on', b', ft, p', c', r', hst, hon', rfl, rfl⟩
        refine CodeJ.region ?_
        refine OpsJ.yld rfl rfl rfl (Yld.fieldAddr fa_37_0 rfl rfl) ?_
        refine OpsJ.yld rfl rfl rfl (Yld.load1 rfl Tryd.underlying35 rfl rfl (fun w hI => Inv.cell1 hI (i := 0) rfl rfl)) ?_
        refine OpsJ.yld rfl rfl rfl (Yld.move rfl rfl) ?_
        refine OpsJ.op rfl ?_
        refine OpJ.buildSlice (xs := [.tmp 68]) elt_35 rfl rfl rfl rfl rfl rfl (by rfl) (by decide) fun one hone => ?_
        refine OpsJ.op rfl ?_
        refine OpJ.appendOwn (i := 2) (k := fs.length) (m := 1) (news := [.int .i64 ft]) elt_35 rfl rfl rfl rfl rfl rfl (fun w hI => Own.src (hI.hs _ (List.mem_of_getElem? (i := 0) rfl)).1 Tryd.underlying35 (fun u hu => by simp at hu; subst hu; rfl)) (by omega) (by omega) fun p70 c70 => ?_
        refine OpsJ.yld rfl rfl rfl (Yld.fieldAddr fa_37_0 rfl rfl) ?_
        refine OpsJ.op rfl ?_
        refine OpJ.store1 (i := 1) rfl rfl rfl rfl rfl sz_35 rfl rfl ?_
        refine OpsJ.nil ?_
        refine ExJ.blockN ?_
        refine ExJ.thenN ?_
        refine CodeJ.region ?_
        refine OpsJ.yld rfl rfl rfl (Yld.intBin rfl rfl rfl rfl) ?_
        rw [i64_succ k (by omega)]
        refine OpsJ.yld rfl rfl rfl (Yld.move rfl rfl) ?_
        refine OpsJ.nil ?_
        exact ExJ.againP ⟨k + 1, on', b', fs ++ [ft], p', c', r', p70, c70, ob, by omega, hon', by have := hro'; rw [hst] at this; exact this, by rw [hrf, runF, hst]; simp, by simp [hfs], rfl, rfl, rfl⟩ (by omega) ⟨rfl, rfl, rfl, rfl, rfl, rfl, rfl, trivial⟩ fun w hI => by simp only [ownI, List.length_append, List.length_singleton, List.map_append, List.map_cons, List.map_nil]; exact hI.pick (is := [1, 2, 3, 4, 5, 6]) (H' := [.blk ob #[.slice p70 (fs.length + 1) c70, .slice none 0 0, .int .i64 0] 37, own 3 1 (.slice p70 (fs.length + 1) c70) (fs.length + 1) ((fs.map fun k => Value.int .i64 (k : Nat)) ++ [.int .i64 ft])] ++ bdR b' bb p' c' r' ++ [.blk rb #[.slice none 0 0, .slice none 0 0, .int .i64 0] 37]) (by decide) rfl
    · obtain rfl : k = ss.length := by omega
      rw [List.drop_length] at hro hrf
      have hbd : BdOk b := hro
      have hrf' : runF A ss false (newB pre h) = (b, fs) := by rw [hrf]; simp [runF]
      rw [hrf']
      refine CodeJ.exit ?_
      refine ExJ.thenX ?_
      refine ExJ.thenX ?_
      refine ExJ.blockHit ?_
      refine ExJ.thenN ?_
      refine CodeJ.seq ?_
      refine CodeJ.region ?_
      refine OpsJ.op rfl ?_
      refine OpJ.call (finish_spec b bb p c r hbd.sec hbd.start) has_48 rfl rfl rfl rfl rfl [2, 3, 4] [0, 1, 5] (by decide) rfl rfl (fun _ _ => trivial) ?_
      rintro _ _ ⟨p74, c74, rfl, rfl⟩
      refine OpsJ.yld rfl rfl rfl (Yld.move rfl rfl) ?_
      refine OpsJ.yld rfl rfl rfl (Yld.extract rfl rfl rfl) ?_
      refine OpsJ.yld rfl rfl rfl (Yld.extract rfl rfl rfl) ?_
      refine OpsJ.yld rfl rfl rfl (Yld.assign rfl rfl) ?_
      refine OpsJ.yld rfl rfl rfl (Yld.assign rfl rfl) ?_
      refine OpsJ.nil ?_
      refine ExJ.thenN ?_
      refine CodeJ.seq ?_
      refine CodeJ.region ?_
      refine OpsJ.yld rfl rfl rfl (Yld.move rfl rfl) ?_
      refine OpsJ.yld rfl rfl rfl (Yld.move rfl rfl) ?_
      refine OpsJ.op rfl ?_
      refine OpJ.call (faultOf_spec G .nilIface 0 (.inl ⟨rfl, rfl⟩)) has_40 rfl rfl rfl rfl rfl [] [0, 1, 2, 3] (by decide) rfl rfl (fun w hI => hge.call hI (is := []) rfl) ?_
      rintro _ _ ⟨rfl, rfl⟩
      refine OpsJ.yld rfl rfl rfl (Yld.fieldAddr fa_37_1 rfl rfl) ?_
      refine OpsJ.op rfl ?_
      refine OpJ.store1 (i := 1) rfl rfl rfl rfl rfl sz_29 rfl rfl ?_
      refine OpsJ.yld rfl rfl rfl (Yld.fieldAddr fa_37_2 rfl rfl) ?_
      refine OpsJ.op rfl ?_
      refine OpJ.store1 (i := 1) rfl rfl rfl rfl rfl sz_3 rfl rfl ?_
      refine OpsJ.nil ?_
      refine ExJ.thenN ?_
      refine CodeJ.seq ?_
      refine CodeJ.region ?_
      refine OpsJ.yld rfl rfl rfl (Yld.loadN (vs := [.slice pf fs.length cf, .slice p74 b.fin.length c74, .int .i64 0]) rfl Tryd.underlying37 rfl sz_37 rfl (fun w hI => Inv.cells hI (i := 1) rfl rfl (Nat.le_of_ble_eq_true rfl))) ?_
      refine OpsJ.op rfl ?_
      refine OpJ.storeW (i := 3) rfl rfl rfl rfl sz_37 rfl rfl rfl ?_
      refine OpsJ.nil ?_
      refine ExJ.thenN ?_
      refine CodeJ.ret ?_
      exact ExJ.retC (vs := [.slice pf fs.length cf, .slice p74 b.fin.length c74, .int .i64 0]) Tryd.results26 rfl Tryd.underlying37 rfl sz_37 (fun w hI => Inv.cells hI (i := 3) rfl rfl (Nat.le_of_ble_eq_true rfl)) ⟨pf, cf, p74, c74, rfl, rfl⟩ fun w hI => hI.pick (is := [2, 0]) (by decide) rfl
end Go.Proofs.YtdiememgbnplkaaDoor
