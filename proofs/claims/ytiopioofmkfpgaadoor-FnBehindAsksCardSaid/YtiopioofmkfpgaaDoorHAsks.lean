/-
  Contracts: none, BuildAsks.
-/
import Derived.Test.YtiopioofmkfpgaaDoorBe
namespace Go.Proofs.YtiopioofmkfpgaaDoor
open Go
set_option maxRecDepth 100000

theorem none_meets : noAdder.Meets 33 := by
  intro G x on b bb p c r _ _ _
  refine Spec.of Tryd.func33 rfl Tryd.ntmps33 rfl fun w0 _ => ?_
  refine CodeJ.seq ?_
  refine CodeJ.region ?_
  refine OpsJ.op rfl ?_
  refine OpJ.box rfl rfl rfl rfl fun hb hhb => ?_
  refine OpsJ.op rfl ?_
  refine OpJ.box rfl rfl rfl rfl fun rb hrb => ?_
  refine OpsJ.yld rfl rfl rfl (Yld.assign rfl rfl) ?_
  refine OpsJ.nil ?_
  refine ExJ.thenN ?_
  refine CodeJ.seq ?_
  refine CodeJ.region ?_
  refine OpsJ.yld rfl rfl rfl (Yld.assign rfl rfl) ?_
  refine OpsJ.nil ?_
  refine ExJ.thenN ?_
  refine CodeJ.ret ?_
  exact ExJ.ret1 Tryd.results33 rfl ⟨.inl ⟨rfl, rfl⟩, p, c, rfl⟩ fun w hI => hI.pick (is := [2, 3, 4]) (by decide) rfl

theorem buildAsks_spec (G : GEnv) (h : Hd) (hw : h.wf) (pre : List UInt8) (bufV stepsV : Value) (ss : List StepD) (hn : ss.length ≤ 1099511627776) (hpre : pre.length ≤ 140737488355328) (hok : RunOk noAdder ss false (newB pre h)) :
    Spec Tryd.prog 16 [bufV, .agg (hdCs h).toArray, stepsV] [] (RunIn G bufV pre stepsV ss) (RunPost (runF noAdder ss false (newB pre h)).1.fin (runF noAdder ss false (newB pre h)).2) := by
  refine Spec.of Tryd.func16 rfl Tryd.ntmps16 rfl fun w0 hR => ?_
  obtain ⟨hge, hbuf, hrow, hrec⟩ := hR
  refine CodeJ.seq ?_
  refine CodeJ.region ?_
  refine OpsJ.op rfl ?_
  refine OpJ.box rfl rfl rfl rfl fun hd hhd => ?_
  refine OpsJ.op rfl ?_
  refine OpJ.alloc rfl rfl rfl zero_54 fun res hres => ?_
  refine OpsJ.nil ?_
  refine ExJ.thenN ?_
  refine CodeJ.seq ?_
  refine CodeJ.region ?_
  refine OpsJ.yld rfl rfl rfl (Yld.move rfl rfl) ?_
  refine OpsJ.yld rfl rfl rfl (Yld.loadN (vs := hdCs h) rfl Tryd.underlying25 rfl sz_25 rfl (fun w hI => Inv.whole hI (i := 1) rfl)) ?_
  refine OpsJ.yld rfl rfl rfl (Yld.move rfl rfl) ?_
  refine OpsJ.op rfl ?_
  refine OpJ.call (run_spec noAdder 33 has_33 none_meets G h hw pre bufV stepsV ss hn hpre hok) has_32 rfl rfl rfl rfl rfl [] [0, 1] (by decide) rfl rfl (fun w hI => ⟨hge.call hI (is := []) rfl, hbuf.keep hI.keep (by simp [fp]), hrow.keep hI.keep (by simp [fp]), fun s hs => (hrec s hs).keep0 hI.keep⟩) ?_
  rintro _ _ ⟨p1, c1, p2, c2, rfl, rfl⟩
  refine OpsJ.op rfl ?_
  refine OpJ.storeW (i := 2) rfl rfl rfl rfl sz_54 rfl rfl rfl ?_
  refine OpsJ.nil ?_
  refine ExJ.thenN ?_
  refine CodeJ.ret ?_
  exact ExJ.retC (vs := [.slice p1 _ c1, .slice p2 _ c2, .int .i64 0]) Tryd.results16 rfl Tryd.underlying54 rfl sz_54 (fun w hI => Inv.cells hI (i := 2) rfl rfl (Nat.le_of_ble_eq_true rfl)) ⟨p1, c1, p2, c2, rfl, rfl⟩ fun w hI => hI.pick (is := [0, 1]) (by decide) rfl
end Go.Proofs.YtiopioofmkfpgaaDoor
