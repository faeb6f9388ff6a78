/-
  The law FnShortUnknown: its walk.
-/
import Derived.Test.YtefncaiooanbeaaDoorBh
import Derived.Test.YtefncaiooanbeaaDoorHRUnknown
import Derived.Test.YtefncaiooanbeaaDoorHLUnknown
namespace Go.Proofs.YtefncaiooanbeaaDoor
open Go
set_option maxRecDepth 100000

theorem recShort_Unknown {x : RecD} (hwf : x.wf) (hok : unkK.recOk x = true) : RecShort unkK (rawBA unkK.body) unknownAdder x := by
  have h := okn_Unknown hok
  refine rec_short hwf h.1 rfl (by show x.data.length ≤ _; have := h.2; omega) (fun on base m zs m' hp => ?_) (raw_short fun _ _ _ => rfl)
  have hp : rawP base on x.data m = .ok zs m' := hp
  injection hp with h1 h2
  subst h1
  exact h.2
theorem reads_all_Unknown : Reads unkK 13 (rawBA unkK.body) unknownAdder 15 := ⟨by decide, stable_Unknown, has_15, build_Unknown, (rawBA_grows _), reads_Unknown⟩
theorem fnShortUnknown_spec (G : GEnv) (h : Hd) (hw : h.wf) (qs : List AskD) (av : Value) (hq : ∀ a ∈ qs, a.wf) (hn : qs.length * 24 ≤ 140737488351232) (one two three : List RecD) (v1 v2 v3 : Value) (h1 : ∀ r ∈ one, r.wf) (l1 : one.length * 168 ≤ 140737488351232) (h2 : ∀ r ∈ two, r.wf) (l2 : two.length * 168 ≤ 140737488351232) (h3 : ∀ r ∈ three, r.wf) (l3 : three.length * 168 ≤ 140737488351232) :
    Spec Tryd.prog 4 [.agg (hdCs h).toArray, av, v1, v2, v3] [] (fun w => GE G w [] ∧ Asks w av qs ∧ Recs w v1 one ∧ Recs w v2 two ∧ Recs w v3 three) (fun r H' => r = .bool true ∧ H' = []) := by
  refine Spec.of Tryd.func4 rfl Tryd.ntmps4 rfl fun w0 hR => ?_
  obtain ⟨hge, hask, hr1, hr2, hr3⟩ := hR
  have hrw : ∀ r ∈ one ++ two ++ three, r.wf := fun r hr => by
    rcases List.mem_append.1 hr with hr | hr
    · rcases List.mem_append.1 hr with hr | hr
      · exact h1 r hr
      · exact h2 r hr
    · exact h3 r hr
  refine CodeJ.seq ?_
  refine CodeJ.region ?_
  refine OpsJ.op rfl ?_
  refine OpJ.box rfl rfl rfl rfl fun hd hhd => ?_
  refine OpsJ.yld rfl rfl rfl (Yld.assign rfl rfl) ?_
  refine OpsJ.nil ?_
  refine ExJ.thenN ?_
  refine CodeJ.seq ?_
  refine CodeJ.region ?_
  refine OpsJ.yld rfl rfl rfl (Yld.loadN (vs := hdCs h) rfl Tryd.underlying24 rfl sz_24 rfl (fun w hI => Inv.whole hI (i := 0) rfl)) ?_
  refine OpsJ.yld rfl rfl rfl (Yld.move rfl rfl) ?_
  refine OpsJ.yld rfl rfl rfl (Yld.move rfl rfl) ?_
  refine OpsJ.yld rfl rfl rfl (Yld.move rfl rfl) ?_
  refine OpsJ.yld rfl rfl rfl (Yld.move rfl rfl) ?_
  refine OpsJ.op rfl ?_
  refine OpJ.call (shortened_spec unkK 13 (rawBA unkK.body) unknownAdder 15 reads_all_Unknown (fun r hr hf => one_Unknown r hr hf) G h hw qs av hq one two three v1 v2 v3 hrw ⟨hn, l1, l2, l3, fun r hr => (hrw r hr).pairs⟩ (fun r hr hok => recShort_Unknown (hrw r hr) hok) (fun r hr => ⟨(hrw r hr).typ, fun h => h rfl⟩)) has_16 rfl rfl rfl rfl rfl [] [0] (by decide) rfl rfl (fun w hI => ⟨hge.call hI (is := []) rfl, Row.keep0 hask hI.keep, hr1.keep0 hI.keep, hr2.keep0 hI.keep, hr3.keep0 hI.keep⟩) ?_
  rintro _ _ ⟨rfl, rfl⟩
  refine OpsJ.yld rfl rfl rfl (Yld.assign rfl rfl) ?_
  refine OpsJ.nil ?_
  refine ExJ.thenN ?_
  refine CodeJ.ret ?_
  exact ExJ.ret1 Tryd.results4 rfl ⟨rfl, rfl⟩ fun w hI => hI.pick (is := []) (by decide) rfl
end Go.Proofs.YtefncaiooanbeaaDoor
