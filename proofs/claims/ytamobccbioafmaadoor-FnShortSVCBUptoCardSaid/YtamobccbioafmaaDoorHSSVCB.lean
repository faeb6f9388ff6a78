/-
  The law FnShortSVCB: its walk.
-/
import Derived.Test.YtamobccbioafmaaDoorBh
import Derived.Test.YtamobccbioafmaaDoorHRSVCB
import Derived.Test.YtamobccbioafmaaDoorHLSVCB
namespace Go.Proofs.YtamobccbioafmaaDoor
open Go
set_option maxRecDepth 100000

theorem recShort_SVCB {x : RecD} (hwf : x.wf) (hok : svcbK.recOk x = true) : RecShort svcbK (rawBA svcbK.body) svcbAdder x := by
  have h := okn_SVCB hok
  have hB : ∀ base on m, svcP base on (cut255 x.host) x m = .ok (svcbK.body x) m := fun base on m => sv_ok h.2.2.1
  refine rec_short hwf h.1 rfl (sv_pok h.2.1 h.2.2.1 h.2.2.2) (fun on base m zs m' hp => ?_) (raw_short hB)
  have hp : svcP base on (cut255 x.host) x m = .ok zs m' := hp
  rw [hB] at hp
  injection hp with h1 h2
  subst h1
  exact h.2.2.2
theorem reads_all_SVCB : Reads svcbK 11 (rawBA svcbK.body) svcbAdder 21 := ⟨by decide, stable_SVCB, has_21, build_SVCB, (rawBA_grows _), reads_SVCB⟩
theorem fnShortSVCB_spec (G : GEnv) (h : Hd) (hw : h.wf) (qs : List AskD) (av : Value) (hq : ∀ a ∈ qs, a.wf) (hn : qs.length * 24 ≤ 140737488351232) (one two three : List RecD) (v1 v2 v3 : Value) (h1 : ∀ r ∈ one, r.wf) (l1 : one.length * 168 ≤ 140737488351232) (h2 : ∀ r ∈ two, r.wf) (l2 : two.length * 168 ≤ 140737488351232) (h3 : ∀ r ∈ three, r.wf) (l3 : three.length * 168 ≤ 140737488351232) (u1 : ∀ r ∈ one, r.upto 1048576) (u2 : ∀ r ∈ two, r.upto 1048576) (u3 : ∀ r ∈ three, r.upto 1048576) :
    Spec Tryd.prog 6 [.agg (hdCs h).toArray, av, v1, v2, v3] [] (fun w => GE G w [] ∧ Asks w av qs ∧ Recs w v1 one ∧ Recs w v2 two ∧ Recs w v3 three) (fun r H' => r = .bool true ∧ H' = []) := by
  refine Spec.of Tryd.func6 rfl Tryd.ntmps6 rfl fun w0 hR => ?_
  obtain ⟨hge, hask, hr1, hr2, hr3⟩ := hR
  have hrw : ∀ r ∈ one ++ two ++ three, r.wf := fun r hr => by
    rcases List.mem_append.1 hr with hr | hr
    · rcases List.mem_append.1 hr with hr | hr
      · exact h1 r hr
      · exact h2 r hr
    · exact h3 r hr
  have hru : ∀ r ∈ one ++ two ++ three, r.upto 1048576 := fun r hr => by
    rcases List.mem_append.1 hr with hr | hr
    · rcases List.mem_append.1 hr with hr | hr
      · exact u1 r hr
      · exact u2 r hr
    · exact u3 r hr
  refine CodeJ.seq ?_
  refine CodeJ.region ?_
  refine OpsJ.op rfl ?_
  refine OpJ.box rfl rfl rfl rfl fun hd hhd => ?_
  refine OpsJ.yld rfl rfl rfl (Yld.assign rfl rfl) ?_
  refine OpsJ.nil ?_
  refine ExJ.thenN ?_
  refine CodeJ.seq ?_
  refine CodeJ.region ?_
  refine OpsJ.yld rfl rfl rfl (Yld.loadN (vs := hdCs h) rfl Tryd.underlying24 rfl sz_24 rfl (fun w hI => Inv.whole hI (i := 0) rfl)) ?_
  refine OpsJ.yld rfl rfl rfl (Yld.move rfl rfl) ?_
  refine OpsJ.yld rfl rfl rfl (Yld.move rfl rfl) ?_
  refine OpsJ.yld rfl rfl rfl (Yld.move rfl rfl) ?_
  refine OpsJ.yld rfl rfl rfl (Yld.move rfl rfl) ?_
  refine OpsJ.op rfl ?_
  refine OpJ.call (shortened_specF svcbK 11 (rawBA svcbK.body) svcbAdder 21 reads_all_SVCB (fun r => (pairsW r.pairs).length ≤ 4398046511104) (fun r hr hf hb => one_SVCB r hr hf hb) (fun r hr => by have h := (okn_SVCB hr).2.2.2; have e : svcbK.body r = be16 (r.n1 % 65536) ++ wire r.host.data.toList ++ pairsW r.pairs := rfl; rw [e] at h; simp only [List.length_append] at h; omega) G h hw qs av hq one two three v1 v2 v3 hrw ⟨hn, l1, l2, l3, fun r hr => (hrw r hr).pairs⟩ (fun r hr hok => recShort_SVCB (hrw r hr) hok) (fun r hr => ⟨by show 64 < 65536; decide, fun _ => rfl⟩) (fun r hr _ => pairs_fit ⟨(hru r hr).1, (hru r hr).2, (hru r hr).3, (hru r hr).4⟩)) has_11 rfl rfl rfl rfl rfl [] [0] (by decide) rfl rfl (fun w hI => ⟨hge.call hI (is := []) rfl, Row.keep0 hask hI.keep, hr1.keep0 hI.keep, hr2.keep0 hI.keep, hr3.keep0 hI.keep⟩) ?_
  rintro _ _ ⟨rfl, rfl⟩
  refine OpsJ.yld rfl rfl rfl (Yld.assign rfl rfl) ?_
  refine OpsJ.nil ?_
  refine ExJ.thenN ?_
  refine CodeJ.ret ?_
  exact ExJ.ret1 Tryd.results6 rfl ⟨rfl, rfl⟩ fun w hI => hI.pick (is := []) (by decide) rfl
end Go.Proofs.YtamobccbioafmaaDoor
