/-
  Contracts of the reference's small functions: Two, Four, Joined, Wire.
-/
import Derived.Test.YtdiememgbnplkaaDoorFacts
import Derived.Test.YtdiememgbnplkaaDoorWrap
import Derived.Test.YtdiememgbnplkaaDoorPlain
namespace Go.Proofs.YtdiememgbnplkaaDoor
open Go
set_option maxRecDepth 100000

theorem two_spec (x : Nat) : Spec Tryd.prog 34 [.int .u16 x] [] (fun _ => True) (RetB 5 (be16 x)) := by
  refine Spec.of Tryd.func34 rfl Tryd.ntmps34 rfl fun w0 _ => ?_
  refine CodeJ.seq ?_
  refine CodeJ.region ?_
  refine OpsJ.yld rfl rfl rfl (Yld.assign rfl rfl) ?_
  refine OpsJ.nil ?_
  refine ExJ.thenN ?_
  refine CodeJ.seq ?_
  refine CodeJ.region ?_
  refine OpsJ.yld rfl rfl rfl (Yld.move rfl rfl) ?_
  refine OpsJ.yld rfl rfl rfl (Yld.shr rfl rfl rfl (by decide)) ?_
  refine OpsJ.yld rfl rfl rfl (Yld.convInt rfl Tryd.underlying22 Tryd.underlying5 rfl) ?_
  refine OpsJ.yld rfl rfl rfl (Yld.move rfl rfl) ?_
  refine OpsJ.yld rfl rfl rfl (Yld.convInt rfl Tryd.underlying22 Tryd.underlying5 rfl) ?_
  rw [shr8, u8_wrap, u8_wrap]
  refine OpsJ.op rfl ?_
  refine OpJ.buildSlice (xs := [.tmp 5, .tmp 7]) elt_29 rfl rfl rfl rfl rfl rfl (by rfl) (by decide) fun s8 hs8 => ?_
  refine OpsJ.yld rfl rfl rfl (Yld.assign rfl rfl) ?_
  refine OpsJ.nil ?_
  refine ExJ.thenN ?_
  refine CodeJ.ret ?_
  exact ExJ.retB Tryd.results34 rfl fun w hI => hI

theorem packUint16_spec (x : Nat) (v v' : Value) (bs bs' : List UInt8) (hl : bs'.length + 2 ≤ 175921860444160) :
    Spec Tryd.prog 66 [v', .int .u16 x] [appB 5 v bs v' bs'] (fun _ => True) (RetA 5 v bs (bs' ++ be16 x)) := by
  refine Spec.of Tryd.func66 rfl Tryd.ntmps66 rfl fun w0 _ => ?_
  refine CodeJ.seq ?_
  refine CodeJ.region ?_
  refine OpsJ.yld rfl rfl rfl (Yld.assign rfl rfl) ?_
  refine OpsJ.nil ?_
  refine ExJ.thenN ?_
  refine CodeJ.seq ?_
  refine CodeJ.region ?_
  refine OpsJ.yld rfl rfl rfl (Yld.move rfl rfl) ?_
  refine OpsJ.yld rfl rfl rfl (Yld.move rfl rfl) ?_
  refine OpsJ.yld rfl rfl rfl (Yld.shr rfl rfl rfl (by decide)) ?_
  refine OpsJ.yld rfl rfl rfl (Yld.convInt rfl Tryd.underlying22 Tryd.underlying5 rfl) ?_
  refine OpsJ.yld rfl rfl rfl (Yld.move rfl rfl) ?_
  refine OpsJ.yld rfl rfl rfl (Yld.convInt rfl Tryd.underlying22 Tryd.underlying5 rfl) ?_
  rw [shr8, u8_wrap, u8_wrap]
  refine OpsJ.op rfl ?_
  refine OpJ.buildSlice (xs := [.tmp 8, .tmp 10]) elt_29 rfl rfl rfl rfl rfl rfl (by rfl) (by decide) fun s11 hs11 => ?_
  refine OpsJ.op rfl ?_
  refine OpJ.appendB (i := 1) (news := be16 x) elt_29 rfl rfl rfl rfl rfl rfl (fun w hI => Bytes.src (Inv.bytes (k := 0) rfl w hI) Tryd.underlying29) hl fun p12 c12 => ?_
  refine OpsJ.yld rfl rfl rfl (Yld.assign rfl rfl) ?_
  refine OpsJ.nil ?_
  refine ExJ.thenN ?_
  refine CodeJ.ret ?_
  exact ExJ.ret1 Tryd.results66 rfl ⟨_, _, rfl, rfl⟩ fun w hI => hI.pick (is := [1]) (by decide) rfl
theorem joined_spec (v : Value) (pss : List (List UInt8)) (hl : pss.flatten.length ≤ 175921860444160) (hn : pss.length < 9223372036854775807) :
    Spec Tryd.prog 28 [v] [] (fun w => Parts w v pss) (RetB 5 pss.flatten) := by
  refine Spec.of Tryd.func28 rfl Tryd.ntmps28 rfl fun w0 hp => ?_
  obtain ⟨b, c, vs, rfl, hvl, hc, ho⟩ := hp
  refine CodeJ.seq ?_
  refine CodeJ.region ?_
  refine OpsJ.yld rfl rfl rfl (Yld.assign rfl rfl) ?_
  refine OpsJ.nil ?_
  refine ExJ.thenN ?_
  refine CodeJ.seq ?_
  refine CodeJ.region ?_
  refine OpsJ.op rfl ?_
  refine OpJ.buildSlice (xs := []) elt_29 rfl rfl rfl rfl rfl rfl (by rfl) (by decide) fun out hout => ?_
  refine OpsJ.yld rfl rfl rfl (Yld.assign rfl rfl) ?_
  refine OpsJ.nil ?_
  refine ExJ.thenN ?_
  refine CodeJ.seq ?_
  refine CodeJ.seq ?_
  refine CodeJ.region ?_
  refine OpsJ.yld rfl rfl rfl (Yld.move rfl rfl) ?_
  refine OpsJ.yld rfl rfl rfl (Yld.lenSlice rfl rfl rfl Tryd.underlying115 rfl) ?_
  refine OpsJ.yld rfl rfl rfl (Yld.move rfl rfl) ?_
  refine OpsJ.nil ?_
  refine ExJ.thenN ?_
  refine CodeJ.block ?_
  refine CodeJ.loopP (fun L H m => ∃ (k : Nat) (p : Option Addr) (q : Nat), k ≤ vs.length ∧ L = [(3, .slice p (pss.take k).flatten.length q), (7, .slice (some ⟨b, 0, none⟩) vs.length c), (8, .int .i64 vs.length), (9, .int .i64 k)] ∧ H = [ownB 5 (.slice p (pss.take k).flatten.length q) (pss.take k).flatten] ∧ m = vs.length - k) ⟨0, _, _, Nat.zero_le _, rfl, rfl, rfl⟩ ⟨rfl, rfl, rfl, rfl, trivial⟩ (fun w hI => hI) ?_
  rintro _ _ _ ⟨k, p, q, hk, rfl, rfl, rfl⟩
  refine CodeJ.seq ?_
  refine CodeJ.region ?_
  refine OpsJ.yld rfl rfl rfl (Yld.intBin rfl rfl rfl rfl) ?_
  refine OpsJ.nil ?_
  refine ExJ.thenN ?_
  refine CodeJ.seq ?_
  refine CodeJ.condP rfl (fun c10 => ?_) (fun c10 => ?_)
  · have hk' : k < vs.length := by omega
    have hk2 : k < pss.length := by omega
    obtain ⟨ps, hps⟩ : ∃ ps, pss[k]? = some ps := ⟨pss[k], List.getElem?_eq_getElem hk2⟩
    obtain ⟨u, hpv⟩ : ∃ u, vs[k]? = some u := ⟨vs[k], List.getElem?_eq_getElem hk'⟩
    have hown := ho k u ps hpv hps
    have hpt : (pss.take (k + 1)).flatten = (pss.take k).flatten ++ ps := by
      rw [List.take_add_one, hps]
      simp
    have hroom : (pss.take k).flatten.length + ps.length ≤ 175921860444160 := by
      have h1 : (pss.take (k + 1)).flatten.length ≤ pss.flatten.length := by
        conv => rhs; rw [← List.take_append_drop (k + 1) pss, List.flatten_append, List.length_append]
        omega
      rw [hpt, List.length_append] at h1
      omega
    refine CodeJ.skip ?_
    refine ExJ.thenN ?_
    refine CodeJ.seq ?_
    refine CodeJ.block ?_
    refine CodeJ.seq ?_
    refine CodeJ.region ?_
    refine OpsJ.yld rfl rfl rfl (Yld.indexAddr rfl Tryd.underlying115 sz_29 rfl rfl hk') ?_
    refine OpsJ.yld rfl rfl rfl (Yld.load1 (v := u) rfl Tryd.underlying29 rfl rfl (fun w hI => hI.old (hc.one hpv) (by simp [fp]))) ?_
    refine OpsJ.yld rfl rfl rfl (Yld.assign rfl rfl) ?_
    refine OpsJ.nil ?_
    refine ExJ.thenN ?_
    refine CodeJ.region ?_
    refine OpsJ.yld rfl rfl rfl (Yld.move rfl rfl) ?_
    refine OpsJ.yld rfl rfl rfl (Yld.move rfl rfl) ?_
    refine OpsJ.op rfl ?_
    refine OpJ.appendO (i := 0) (news := ps) elt_29 rfl rfl rfl rfl rfl rfl (fun w hI => Bytes.src (hown.keep hI.keep (by simp [fp])) Tryd.underlying29) hroom fun p15 c15 => ?_
    refine OpsJ.yld rfl rfl rfl (Yld.assign rfl rfl) ?_
    refine OpsJ.nil ?_
    refine ExJ.blockN ?_
    refine ExJ.thenN ?_
    refine CodeJ.region ?_
    refine OpsJ.yld rfl rfl rfl (Yld.intBin rfl rfl rfl rfl) ?_
    rw [i64_succ k (by omega)]
    refine OpsJ.yld rfl rfl rfl (Yld.move rfl rfl) ?_
    refine OpsJ.nil ?_
    exact ExJ.againP ⟨k + 1, p15, c15, by omega, rfl, rfl, rfl⟩ (by omega) ⟨by rw [hpt]; rfl, rfl, rfl, rfl, trivial⟩ fun w hI => by rw [hpt]; exact hI
  · obtain rfl : k = vs.length := by omega
    have ht : pss.take vs.length = pss := List.take_of_length_le (by omega)
    rw [ht]
    refine CodeJ.exit ?_
    refine ExJ.thenX ?_
    refine ExJ.thenX ?_
    refine ExJ.blockHit ?_
    refine ExJ.thenN ?_
    refine CodeJ.seq ?_
    refine CodeJ.region ?_
    refine OpsJ.yld rfl rfl rfl (Yld.move rfl rfl) ?_
    refine OpsJ.yld rfl rfl rfl (Yld.assign rfl rfl) ?_
    refine OpsJ.nil ?_
    refine ExJ.thenN ?_
    refine CodeJ.ret ?_
    exact ExJ.retB Tryd.results28 rfl fun w hI => hI
end Go.Proofs.YtdiememgbnplkaaDoor
