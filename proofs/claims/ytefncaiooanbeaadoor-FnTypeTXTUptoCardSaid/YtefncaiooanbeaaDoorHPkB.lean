/-
  Contract of the package: packBytes.
-/
import Derived.Test.YtefncaiooanbeaaDoorBg
namespace Go.Proofs.YtefncaiooanbeaaDoor
open Go
set_option maxRecDepth 100000

theorem packBytes_spec (u : Value) (news : List UInt8) (v v' : Value) (bs bs' : List UInt8) (hl : bs'.length + news.length ≤ 175921860444160) :
    Spec Tryd.prog 97 [v', u] [appB 5 v bs v' bs'] (fun w => Bytes w u news ∧ ∀ b ∈ blkOf u, b ∉ fp [appB 5 v bs v' bs']) (RetA 5 v bs (bs' ++ news)) := by
  refine Spec.of Tryd.func97 rfl Tryd.ntmps97 rfl fun w0 hR => ?_
  obtain ⟨hby, hout⟩ := hR
  refine CodeJ.seq ?_
  refine CodeJ.region ?_
  refine OpsJ.yld rfl rfl rfl (Yld.assign rfl rfl) ?_
  refine OpsJ.nil ?_
  refine ExJ.thenN ?_
  refine CodeJ.seq ?_
  refine CodeJ.region ?_
  refine OpsJ.yld rfl rfl rfl (Yld.move rfl rfl) ?_
  refine OpsJ.yld rfl rfl rfl (Yld.move rfl rfl) ?_
  refine OpsJ.op rfl ?_
  refine OpJ.appendB (i := 0) (news := news) elt_26 rfl rfl rfl rfl rfl rfl (fun w hI => Bytes.src (hby.keep hI.keep hout) Tryd.underlying26) hl fun p7 c7 => ?_
  refine OpsJ.yld rfl rfl rfl (Yld.assign rfl rfl) ?_
  refine OpsJ.nil ?_
  refine ExJ.thenN ?_
  refine CodeJ.ret ?_
  exact ExJ.ret1 Tryd.results97 rfl ⟨_, _, rfl, rfl⟩ fun w hI => hI
/-- the bytes lie in a resource that is only read -/
theorem packBytes_ro (q : World → Prop) (qs : List Nat) (hq : ∀ w w' : World, (∀ b ∈ qs, w'.heap[b]? = w.heap[b]?) → q w → q w') (u : Value) (news : List UInt8) (hqu : ∀ w, q w → Bytes w u news) (v v' : Value) (bs bs' : List UInt8) (hl : bs'.length + news.length ≤ 175921860444160) :
    Spec Tryd.prog 97 [v', u] [appB 5 v bs v' bs', .ro q qs hq] (fun _ => True) (fun x H' => ∃ p c, x = .slice p (bs' ++ news).length c ∧ H' = [appB 5 v bs (.slice p (bs' ++ news).length c) (bs' ++ news), .ro q qs hq]) := by
  refine Spec.of Tryd.func97 rfl Tryd.ntmps97 rfl fun w0 _ => ?_
  refine CodeJ.seq ?_
  refine CodeJ.region ?_
  refine OpsJ.yld rfl rfl rfl (Yld.assign rfl rfl) ?_
  refine OpsJ.nil ?_
  refine ExJ.thenN ?_
  refine CodeJ.seq ?_
  refine CodeJ.region ?_
  refine OpsJ.yld rfl rfl rfl (Yld.move rfl rfl) ?_
  refine OpsJ.yld rfl rfl rfl (Yld.move rfl rfl) ?_
  refine OpsJ.op rfl ?_
  refine OpJ.appendB (i := 0) (news := news) elt_26 rfl rfl rfl rfl rfl rfl (fun w hI => Bytes.src (hqu w (hI.roGet (i := 1) rfl)) Tryd.underlying26) hl fun p7 c7 => ?_
  refine OpsJ.yld rfl rfl rfl (Yld.assign rfl rfl) ?_
  refine OpsJ.nil ?_
  refine ExJ.thenN ?_
  refine CodeJ.ret ?_
  exact ExJ.ret1 Tryd.results97 rfl ⟨_, _, rfl, rfl⟩ fun w hI => hI
end Go.Proofs.YtefncaiooanbeaaDoor
