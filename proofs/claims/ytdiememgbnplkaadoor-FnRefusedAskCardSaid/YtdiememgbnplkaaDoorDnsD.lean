/-
  Contracts of the package: the builder.
-/
import Derived.Test.YtdiememgbnplkaaDoorDnsC
namespace Go.Proofs.YtdiememgbnplkaaDoor
open Go
set_option maxRecDepth 100000

/-- a builder, as the proofs see it -/
structure Bd where
  buf : List UInt8
  start : Nat
  sec : Nat
  id : Nat
  bits : Nat
  q : Nat
  an : Nat
  au : Nat
  ad : Nat
  m : List (List UInt8 × Nat)

def bdCs (b : Bd) (p : Option Addr) (c : Nat) (r : Option Nat) : Array Value := #[.slice p b.buf.length c, .int .u8 b.sec, .int .u16 b.id, .int .u16 b.bits, .int .u16 b.q, .int .u16 b.an, .int .u16 b.au, .int .u16 b.ad, .int .i64 b.start, .map r]
/-- its memory: the struct, the bytes, the table -/
def bdR (b : Bd) (bb : Nat) (p : Option Addr) (c : Nat) (r : Option Nat) : List Res := [.blk bb (bdCs b p c r) 89, ownB 5 (.slice p b.buf.length c) b.buf, .mp r (kvV b.m)]

theorem startCheck_spec (b : Bd) (bb : Nat) (p : Option Addr) (c : Nat) (r : Option Nat) (s : Nat) (h1 : 1 ≤ b.sec) (h2 : b.sec ≤ s) :
    Spec Tryd.prog 58 [.pointer (some ⟨bb, 0, none⟩), .int .u8 s] (bdR b bb p c r) (fun _ => True) (fun x H' => x = .nilIface ∧ H' = bdR b bb p c r) := by
  refine Spec.of Tryd.func58 rfl Tryd.ntmps58 rfl fun w0 _ => ?_
  refine CodeJ.seq ?_
  refine CodeJ.region ?_
  refine OpsJ.yld rfl rfl rfl (Yld.assign rfl rfl) ?_
  refine OpsJ.nil ?_
  refine ExJ.thenN ?_
  refine CodeJ.seq ?_
  refine CodeJ.seq ?_
  refine CodeJ.region ?_
  refine OpsJ.yld rfl rfl rfl (Yld.move rfl rfl) ?_
  refine OpsJ.yld rfl rfl rfl (Yld.nilCheck rfl rfl) ?_
  refine OpsJ.yld rfl rfl rfl (Yld.fieldAddr fa_89_1 rfl rfl) ?_
  refine OpsJ.yld rfl rfl rfl (Yld.load1 rfl Tryd.underlying84 rfl rfl (fun w hI => Inv.cell1 hI (i := 0) rfl rfl)) ?_
  refine OpsJ.yld rfl rfl rfl (Yld.intBin rfl rfl rfl rfl) ?_
  refine OpsJ.nil ?_
  refine ExJ.thenN ?_
  refine CodeJ.condP rfl (fun c9 => ?_) (fun c9 => ?_)
  · exact absurd c9 (by omega)
  · refine CodeJ.skip ?_
    refine ExJ.thenN ?_
    refine CodeJ.seq ?_
    refine CodeJ.seq ?_
    refine CodeJ.region ?_
    refine OpsJ.yld rfl rfl rfl (Yld.move rfl rfl) ?_
    refine OpsJ.yld rfl rfl rfl (Yld.nilCheck rfl rfl) ?_
    refine OpsJ.yld rfl rfl rfl (Yld.fieldAddr fa_89_1 rfl rfl) ?_
    refine OpsJ.yld rfl rfl rfl (Yld.load1 rfl Tryd.underlying84 rfl rfl (fun w hI => Inv.cell1 hI (i := 0) rfl rfl)) ?_
    refine OpsJ.yld rfl rfl rfl (Yld.move rfl rfl) ?_
    refine OpsJ.yld rfl rfl rfl (Yld.intBin rfl rfl rfl rfl) ?_
    refine OpsJ.nil ?_
    refine ExJ.thenN ?_
    refine CodeJ.condP rfl (fun c16 => ?_) (fun c16 => ?_)
    · exact absurd c16 (by omega)
    · refine CodeJ.skip ?_
      refine ExJ.thenN ?_
      refine CodeJ.seq ?_
      refine CodeJ.region ?_
      refine OpsJ.yld rfl rfl rfl (Yld.assign rfl rfl) ?_
      refine OpsJ.nil ?_
      refine ExJ.thenN ?_
      refine CodeJ.ret ?_
      exact ExJ.ret1 Tryd.results58 rfl ⟨rfl, rfl⟩ fun w hI => hI

theorem startQuestions_spec (b : Bd) (bb : Nat) (p : Option Addr) (c : Nat) (r : Option Nat) (h1 : 1 ≤ b.sec) (h2 : b.sec ≤ 2) :
    Spec Tryd.prog 41 [.pointer (some ⟨bb, 0, none⟩)] (bdR b bb p c r) (fun _ => True) (fun x H' => x = .nilIface ∧ H' = bdR { b with sec := 2 } bb p c r) := by
  refine Spec.of Tryd.func41 rfl Tryd.ntmps41 rfl fun w0 _ => ?_
  refine CodeJ.seq ?_
  refine CodeJ.region ?_
  refine OpsJ.yld rfl rfl rfl (Yld.assign rfl rfl) ?_
  refine OpsJ.nil ?_
  refine ExJ.thenN ?_
  refine CodeJ.seq ?_
  refine CodeJ.seq ?_
  refine CodeJ.region ?_
  refine OpsJ.yld rfl rfl rfl (Yld.move rfl rfl) ?_
  refine OpsJ.op rfl ?_
  refine OpJ.call (startCheck_spec b bb p c r 2 h1 h2) has_58 rfl rfl rfl rfl rfl [0, 1, 2] [] (by decide) rfl rfl (fun _ _ => trivial) ?_
  rintro _ _ ⟨rfl, rfl⟩
  refine OpsJ.yld rfl rfl rfl (Yld.assign rfl rfl) ?_
  refine OpsJ.nil ?_
  refine ExJ.thenN ?_
  refine CodeJ.seq ?_
  refine CodeJ.region ?_
  refine OpsJ.yld rfl rfl rfl (Yld.move rfl rfl) ?_
  refine OpsJ.yld rfl rfl rfl (Yld.ifaceNeNil rfl Tryd.underlying98 rfl rfl) ?_
  refine OpsJ.nil ?_
  refine ExJ.thenN ?_
  refine CodeJ.condF rfl ?_
  refine CodeJ.skip ?_
  refine ExJ.thenN ?_
  refine CodeJ.seq ?_
  refine CodeJ.region ?_
  refine OpsJ.yld rfl rfl rfl (Yld.move rfl rfl) ?_
  refine OpsJ.yld rfl rfl rfl (Yld.nilCheck rfl rfl) ?_
  refine OpsJ.yld rfl rfl rfl (Yld.fieldAddr fa_89_1 rfl rfl) ?_
  refine OpsJ.op rfl ?_
  refine OpJ.store1 (i := 0) rfl rfl rfl rfl rfl sz_84 rfl rfl ?_
  refine OpsJ.nil ?_
  refine ExJ.thenN ?_
  refine CodeJ.seq ?_
  refine CodeJ.region ?_
  refine OpsJ.yld rfl rfl rfl (Yld.assign rfl rfl) ?_
  refine OpsJ.nil ?_
  refine ExJ.thenN ?_
  refine CodeJ.ret ?_
  exact ExJ.ret1 Tryd.results41 rfl ⟨rfl, rfl⟩ fun w hI => hI
theorem startAnswers_spec (b : Bd) (bb : Nat) (p : Option Addr) (c : Nat) (r : Option Nat) (h1 : 1 ≤ b.sec) (h2 : b.sec ≤ 3) :
    Spec Tryd.prog 42 [.pointer (some ⟨bb, 0, none⟩)] (bdR b bb p c r) (fun _ => True) (fun x H' => x = .nilIface ∧ H' = bdR { b with sec := 3 } bb p c r) := by
  refine Spec.of Tryd.func42 rfl Tryd.ntmps42 rfl fun w0 _ => ?_
  refine CodeJ.seq ?_
  refine CodeJ.region ?_
  refine OpsJ.yld rfl rfl rfl (Yld.assign rfl rfl) ?_
  refine OpsJ.nil ?_
  refine ExJ.thenN ?_
  refine CodeJ.seq ?_
  refine CodeJ.seq ?_
  refine CodeJ.region ?_
  refine OpsJ.yld rfl rfl rfl (Yld.move rfl rfl) ?_
  refine OpsJ.op rfl ?_
  refine OpJ.call (startCheck_spec b bb p c r 3 h1 h2) has_58 rfl rfl rfl rfl rfl [0, 1, 2] [] (by decide) rfl rfl (fun _ _ => trivial) ?_
  rintro _ _ ⟨rfl, rfl⟩
  refine OpsJ.yld rfl rfl rfl (Yld.assign rfl rfl) ?_
  refine OpsJ.nil ?_
  refine ExJ.thenN ?_
  refine CodeJ.seq ?_
  refine CodeJ.region ?_
  refine OpsJ.yld rfl rfl rfl (Yld.move rfl rfl) ?_
  refine OpsJ.yld rfl rfl rfl (Yld.ifaceNeNil rfl Tryd.underlying98 rfl rfl) ?_
  refine OpsJ.nil ?_
  refine ExJ.thenN ?_
  refine CodeJ.condF rfl ?_
  refine CodeJ.skip ?_
  refine ExJ.thenN ?_
  refine CodeJ.seq ?_
  refine CodeJ.region ?_
  refine OpsJ.yld rfl rfl rfl (Yld.move rfl rfl) ?_
  refine OpsJ.yld rfl rfl rfl (Yld.nilCheck rfl rfl) ?_
  refine OpsJ.yld rfl rfl rfl (Yld.fieldAddr fa_89_1 rfl rfl) ?_
  refine OpsJ.op rfl ?_
  refine OpJ.store1 (i := 0) rfl rfl rfl rfl rfl sz_84 rfl rfl ?_
  refine OpsJ.nil ?_
  refine ExJ.thenN ?_
  refine CodeJ.seq ?_
  refine CodeJ.region ?_
  refine OpsJ.yld rfl rfl rfl (Yld.assign rfl rfl) ?_
  refine OpsJ.nil ?_
  refine ExJ.thenN ?_
  refine CodeJ.ret ?_
  exact ExJ.ret1 Tryd.results42 rfl ⟨rfl, rfl⟩ fun w hI => hI
theorem startAuthorities_spec (b : Bd) (bb : Nat) (p : Option Addr) (c : Nat) (r : Option Nat) (h1 : 1 ≤ b.sec) (h2 : b.sec ≤ 4) :
    Spec Tryd.prog 43 [.pointer (some ⟨bb, 0, none⟩)] (bdR b bb p c r) (fun _ => True) (fun x H' => x = .nilIface ∧ H' = bdR { b with sec := 4 } bb p c r) := by
  refine Spec.of Tryd.func43 rfl Tryd.ntmps43 rfl fun w0 _ => ?_
  refine CodeJ.seq ?_
  refine CodeJ.region ?_
  refine OpsJ.yld rfl rfl rfl (Yld.assign rfl rfl) ?_
  refine OpsJ.nil ?_
  refine ExJ.thenN ?_
  refine CodeJ.seq ?_
  refine CodeJ.seq ?_
  refine CodeJ.region ?_
  refine OpsJ.yld rfl rfl rfl (Yld.move rfl rfl) ?_
  refine OpsJ.op rfl ?_
  refine OpJ.call (startCheck_spec b bb p c r 4 h1 h2) has_58 rfl rfl rfl rfl rfl [0, 1, 2] [] (by decide) rfl rfl (fun _ _ => trivial) ?_
  rintro _ _ ⟨rfl, rfl⟩
  refine OpsJ.yld rfl rfl rfl (Yld.assign rfl rfl) ?_
  refine OpsJ.nil ?_
  refine ExJ.thenN ?_
  refine CodeJ.seq ?_
  refine CodeJ.region ?_
  refine OpsJ.yld rfl rfl rfl (Yld.move rfl rfl) ?_
  refine OpsJ.yld rfl rfl rfl (Yld.ifaceNeNil rfl Tryd.underlying98 rfl rfl) ?_
  refine OpsJ.nil ?_
  refine ExJ.thenN ?_
  refine CodeJ.condF rfl ?_
  refine CodeJ.skip ?_
  refine ExJ.thenN ?_
  refine CodeJ.seq ?_
  refine CodeJ.region ?_
  refine OpsJ.yld rfl rfl rfl (Yld.move rfl rfl) ?_
  refine OpsJ.yld rfl rfl rfl (Yld.nilCheck rfl rfl) ?_
  refine OpsJ.yld rfl rfl rfl (Yld.fieldAddr fa_89_1 rfl rfl) ?_
  refine OpsJ.op rfl ?_
  refine OpJ.store1 (i := 0) rfl rfl rfl rfl rfl sz_84 rfl rfl ?_
  refine OpsJ.nil ?_
  refine ExJ.thenN ?_
  refine CodeJ.seq ?_
  refine CodeJ.region ?_
  refine OpsJ.yld rfl rfl rfl (Yld.assign rfl rfl) ?_
  refine OpsJ.nil ?_
  refine ExJ.thenN ?_
  refine CodeJ.ret ?_
  exact ExJ.ret1 Tryd.results43 rfl ⟨rfl, rfl⟩ fun w hI => hI
theorem startAdditionals_spec (b : Bd) (bb : Nat) (p : Option Addr) (c : Nat) (r : Option Nat) (h1 : 1 ≤ b.sec) (h2 : b.sec ≤ 5) :
    Spec Tryd.prog 44 [.pointer (some ⟨bb, 0, none⟩)] (bdR b bb p c r) (fun _ => True) (fun x H' => x = .nilIface ∧ H' = bdR { b with sec := 5 } bb p c r) := by
  refine Spec.of Tryd.func44 rfl Tryd.ntmps44 rfl fun w0 _ => ?_
  refine CodeJ.seq ?_
  refine CodeJ.region ?_
  refine OpsJ.yld rfl rfl rfl (Yld.assign rfl rfl) ?_
  refine OpsJ.nil ?_
  refine ExJ.thenN ?_
  refine CodeJ.seq ?_
  refine CodeJ.seq ?_
  refine CodeJ.region ?_
  refine OpsJ.yld rfl rfl rfl (Yld.move rfl rfl) ?_
  refine OpsJ.op rfl ?_
  refine OpJ.call (startCheck_spec b bb p c r 5 h1 h2) has_58 rfl rfl rfl rfl rfl [0, 1, 2] [] (by decide) rfl rfl (fun _ _ => trivial) ?_
  rintro _ _ ⟨rfl, rfl⟩
  refine OpsJ.yld rfl rfl rfl (Yld.assign rfl rfl) ?_
  refine OpsJ.nil ?_
  refine ExJ.thenN ?_
  refine CodeJ.seq ?_
  refine CodeJ.region ?_
  refine OpsJ.yld rfl rfl rfl (Yld.move rfl rfl) ?_
  refine OpsJ.yld rfl rfl rfl (Yld.ifaceNeNil rfl Tryd.underlying98 rfl rfl) ?_
  refine OpsJ.nil ?_
  refine ExJ.thenN ?_
  refine CodeJ.condF rfl ?_
  refine CodeJ.skip ?_
  refine ExJ.thenN ?_
  refine CodeJ.seq ?_
  refine CodeJ.region ?_
  refine OpsJ.yld rfl rfl rfl (Yld.move rfl rfl) ?_
  refine OpsJ.yld rfl rfl rfl (Yld.nilCheck rfl rfl) ?_
  refine OpsJ.yld rfl rfl rfl (Yld.fieldAddr fa_89_1 rfl rfl) ?_
  refine OpsJ.op rfl ?_
  refine OpJ.store1 (i := 0) rfl rfl rfl rfl rfl sz_84 rfl rfl ?_
  refine OpsJ.nil ?_
  refine ExJ.thenN ?_
  refine CodeJ.seq ?_
  refine CodeJ.region ?_
  refine OpsJ.yld rfl rfl rfl (Yld.assign rfl rfl) ?_
  refine OpsJ.nil ?_
  refine ExJ.thenN ?_
  refine CodeJ.ret ?_
  exact ExJ.ret1 Tryd.results44 rfl ⟨rfl, rfl⟩ fun w hI => hI

theorem enable_spec (b : Bd) (bb : Nat) (p : Option Addr) (c : Nat) (r : Option Nat) :
    Spec Tryd.prog 39 [.pointer (some ⟨bb, 0, none⟩)] (bdR b bb p c r) (fun _ => True) (fun _ H' => ∃ k, H' = bdR { b with m := [] } bb p c (some k)) := by
  refine Spec.of Tryd.func39 rfl Tryd.ntmps39 rfl fun w0 _ => ?_
  refine CodeJ.region ?_
  refine OpsJ.yld rfl rfl rfl (Yld.move rfl rfl) ?_
  refine OpsJ.op rfl ?_
  refine OpJ.makeMap rfl rfl rfl fun nm hnm => ?_
  refine OpsJ.yld rfl rfl rfl (Yld.nilCheck rfl rfl) ?_
  refine OpsJ.yld rfl rfl rfl (Yld.fieldAddr fa_89_4 rfl rfl) ?_
  refine OpsJ.op rfl ?_
  refine OpJ.store1 (i := 1) rfl rfl rfl rfl rfl sz_87 rfl rfl ?_
  refine OpsJ.nil ?_
  refine ExJ.endN ?_
  exact ExJ.retOf (v := .tuple #[]) (fun a w hE hI => by simp [results, Tryd.results39]) ⟨nm, rfl⟩ fun w hI => hI.pick (is := [1, 2, 0]) (by decide) rfl

/-- one more in the section under way -/
def Bd.inc (b : Bd) : Bd := if b.sec = 2 then { b with q := b.q + 1 } else if b.sec = 3 then { b with an := b.an + 1 } else if b.sec = 4 then { b with au := b.au + 1 } else { b with ad := b.ad + 1 }
def Bd.cnt (b : Bd) : Nat := if b.sec = 2 then b.q else if b.sec = 3 then b.an else if b.sec = 4 then b.au else b.ad
end Go.Proofs.YtdiememgbnplkaaDoor
