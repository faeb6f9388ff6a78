/-
  Contract: message.
-/
import Derived.Test.YtdiememgbnplkaaDoorConv
import Derived.Test.YtdiememgbnplkaaDoorLawA
namespace Go.Proofs.YtdiememgbnplkaaDoor
open Go
set_option maxRecDepth 100000

/-- a message as the reference has it; m: as it was given -/
structure MsgOf (kind : Int) (m m' : MsgD) : Prop where
  head : m'.head = m.head
  asks : m'.asks = m.asks
  one : SpecOf kind m.one m'.one
  two : SpecOf kind m.two m'.two
  three : SpecOf kind m.three m'.three
  ones : oneCells m'.cells = true
structure MsgMem (m' : MsgD) (w : World) : Prop where
  asks : Asks w m'.asksV m'.asks
  one : SRecs m'.oneV m'.one w
  two : SRecs m'.twoV m'.two w
  three : SRecs m'.threeV m'.three w
theorem MsgMem.ok {kind : Int} {m m' : MsgD} {w : World} (h : MsgMem m' w) (hm : MsgOf kind m m') (ho : ∀ r ∈ m.one ++ m.two ++ m.three, RecOk w r) : MsgOk w m' :=
  ⟨h.asks, h.one.recs hm.one fun r hr => ho r (by simp [hr]), h.two.recs hm.two fun r hr => ho r (by simp [hr]), h.three.recs hm.three fun r hr => ho r (by simp [hr])⟩
/-- what message needs of lengths -/
structure MsgFit (m : MsgD) : Prop where
  asks : m.asks.length * 24 ≤ 140737488351232
  one : m.one.length * 168 ≤ 140737488351232
  two : m.two.length * 168 ≤ 140737488351232
  three : m.three.length * 168 ≤ 140737488351232
  pairs : ∀ r ∈ m.one ++ m.two ++ m.three, r.pairs.length * 32 ≤ 140737488351232

theorem SpecOf.nil {kind : Int} {rs : List RecD} (h : SpecOf kind [] rs) : rs = [] := by
  cases rs with
  | nil => rfl
  | cons x r => exact h.elim
theorem MsgOf.nil {kind : Int} {h : Hd} {av v1 v2 v3 : Value} {qs : List AskD} {m' : MsgD} (hm : MsgOf kind ⟨h, av, qs, v1, [], v2, [], v3, []⟩ m') : ∃ a b c d, m' = ⟨h, a, qs, b, [], c, [], d, []⟩ := by
  obtain ⟨h', a, qs', b, r1, c, r2, d, r3⟩ := m'
  have h1 : h' = h := hm.head
  have h2 : qs' = qs := hm.asks
  have h3 : r1 = [] := hm.one.nil
  have h4 : r2 = [] := hm.two.nil
  have h5 : r3 = [] := hm.three.nil
  subst h1 h2 h3 h4 h5
  exact ⟨a, b, c, d, rfl⟩
theorem recs_nil (w : World) (p : Option Addr) (c : Nat) : Recs w (.slice p 0 c) [] := ⟨.inl ⟨p, c, rfl, rfl, rfl⟩, fun r hr => by cases hr⟩

theorem build_msg {o : Oper} {n : Nat} {L : List (Nat × Value)} {I : World → Prop} {parts : Array (Nat × Operand)} (h : Hd) (qs : List AskD) (rs1 rs2 rs3 : List RecD) {pa p1 p2 p3 : Option Addr} {na n1 n2 n3 ca c1 c2 c3 : Nat} (ho : o.op = .build 55 parts) (hv : evp L parts.toList = some [(0, .agg (hdCs h).toArray), (1, .slice pa na ca), (2, .slice p1 n1 c1), (3, .slice p2 n2 c2), (4, .slice p3 n3 c3)]) : Yld Tryd.prog o n L I (.agg (MsgD.cells ⟨h, .slice pa na ca, qs, .slice p1 n1 c1, rs1, .slice p2 n2 c2, rs2, .slice p3 n3 c3, rs3⟩).toArray) :=
  Yld.build places_55 zero_55 ho hv (by kernel_rfl)
theorem message_spec (kind : Int) (m : MsgD) (hf : MsgFit m) :
    Spec Tryd.prog 20 [.int .i64 kind, .agg (hdCs m.head).toArray, m.asksV, m.oneV, m.twoV, m.threeV] [] (fun w => MsgOk w m) (fun x H' => ∃ m' q bs hq, x = m'.val ∧ MsgOf kind m m' ∧ (∀ w, q w → MsgMem m' w) ∧ H' = [.ro q bs hq]) := by
  refine Spec.of Tryd.func20 rfl Tryd.ntmps20 rfl fun w0 hm => ?_
  refine CodeJ.seq ?_
  refine CodeJ.region ?_
  refine OpsJ.op rfl ?_
  refine OpJ.box rfl rfl rfl rfl fun hd hhd => ?_
  refine OpsJ.op rfl ?_
  refine OpJ.alloc rfl rfl rfl zero_55 fun res hres => ?_
  refine OpsJ.nil ?_
  refine ExJ.thenN ?_
  refine CodeJ.seq ?_
  refine CodeJ.region ?_
  refine OpsJ.yld rfl rfl rfl (Yld.loadN (vs := hdCs m.head) rfl Tryd.underlying24 rfl sz_24 rfl (fun w hI => Inv.whole hI (i := 1) rfl)) ?_
  refine OpsJ.op rfl ?_
  refine OpJ.call (specHead_spec m.head) has_16 rfl rfl rfl rfl rfl [] [0, 1] (by decide) rfl rfl (fun _ _ => trivial) ?_
  rintro _ _ ⟨rfl, rfl⟩
  refine OpsJ.yld rfl rfl rfl (Yld.move rfl rfl) ?_
  refine OpsJ.op rfl ?_
  refine OpJ.call (specAsks_spec m.asks m.asksV hf.asks) has_31 rfl rfl rfl rfl rfl [] [0, 1] (by decide) rfl rfl (fun w hI => Row.keep0 hm.asks hI.keep) ?_
  rintro _ _ ⟨pa, ca, rfl, rfl⟩
  refine OpsJ.yld rfl rfl rfl (Yld.move rfl rfl) ?_
  refine OpsJ.yld rfl rfl rfl (Yld.move rfl rfl) ?_
  refine OpsJ.op rfl ?_
  refine OpJ.call (specRecords_spec m.one kind m.oneV hf.one (fun r hr => hf.pairs r (by simp [hr]))) has_32 rfl rfl rfl rfl rfl [] [0, 1, 2] (by decide) rfl rfl (fun w hI => hm.one.keep0 hI.keep) ?_
  rintro _ _ ⟨p1, c1, rs1, q1, bs1, hq1, rfl, h1, hs1, rfl⟩
  refine OpsJ.yld rfl rfl rfl (Yld.move rfl rfl) ?_
  refine OpsJ.yld rfl rfl rfl (Yld.move rfl rfl) ?_
  refine OpsJ.op rfl ?_
  refine OpJ.call (specRecords_spec m.two kind m.twoV hf.two (fun r hr => hf.pairs r (by simp [hr]))) has_32 rfl rfl rfl rfl rfl [] [0, 1, 2, 3] (by decide) rfl rfl (fun w hI => hm.two.keep0 hI.keep) ?_
  rintro _ _ ⟨p2, c2, rs2, q2, bs2, hq2, rfl, h2, hs2, rfl⟩
  refine OpsJ.yld rfl rfl rfl (Yld.move rfl rfl) ?_
  refine OpsJ.yld rfl rfl rfl (Yld.move rfl rfl) ?_
  refine OpsJ.op rfl ?_
  refine OpJ.call (specRecords_spec m.three kind m.threeV hf.three (fun r hr => hf.pairs r (by simp [hr]))) has_32 rfl rfl rfl rfl rfl [] [0, 1, 2, 3, 4] (by decide) rfl rfl (fun w hI => hm.three.keep0 hI.keep) ?_
  rintro _ _ ⟨p3, c3, rs3, q3, bs3, hq3, rfl, h3, hs3, rfl⟩
  refine OpsJ.yld rfl rfl rfl (build_msg m.head m.asks rs1 rs2 rs3 rfl rfl) ?_
  refine OpsJ.op rfl ?_
  refine OpJ.storeW (i := 4) rfl rfl rfl rfl sz_55 rfl rfl rfl ?_
  refine OpsJ.nil ?_
  refine ExJ.thenN ?_
  refine CodeJ.ret ?_
  refine ExJ.retC (vs := MsgD.cells ⟨m.head, .slice pa m.asks.length ca, m.asks, .slice p1 m.one.length c1, rs1, .slice p2 m.two.length c2, rs2, .slice p3 m.three.length c3, rs3⟩) Tryd.results20 rfl Tryd.underlying55 rfl sz_55 (fun w hI => Inv.whole hI (i := 4) rfl)
    ⟨⟨m.head, .slice pa m.asks.length ca, m.asks, .slice p1 m.one.length c1, rs1, .slice p2 m.two.length c2, rs2, .slice p3 m.three.length c3, rs3⟩, _, _, _, rfl, ⟨rfl, rfl, h1, h2, h3, rfl⟩, ?_, rfl⟩ fun w hI => (((hI.pick (is := [3, 2, 1, 0]) (by decide) rfl).join).join).join
  intro w hw
  obtain ⟨hw, hw3⟩ := hw
  obtain ⟨⟨hw, hw2⟩, hr2⟩ := hw
  obtain ⟨⟨hwa, hw1⟩, hr1⟩ := hw
  exact ⟨Own.row hwa.1, hs1 w hw1.1, hs2 w hw2.1, hs3 w hw3.1⟩
end Go.Proofs.YtdiememgbnplkaaDoor
