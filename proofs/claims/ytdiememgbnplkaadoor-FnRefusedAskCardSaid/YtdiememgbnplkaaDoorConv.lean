/-
  Contracts: specAsks, specRecord, specRecords, message.
-/
import Derived.Test.YtdiememgbnplkaaDoorFactsB
import Derived.Test.YtdiememgbnplkaaDoorMem7
import Derived.Test.YtdiememgbnplkaaDoorSpecD
namespace Go.Proofs.YtdiememgbnplkaaDoor
open Go
set_option maxRecDepth 100000

theorem AskD.ones (a : AskD) : ∀ u ∈ a.cells, u.oneCell' = true := by
  intro u hu
  simp [AskD.cells] at hu
  rcases hu with rfl | rfl | rfl <;> rfl

theorem specAsks_spec (qs : List AskD) (av : Value) (hn : qs.length * 24 ≤ 140737488351232) :
    Spec Tryd.prog 31 [av] [] (fun w => Asks w av qs) (fun r H' => ∃ p c, r = .slice p qs.length c ∧ H' = [ownL 69 3 AskD.cells r qs]) := by
  refine Spec.of Tryd.func31 rfl Tryd.ntmps31 rfl fun w0 hask => ?_
  obtain ⟨pa, ca, rfl⟩ := hask.shape
  refine CodeJ.seq ?_
  refine CodeJ.region ?_
  refine OpsJ.yld rfl rfl rfl (Yld.assign rfl rfl) ?_
  refine OpsJ.nil ?_
  refine ExJ.thenN ?_
  refine CodeJ.seq ?_
  refine CodeJ.region ?_
  refine OpsJ.op rfl ?_
  refine OpJ.buildSlice (xs := []) elt_52 rfl rfl rfl rfl rfl rfl (by rfl) (by decide) fun out hout => ?_
  refine OpsJ.yld rfl rfl rfl (Yld.assign rfl rfl) ?_
  refine OpsJ.nil ?_
  refine ExJ.thenN ?_
  refine CodeJ.seq ?_
  refine CodeJ.seq ?_
  refine CodeJ.region ?_
  refine OpsJ.yld rfl rfl rfl (Yld.move rfl rfl) ?_
  refine OpsJ.yld rfl rfl rfl (Yld.lenSlice rfl rfl rfl Tryd.underlying25 rfl) ?_
  refine OpsJ.yld rfl rfl rfl (Yld.move rfl rfl) ?_
  refine OpsJ.nil ?_
  refine ExJ.thenN ?_
  refine CodeJ.block ?_
  refine CodeJ.loopP (fun L H m => ∃ (k : Nat) (p : Option Addr) (c : Nat) (ss : List AskD), k ≤ qs.length ∧ ss = qs.take k ∧ L = [(3, .slice p ss.length c), (7, .slice pa qs.length ca), (8, .int .i64 qs.length), (9, .int .i64 k)] ∧ H = [ownL 69 3 AskD.cells (.slice p ss.length c) ss] ∧ m = qs.length - k) ⟨0, some ⟨out, 0, none⟩, 0, [], Nat.zero_le _, rfl, rfl, rfl, rfl⟩ ⟨rfl, rfl, rfl, rfl, trivial⟩ (fun w hI => hI) ?_
  rintro _ _ _ ⟨k, p, c, ss, hk, hss, rfl, rfl, rfl⟩
  refine CodeJ.seq ?_
  refine CodeJ.region ?_
  refine OpsJ.yld rfl rfl rfl (Yld.intBin rfl rfl rfl rfl) ?_
  refine OpsJ.nil ?_
  refine ExJ.thenN ?_
  refine CodeJ.seq ?_
  refine CodeJ.condP rfl (fun c10 => ?_) (fun c10 => ?_)
  · have hk' : k < qs.length := by omega
    obtain ⟨x, hx⟩ : ∃ x, qs[k]? = some x := ⟨qs[k], List.getElem?_eq_getElem hk'⟩
    obtain ⟨b, off, c', hpv, hcell⟩ := Row.at hask (by simp [AskD.cells]) (by simp) hk'
    simp only [Value.slice.injEq] at hpv
    obtain ⟨rfl, _, rfl⟩ := hpv
    have hcx := hcell x.cells (by simp [hx])
    have hsl : ss.length = k := by rw [hss, List.length_take]; omega
    refine CodeJ.skip ?_
    refine ExJ.thenN ?_
    refine CodeJ.seq ?_
    refine CodeJ.block ?_
    refine CodeJ.seq ?_
    refine CodeJ.region ?_
    refine OpsJ.yld rfl rfl rfl (Yld.indexAddr rfl Tryd.underlying25 sz_41 rfl rfl hk') ?_
    refine OpsJ.yld rfl rfl rfl (Yld.loadN (vs := x.cells) rfl Tryd.underlying41 rfl sz_41 rfl (fun w hI => hI.old hcx (by simp [fp]))) ?_
    refine OpsJ.op rfl ?_
    refine OpJ.alloc rfl rfl rfl zero_41 fun ab hab => ?_
    refine OpsJ.op rfl ?_
    refine OpJ.storeW (i := 0) rfl rfl rfl rfl sz_41 rfl rfl rfl ?_
    refine OpsJ.nil ?_
    refine ExJ.thenN ?_
    refine CodeJ.region ?_
    refine OpsJ.yld rfl rfl rfl (Yld.move rfl rfl) ?_
    refine OpsJ.yld rfl rfl rfl (Yld.loadN (vs := x.cells) rfl Tryd.underlying41 rfl sz_41 rfl (fun w hI => Inv.whole hI (i := 0) rfl)) ?_
    refine OpsJ.op rfl ?_
    refine OpJ.buildSlice (xs := [.tmp 14]) elt_52 rfl rfl rfl rfl rfl rfl (by rfl) (by decide) fun one hone => ?_
    refine OpsJ.op rfl ?_
    refine OpJ.appendL (cells := AskD.cells) (i := 2) (news := x) elt_52 rfl rfl rfl rfl rfl rfl (fun w hI => Inv.src hI (i := 0) rfl Tryd.underlying52 (AskD.ones x)) (by omega) fun p16 c16 => ?_
    refine OpsJ.yld rfl rfl rfl (Yld.assign rfl rfl) ?_
    refine OpsJ.nil ?_
    refine ExJ.blockN ?_
    refine ExJ.thenN ?_
    refine CodeJ.region ?_
    refine OpsJ.yld rfl rfl rfl (Yld.intBin rfl rfl rfl rfl) ?_
    rw [i64_succ k (by omega)]
    refine OpsJ.yld rfl rfl rfl (Yld.move rfl rfl) ?_
    refine OpsJ.nil ?_
    exact ExJ.againP ⟨k + 1, p16, c16, ss ++ [x], by omega, by rw [hss, take_snoc _ _ _ hx], rfl, rfl, rfl⟩ (by omega) ⟨rfl, rfl, rfl, rfl, trivial⟩ fun w hI => hI.pick (is := [2]) (by decide) rfl
  · obtain rfl : k = qs.length := by omega
    rw [List.take_length] at hss
    subst hss
    refine CodeJ.exit ?_
    refine ExJ.thenX ?_
    refine ExJ.thenX ?_
    refine ExJ.blockHit ?_
    refine ExJ.thenN ?_
    refine CodeJ.seq ?_
    refine CodeJ.region ?_
    refine OpsJ.yld rfl rfl rfl (Yld.move rfl rfl) ?_
    refine OpsJ.yld rfl rfl rfl (Yld.assign rfl rfl) ?_
    refine OpsJ.nil ?_
    refine ExJ.thenN ?_
    refine CodeJ.ret ?_
    exact ExJ.ret1 Tryd.results31 rfl ⟨p, c, rfl, rfl⟩ fun w hI => hI

/-- a record, as the reference has it -/
def specRec (kind : Int) (r : RecD) (pv : Value) : RecD := { r with kind := kind, pairsV := pv }
theorem PairD.ones {w : World} {a : PairD} (h : Bytes w a.dataV a.data) : ∀ u ∈ a.cells, u.oneCell' = true := by
  intro u hu
  obtain ⟨p, c, hs⟩ := h.shape
  simp [PairD.cells] at hu
  rcases hu with rfl | rfl
  · rfl
  · rw [hs]; rfl
theorem PairD.oneB {w : World} {a : PairD} (h : Bytes w a.dataV a.data) : oneCells (Value.agg a.cells.toArray).cells.toList = true := List.all_eq_true.2 (PairD.ones h)

theorem specRecord_spec (r : RecD) (kind : Int) (hn : r.pairs.length * 32 ≤ 140737488351232) :
    Spec Tryd.prog 52 [.agg r.cells.toArray, .int .i64 kind] [] (fun w => RecOk w r) (fun x H' => ∃ p c, x = .agg (specRec kind r (.slice p r.pairs.length c)).cells.toArray ∧ H' = [ownL 134 2 PairD.cells (.slice p r.pairs.length c) r.pairs]) := by
  refine Spec.of Tryd.func52 rfl Tryd.ntmps52 rfl fun w0 hR => ?_
  obtain ⟨hdata, htexts, hpairs, hpdata⟩ := hR
  obtain ⟨nm, typ, cls, ttl, len, kd, dataV, data, host, box, n1, n2, n3, n4, n5, textsV, texts, pairsV, qs⟩ := r
  simp only at hdata htexts hpairs hpdata hn
  obtain ⟨pa, ca, rfl⟩ := hpairs.shape
  obtain ⟨pd, cd, rfl⟩ := hdata.shape
  obtain ⟨pt, ct, rfl⟩ := htexts.shape
  refine CodeJ.seq ?_
  refine CodeJ.region ?_
  refine OpsJ.op rfl ?_
  refine OpJ.box rfl rfl rfl rfl fun rb hrb => ?_
  refine OpsJ.op rfl ?_
  refine OpJ.alloc rfl rfl rfl zero_74 fun res hres => ?_
  refine OpsJ.nil ?_
  refine ExJ.thenN ?_
  refine CodeJ.seq ?_
  refine CodeJ.region ?_
  refine OpsJ.op rfl ?_
  refine OpJ.buildSlice (xs := []) elt_72 rfl rfl rfl rfl rfl rfl (by rfl) (by decide) fun out hout => ?_
  refine OpsJ.yld rfl rfl rfl (Yld.assign rfl rfl) ?_
  refine OpsJ.nil ?_
  refine ExJ.thenN ?_
  refine CodeJ.seq ?_
  refine CodeJ.seq ?_
  refine CodeJ.region ?_
  refine OpsJ.yld rfl rfl rfl (Yld.fieldAddr fa_47_15 rfl rfl) ?_
  refine OpsJ.yld rfl rfl rfl (Yld.load1 rfl Tryd.underlying45 rfl rfl (fun w hI => Inv.cell1 hI (i := 2) rfl rfl)) ?_
  refine OpsJ.yld rfl rfl rfl (Yld.lenSlice rfl rfl rfl Tryd.underlying45 rfl) ?_
  refine OpsJ.yld rfl rfl rfl (Yld.move rfl rfl) ?_
  refine OpsJ.nil ?_
  refine ExJ.thenN ?_
  refine CodeJ.block ?_
  refine CodeJ.loopP (fun L H m => ∃ (k : Nat) (p : Option Addr) (c : Nat) (ss : List PairD), k ≤ qs.length ∧ ss = qs.take k ∧ L = [(1, .int .i64 kind), (2, .pointer (some ⟨rb, 0, none⟩)), (4, .pointer (some ⟨res, 0, none⟩)), (5, .slice p ss.length c), (10, .slice pa qs.length ca), (11, .int .i64 qs.length), (12, .int .i64 k)] ∧
  H = [ownL 134 2 PairD.cells (.slice p ss.length c) ss, .blk res (#[.string ByteArray.empty, .int .u16 0, .int .u16 0, .int .u32 0, .int .u16 0, .int .i64 0, .slice none 0 0, .string ByteArray.empty, .string ByteArray.empty, .int .u32 0, .int .u32 0, .int .u32 0, .int .u32 0, .int .u32 0, .slice none 0 0, .slice none 0 0] : Array Value) 74, .blk rb (RecD.cells ⟨nm, typ, cls, ttl, len, kd, .slice pd data.length cd, data, host, box, n1, n2, n3, n4, n5, .slice pt texts.length ct, texts, .slice pa qs.length ca, qs⟩).toArray 47] ∧ m = qs.length - k) ⟨0, some ⟨out, 0, none⟩, 0, [], Nat.zero_le _, rfl, rfl, rfl, rfl⟩ ⟨rfl, rfl, rfl, rfl, rfl, rfl, rfl, trivial⟩ (fun w hI => hI.pick (is := [0, 1, 2]) (by decide) rfl) ?_
  rintro _ _ _ ⟨k, p, c, ss, hk, hss, rfl, rfl, rfl⟩
  refine CodeJ.seq ?_
  refine CodeJ.region ?_
  refine OpsJ.yld rfl rfl rfl (Yld.intBin rfl rfl rfl rfl) ?_
  refine OpsJ.nil ?_
  refine ExJ.thenN ?_
  refine CodeJ.seq ?_
  refine CodeJ.condP rfl (fun c13 => ?_) (fun c13 => ?_)
  · have hk' : k < qs.length := by omega
    obtain ⟨x, hx⟩ : ∃ x, qs[k]? = some x := ⟨qs[k], List.getElem?_eq_getElem hk'⟩
    obtain ⟨b, off, c', hpv, hcell⟩ := Row.at hpairs (by simp [PairD.cells]) (by simp) hk'
    simp only [Value.slice.injEq] at hpv
    obtain ⟨rfl, _, rfl⟩ := hpv
    have hcx := hcell x.cells (by simp [hx])
    have hsl : ss.length = k := by rw [hss, List.length_take]; omega
    have hxb := hpdata x (List.mem_of_getElem? hx)
    refine CodeJ.skip ?_
    refine ExJ.thenN ?_
    refine CodeJ.seq ?_
    refine CodeJ.block ?_
    refine CodeJ.seq ?_
    refine CodeJ.region ?_
    refine OpsJ.yld rfl rfl rfl (Yld.indexAddr rfl Tryd.underlying45 sz_133 rfl rfl hk') ?_
    refine OpsJ.yld rfl rfl rfl (Yld.loadN (vs := x.cells) rfl Tryd.underlying133 rfl sz_133 rfl (fun w hI => hI.old hcx (by simp [fp]))) ?_
    refine OpsJ.op rfl ?_
    refine OpJ.alloc rfl rfl rfl zero_133 fun ab hab => ?_
    refine OpsJ.op rfl ?_
    refine OpJ.storeW (i := 0) rfl rfl rfl rfl sz_133 rfl (PairD.oneB hxb) rfl ?_
    refine OpsJ.nil ?_
    refine ExJ.thenN ?_
    refine CodeJ.region ?_
    refine OpsJ.yld rfl rfl rfl (Yld.move rfl rfl) ?_
    refine OpsJ.yld rfl rfl rfl (Yld.loadN (vs := x.cells) rfl Tryd.underlying133 rfl sz_133 rfl (fun w hI => Inv.whole hI (i := 0) rfl)) ?_
    refine OpsJ.op rfl ?_
    refine OpJ.buildSlice (xs := [.tmp 17]) elt_72 rfl rfl rfl rfl rfl rfl (by rfl) (by decide) fun one hone => ?_
    refine OpsJ.op rfl ?_
    refine OpJ.appendL (cells := PairD.cells) (i := 2) (news := x) elt_72 rfl rfl rfl rfl rfl rfl (fun w hI => Inv.src hI (i := 0) rfl Tryd.underlying72 (PairD.ones hxb)) (by omega) fun p19 c19 => ?_
    refine OpsJ.yld rfl rfl rfl (Yld.assign rfl rfl) ?_
    refine OpsJ.nil ?_
    refine ExJ.blockN ?_
    refine ExJ.thenN ?_
    refine CodeJ.region ?_
    refine OpsJ.yld rfl rfl rfl (Yld.intBin rfl rfl rfl rfl) ?_
    rw [i64_succ k (by omega)]
    refine OpsJ.yld rfl rfl rfl (Yld.move rfl rfl) ?_
    refine OpsJ.nil ?_
    exact ExJ.againP ⟨k + 1, p19, c19, ss ++ [x], by omega, by rw [hss, take_snoc _ _ _ hx], rfl, rfl, rfl⟩ (by omega) ⟨rfl, rfl, rfl, rfl, rfl, rfl, rfl, trivial⟩ fun w hI => hI.pick (is := [2, 3, 4]) (by decide) rfl
  · obtain rfl : k = qs.length := by omega
    rw [List.take_length] at hss
    subst hss
    refine CodeJ.exit ?_
    refine ExJ.thenX ?_
    refine ExJ.thenX ?_
    refine ExJ.blockHit ?_
    refine ExJ.thenN ?_
    refine CodeJ.seq ?_
    refine CodeJ.region ?_
    refine OpsJ.yld rfl rfl rfl (Yld.fieldAddr fa_47_0 rfl rfl) ?_
    refine OpsJ.yld rfl rfl rfl (Yld.load1 rfl Tryd.underlying9 rfl rfl (fun w hI => Inv.cell1 hI (i := 2) rfl rfl)) ?_
    refine OpsJ.yld rfl rfl rfl (Yld.fieldAddr fa_47_1 rfl rfl) ?_
    refine OpsJ.yld rfl rfl rfl (Yld.load1 rfl Tryd.underlying22 rfl rfl (fun w hI => Inv.cell1 hI (i := 2) rfl rfl)) ?_
    refine OpsJ.yld rfl rfl rfl (Yld.fieldAddr fa_47_2 rfl rfl) ?_
    refine OpsJ.yld rfl rfl rfl (Yld.load1 rfl Tryd.underlying22 rfl rfl (fun w hI => Inv.cell1 hI (i := 2) rfl rfl)) ?_
    refine OpsJ.yld rfl rfl rfl (Yld.fieldAddr fa_47_3 rfl rfl) ?_
    refine OpsJ.yld rfl rfl rfl (Yld.load1 rfl Tryd.underlying43 rfl rfl (fun w hI => Inv.cell1 hI (i := 2) rfl rfl)) ?_
    refine OpsJ.yld rfl rfl rfl (Yld.fieldAddr fa_47_4 rfl rfl) ?_
    refine OpsJ.yld rfl rfl rfl (Yld.load1 rfl Tryd.underlying22 rfl rfl (fun w hI => Inv.cell1 hI (i := 2) rfl rfl)) ?_
    refine OpsJ.yld rfl rfl rfl (Yld.move rfl rfl) ?_
    refine OpsJ.yld rfl rfl rfl (Yld.fieldAddr fa_47_6 rfl rfl) ?_
    refine OpsJ.yld rfl rfl rfl (Yld.load1 rfl Tryd.underlying29 rfl rfl (fun w hI => Inv.cell1 hI (i := 2) rfl rfl)) ?_
    refine OpsJ.yld rfl rfl rfl (Yld.fieldAddr fa_47_7 rfl rfl) ?_
    refine OpsJ.yld rfl rfl rfl (Yld.load1 rfl Tryd.underlying9 rfl rfl (fun w hI => Inv.cell1 hI (i := 2) rfl rfl)) ?_
    refine OpsJ.yld rfl rfl rfl (Yld.fieldAddr fa_47_8 rfl rfl) ?_
    refine OpsJ.yld rfl rfl rfl (Yld.load1 rfl Tryd.underlying9 rfl rfl (fun w hI => Inv.cell1 hI (i := 2) rfl rfl)) ?_
    refine OpsJ.yld rfl rfl rfl (Yld.fieldAddr fa_47_9 rfl rfl) ?_
    refine OpsJ.yld rfl rfl rfl (Yld.load1 rfl Tryd.underlying43 rfl rfl (fun w hI => Inv.cell1 hI (i := 2) rfl rfl)) ?_
    refine OpsJ.yld rfl rfl rfl (Yld.fieldAddr fa_47_10 rfl rfl) ?_
    refine OpsJ.yld rfl rfl rfl (Yld.load1 rfl Tryd.underlying43 rfl rfl (fun w hI => Inv.cell1 hI (i := 2) rfl rfl)) ?_
    refine OpsJ.yld rfl rfl rfl (Yld.fieldAddr fa_47_11 rfl rfl) ?_
    refine OpsJ.yld rfl rfl rfl (Yld.load1 rfl Tryd.underlying43 rfl rfl (fun w hI => Inv.cell1 hI (i := 2) rfl rfl)) ?_
    refine OpsJ.yld rfl rfl rfl (Yld.fieldAddr fa_47_12 rfl rfl) ?_
    refine OpsJ.yld rfl rfl rfl (Yld.load1 rfl Tryd.underlying43 rfl rfl (fun w hI => Inv.cell1 hI (i := 2) rfl rfl)) ?_
    refine OpsJ.yld rfl rfl rfl (Yld.fieldAddr fa_47_13 rfl rfl) ?_
    refine OpsJ.yld rfl rfl rfl (Yld.load1 rfl Tryd.underlying43 rfl rfl (fun w hI => Inv.cell1 hI (i := 2) rfl rfl)) ?_
    refine OpsJ.yld rfl rfl rfl (Yld.fieldAddr fa_47_14 rfl rfl) ?_
    refine OpsJ.yld rfl rfl rfl (Yld.load1 rfl Tryd.underlying44 rfl rfl (fun w hI => Inv.cell1 hI (i := 2) rfl rfl)) ?_
    refine OpsJ.yld rfl rfl rfl (Yld.move rfl rfl) ?_
    refine OpsJ.yld rfl rfl rfl (Yld.buildAll places_74 zero_74 rfl rfl ⟨rfl, rfl, rfl, rfl, rfl, rfl, rfl, rfl, rfl, rfl, rfl, rfl, rfl, rfl, rfl, rfl, trivial⟩ rfl) ?_
    refine OpsJ.op rfl ?_
    refine OpJ.storeW (i := 1) rfl rfl rfl rfl sz_74 rfl rfl rfl ?_
    refine OpsJ.nil ?_
    refine ExJ.thenN ?_
    refine CodeJ.ret ?_
    exact ExJ.retC (vs := (specRec kind ⟨nm, typ, cls, ttl, len, kd, .slice pd data.length cd, data, host, box, n1, n2, n3, n4, n5, .slice pt texts.length ct, texts, .slice pa ss.length ca, ss⟩ (.slice p ss.length c)).cells) Tryd.results52 rfl Tryd.underlying74 rfl sz_74 (fun w hI => Inv.whole hI (i := 1) rfl) ⟨p, c, rfl, rfl⟩ fun w hI => hI.pick (is := [0]) (by decide) rfl

/-- records, as the reference has them -/
def SpecOf (kind : Int) : List RecD → List RecD → Prop
  | [], [] => True
  | r :: rs, r' :: rs' => (∃ p c, r' = specRec kind r (.slice p r.pairs.length c)) ∧ SpecOf kind rs rs'
  | _, _ => False
theorem SpecOf.len {kind : Int} : ∀ {rs rs' : List RecD}, SpecOf kind rs rs' → rs'.length = rs.length
  | [], [], _ => rfl
  | _ :: _, _ :: _, h => by simp [SpecOf.len h.2]
  | [], _ :: _, h => h.elim
  | _ :: _, [], h => h.elim
theorem SpecOf.snoc {kind : Int} : ∀ {rs rs' : List RecD} {r : RecD} {p : Option Addr} {c : Nat}, SpecOf kind rs rs' → SpecOf kind (rs ++ [r]) (rs' ++ [specRec kind r (.slice p r.pairs.length c)])
  | [], [], _, p, c, _ => ⟨⟨p, c, rfl⟩, trivial⟩
  | _ :: _, _ :: _, _, _, _, h => ⟨h.1, SpecOf.snoc h.2⟩
  | [], _ :: _, _, _, _, h => h.elim
  | _ :: _, [], _, _, _, h => h.elim
theorem SpecOf.from_ {kind : Int} : ∀ {rs rs' : List RecD}, SpecOf kind rs rs' → ∀ r' ∈ rs', ∃ r ∈ rs, ∃ p c, r' = specRec kind r (.slice p r.pairs.length c)
  | [], [], _, r', h => by cases h
  | r :: rs, r0 :: rs', h, r', hr => by
    rcases List.mem_cons.1 hr with rfl | hr
    · obtain ⟨p, c, e⟩ := h.1
      exact ⟨r, by simp, p, c, e⟩
    · obtain ⟨x, hx, e⟩ := SpecOf.from_ h.2 r' hr
      exact ⟨x, by simp [hx], e⟩
  | [], _ :: _, h, _, _ => h.elim
  | _ :: _, [], h, _, _ => h.elim
theorem SpecOf.map {kind : Int} {β : Type} (f : RecD → β) (hf : ∀ r pv, f (specRec kind r pv) = f r) : ∀ {rs rs' : List RecD}, SpecOf kind rs rs' → rs'.map f = rs.map f
  | [], [], _ => rfl
  | _ :: _, _ :: _, h => by
    obtain ⟨p, c, e⟩ := h.1
    simp [SpecOf.map f hf h.2, e, hf]
  | [], _ :: _, h => h.elim
  | _ :: _, [], h => h.elim
/-- the records' own memory -/
def SRecs (v : Value) (rs : List RecD) (w : World) : Prop := Row w 16 v rs.length (rs.map RecD.cells).flatten ∧ ∀ r ∈ rs, Pairs w r.pairsV r.pairs
theorem SRecs.recs {kind : Int} {v : Value} {rs rs' : List RecD} {w : World} (h : SRecs v rs' w) (hs : SpecOf kind rs rs') (ho : ∀ r ∈ rs, RecOk w r) : Recs w v rs' := by
  refine ⟨h.1, fun r' hr' => ?_⟩
  obtain ⟨r, hr, p, c, rfl⟩ := hs.from_ r' hr'
  have := ho r hr
  exact ⟨this.data, this.texts, h.2 _ hr', this.pdata⟩
theorem RecD.ones {w : World} {r : RecD} (h : RecOk w r) : ∀ u ∈ r.cells, u.oneCell' = true := fun u hu => List.all_eq_true.1 h.one u hu

theorem specRecords_spec (rs : List RecD) (kind : Int) (v : Value) (hn : rs.length * 168 ≤ 140737488351232) (hp : ∀ r ∈ rs, r.pairs.length * 32 ≤ 140737488351232) :
    Spec Tryd.prog 32 [v, .int .i64 kind] [] (fun w => Recs w v rs) (fun x H' => ∃ p c rs' q bs hq, x = .slice p rs.length c ∧ SpecOf kind rs rs' ∧ (∀ w, q w → SRecs x rs' w) ∧ H' = [.ro q bs hq]) := by
  refine Spec.of Tryd.func32 rfl Tryd.ntmps32 rfl fun w0 hR => ?_
  obtain ⟨hrow, hrec⟩ := hR
  obtain ⟨pa, ca, rfl⟩ := hrow.shape
  refine CodeJ.seq ?_
  refine CodeJ.region ?_
  refine OpsJ.yld rfl rfl rfl (Yld.assign rfl rfl) ?_
  refine OpsJ.nil ?_
  refine ExJ.thenN ?_
  refine CodeJ.seq ?_
  refine CodeJ.region ?_
  refine OpsJ.op rfl ?_
  refine OpJ.buildSlice (xs := []) elt_53 rfl rfl rfl rfl rfl rfl (by rfl) (by decide) fun out hout => ?_
  refine OpsJ.yld rfl rfl rfl (Yld.assign rfl rfl) ?_
  refine OpsJ.nil ?_
  refine ExJ.thenN ?_
  refine CodeJ.seq ?_
  refine CodeJ.seq ?_
  refine CodeJ.region ?_
  refine OpsJ.yld rfl rfl rfl (Yld.move rfl rfl) ?_
  refine OpsJ.yld rfl rfl rfl (Yld.lenSlice rfl rfl rfl Tryd.underlying64 rfl) ?_
  refine OpsJ.yld rfl rfl rfl (Yld.move rfl rfl) ?_
  refine OpsJ.nil ?_
  refine ExJ.thenN ?_
  refine CodeJ.block ?_
  refine CodeJ.loopP (fun L H m => ∃ (k : Nat) (p : Option Addr) (c : Nat) (ss : List RecD) (q : World → Prop) (bs : List Nat) (hq : ∀ w w' : World, (∀ b ∈ bs, w'.heap[b]? = w.heap[b]?) → q w → q w'), k ≤ rs.length ∧ SpecOf kind (rs.take k) ss ∧ (∀ w, q w → ∀ r ∈ ss, Pairs w r.pairsV r.pairs) ∧
  L = [(1, .int .i64 kind), (5, .slice p ss.length c), (9, .slice pa rs.length ca), (10, .int .i64 rs.length), (11, .int .i64 k)] ∧ H = [ownL 74 16 RecD.cells (.slice p ss.length c) ss, .ro q bs hq] ∧ m = rs.length - k) ⟨0, some ⟨out, 0, none⟩, 0, [], fun _ => True, [], fun _ _ _ _ => trivial, Nat.zero_le _, trivial, fun _ _ r hr => (by cases hr), rfl, rfl, rfl⟩ ⟨rfl, rfl, rfl, rfl, rfl, trivial⟩ (fun w hI => (hI.roNil fun _ => trivial).pick (is := [1, 0]) (by decide) rfl) ?_
  rintro _ _ _ ⟨k, p, c, ss, q, bs, hq, hk, hss, hqs, rfl, rfl, rfl⟩
  refine CodeJ.seq ?_
  refine CodeJ.region ?_
  refine OpsJ.yld rfl rfl rfl (Yld.intBin rfl rfl rfl rfl) ?_
  refine OpsJ.nil ?_
  refine ExJ.thenN ?_
  refine CodeJ.seq ?_
  refine CodeJ.condP rfl (fun c12 => ?_) (fun c12 => ?_)
  · have hk' : k < rs.length := by omega
    obtain ⟨x, hx⟩ : ∃ x, rs[k]? = some x := ⟨rs[k], List.getElem?_eq_getElem hk'⟩
    obtain ⟨b, off, c', hpv, hcell⟩ := Row.at hrow (by simp [RecD.cells]) (by simp) hk'
    simp only [Value.slice.injEq] at hpv
    obtain ⟨rfl, _, rfl⟩ := hpv
    have hcx := hcell x.cells (by simp [hx])
    have hsl : ss.length = k := by rw [hss.len, List.length_take]; omega
    have hxr := hrec x (List.mem_of_getElem? hx)
    refine CodeJ.skip ?_
    refine ExJ.thenN ?_
    refine CodeJ.seq ?_
    refine CodeJ.block ?_
    refine CodeJ.seq ?_
    refine CodeJ.region ?_
    refine OpsJ.yld rfl rfl rfl (Yld.indexAddr rfl Tryd.underlying64 sz_47 rfl rfl hk') ?_
    refine OpsJ.yld rfl rfl rfl (Yld.loadN (vs := x.cells) rfl Tryd.underlying47 rfl sz_47 rfl (fun w hI => hI.old hcx (by simp [fp]))) ?_
    refine OpsJ.op rfl ?_
    refine OpJ.alloc rfl rfl rfl zero_47 fun ab hab => ?_
    refine OpsJ.op rfl ?_
    refine OpJ.storeW (i := 0) rfl rfl rfl rfl sz_47 rfl hxr.one rfl ?_
    refine OpsJ.nil ?_
    refine ExJ.thenN ?_
    refine CodeJ.region ?_
    refine OpsJ.yld rfl rfl rfl (Yld.move rfl rfl) ?_
    refine OpsJ.yld rfl rfl rfl (Yld.loadN (vs := x.cells) rfl Tryd.underlying47 rfl sz_47 rfl (fun w hI => Inv.whole hI (i := 0) rfl)) ?_
    refine OpsJ.yld rfl rfl rfl (Yld.move rfl rfl) ?_
    refine OpsJ.op rfl ?_
    refine OpJ.call (specRecord_spec x kind (hp x (List.mem_of_getElem? hx))) has_52 rfl rfl rfl rfl rfl [] [0, 1, 2] (by decide) rfl rfl (fun w hI => hxr.keep0 hI.keep) ?_
    rintro _ _ ⟨p18, c18, rfl, rfl⟩
    have hq2 : ∀ w, (ownL 134 2 PairD.cells (.slice p18 x.pairs.length c18) x.pairs).holds w ∧ (Res.ro q bs hq).holds w → ∀ r ∈ ss ++ [specRec kind x (.slice p18 x.pairs.length c18)], Pairs w r.pairsV r.pairs := by
      intro w hw r hr
      rcases List.mem_append.1 hr with h | h
      · exact hqs w hw.2.1 r h
      · simp at h
        subst h
        exact Own.row hw.1.1
    have hones : ∀ u ∈ (specRec kind x (.slice p18 x.pairs.length c18)).cells, u.oneCell' = true := by
      obtain ⟨q1, d1, e1⟩ := hxr.data.shape
      obtain ⟨q2, d2, e2⟩ := hxr.texts.shape
      intro u hu
      simp only [specRec, RecD.cells, e1, e2, List.mem_cons, List.not_mem_nil, or_false] at hu
      rcases hu with rfl | rfl | rfl | rfl | rfl | rfl | rfl | rfl | rfl | rfl | rfl | rfl | rfl | rfl | rfl | rfl <;> rfl
    refine OpsJ.op rfl ?_
    refine OpJ.buildSlice (xs := [.tmp 18]) elt_53 rfl rfl rfl rfl rfl rfl (by rfl) (by decide) fun one hone => ?_
    refine OpsJ.op rfl ?_
    refine OpJ.appendL (cells := RecD.cells) (i := 3) (news := specRec kind x (.slice p18 x.pairs.length c18)) elt_53 rfl rfl rfl rfl rfl rfl (fun w hI => Inv.src hI (i := 0) rfl Tryd.underlying53 hones) (by omega) fun p20 c20 => ?_
    refine OpsJ.yld rfl rfl rfl (Yld.assign rfl rfl) ?_
    refine OpsJ.nil ?_
    refine ExJ.blockN ?_
    refine ExJ.thenN ?_
    refine CodeJ.region ?_
    refine OpsJ.yld rfl rfl rfl (Yld.intBin rfl rfl rfl rfl) ?_
    rw [i64_succ k (by omega)]
    refine OpsJ.yld rfl rfl rfl (Yld.move rfl rfl) ?_
    refine OpsJ.nil ?_
    exact ExJ.againP ⟨k + 1, p20, c20, ss ++ [specRec kind x (.slice p18 x.pairs.length c18)], _, _, _, by omega, by rw [take_snoc _ _ _ hx]; exact hss.snoc, hq2, rfl, rfl, rfl⟩ (by omega) ⟨rfl, rfl, rfl, rfl, rfl, trivial⟩ fun w hI => (Inv.join (hI.pick (is := [1, 4, 3]) (by decide) rfl)).pick (is := [1, 0]) (by decide) rfl
  · obtain rfl : k = rs.length := by omega
    rw [List.take_length] at hss
    have hsl := hss.len
    refine CodeJ.exit ?_
    refine ExJ.thenX ?_
    refine ExJ.thenX ?_
    refine ExJ.blockHit ?_
    refine ExJ.thenN ?_
    refine CodeJ.seq ?_
    refine CodeJ.region ?_
    refine OpsJ.yld rfl rfl rfl (Yld.move rfl rfl) ?_
    refine OpsJ.yld rfl rfl rfl (Yld.assign rfl rfl) ?_
    refine OpsJ.nil ?_
    refine ExJ.thenN ?_
    refine CodeJ.ret ?_
    refine ExJ.ret1 Tryd.results32 rfl ⟨p, c, ss, _, _, _, by rw [hsl], hss, ?_, rfl⟩ fun w hI => hI.join
    intro w hw
    exact ⟨Own.row hw.1.1, hqs w hw.2.1⟩
end Go.Proofs.YtdiememgbnplkaaDoor
