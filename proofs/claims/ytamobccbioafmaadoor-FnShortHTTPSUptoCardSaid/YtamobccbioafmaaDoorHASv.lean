/-
  Contracts of the package and of impl: SVCB and HTTPS records.
-/
import Derived.Test.YtamobccbioafmaaDoorHSvL
namespace Go.Proofs.YtamobccbioafmaaDoor
open Go
set_option maxRecDepth 100000

theorem build_parm {o : Oper} {n : Nat} {L : List (Nat × Value)} {I : World → Prop} {parts : Array (Nat × Operand)} (a : PairD) (ho : o.op = .build 167 parts) (hv : evp L parts.toList = some [(0, .int .u16 (a.key : Nat)), (1, a.dataV)]) (hc : a.dataV.cells = #[a.dataV]) : Yld Tryd.prog o n L I (.agg a.cells.toArray) :=
  Yld.build places_167 zero_167 ho hv (by
    simp only [Instr.fill, hc]
    rfl)
theorem paramsOf_spec (v : Value) (ps : List PairD) (hn : ps.length * 32 ≤ 140737488351232) (hd : ∀ p ∈ ps, p.data.length ≤ 140737488351232) : Spec Tryd.prog 74 [v] [] (fun w => PairsB w v ps)
    (fun y H' => ∃ pv cv ss q bsq hqq, y = .slice pv ss.length cv ∧ H' = [.ro q bsq hqq] ∧ (∀ w, q w → PairsB w (.slice pv ss.length cv) ss) ∧ ss.map PairD.kd = ps.map PairD.kd) := by
  refine Spec.of Tryd.func74 rfl Tryd.ntmps74 rfl fun w0 hpb => ?_
  obtain ⟨hrow, hdat⟩ := hpb
  obtain ⟨pa, ca, rfl⟩ := Row.shape hrow
  refine CodeJ.turnH (fun w hI => hI.roNil (p := fun _ => True) (fun _ => trivial)) ?_
  refine CodeJ.seq ?_
  refine CodeJ.region ?_
  refine OpsJ.yld rfl rfl rfl (Yld.assign rfl rfl) ?_
  refine OpsJ.nil ?_
  refine ExJ.thenN ?_
  refine CodeJ.seq ?_
  refine CodeJ.region ?_
  refine OpsJ.op rfl ?_
  refine OpJ.buildSlice (xs := []) elt_71 rfl rfl rfl rfl rfl rfl (by rfl) (by decide) fun acc hacc => ?_
  refine OpsJ.yld rfl rfl rfl (Yld.assign rfl rfl) ?_
  refine OpsJ.nil ?_
  refine ExJ.thenN ?_
  refine CodeJ.seq ?_
  refine CodeJ.seq ?_
  refine CodeJ.region ?_
  refine OpsJ.yld rfl rfl rfl (Yld.move rfl rfl) ?_
  refine OpsJ.yld rfl rfl rfl (Yld.lenSlice rfl rfl rfl Tryd.underlying33 rfl) ?_
  refine OpsJ.yld rfl rfl rfl (Yld.move rfl rfl) ?_
  refine OpsJ.nil ?_
  refine ExJ.thenN ?_
  refine CodeJ.block ?_
  refine CodeJ.loopP (fun L H m => ∃ (k : Nat) (p : Option Addr) (c' : Nat) (ss : List PairD) (q : World → Prop) (bs : List Nat) (hq : ∀ w w' : World, (∀ b ∈ bs, w'.heap[b]? = w.heap[b]?) → q w → q w'), k ≤ ps.length ∧ ss.map PairD.kd = (ps.take k).map PairD.kd ∧ (∀ w, q w → ∀ y ∈ ss, Bytes w y.dataV y.data) ∧
  L = [(3, .slice p ss.length c'), (7, .slice pa ps.length ca), (8, .int .i64 ps.length), (9, .int .i64 k)] ∧ H = [ownL 167 2 PairD.cells (.slice p ss.length c') ss, .ro q bs hq] ∧ m = ps.length - k) ⟨0, some ⟨acc, 0, none⟩, 0, [], fun _ => True, [], fun _ _ _ _ => trivial, Nat.zero_le _, rfl, fun _ _ r hr => (by cases hr), rfl, rfl, rfl⟩ ⟨rfl, rfl, rfl, rfl, trivial⟩ (fun w hI => hI) ?_
  rintro _ _ _ ⟨k, p, c', ss, q, bs, hq, hk, hkd, hqs, rfl, rfl, rfl⟩
  refine CodeJ.seq ?_
  refine CodeJ.region ?_
  refine OpsJ.yld rfl rfl rfl (Yld.intBin rfl rfl rfl rfl) ?_
  refine OpsJ.nil ?_
  refine ExJ.thenN ?_
  refine CodeJ.seq ?_
  refine CodeJ.condP rfl (fun c10 => ?_) (fun c10 => ?_)
  · have hk' : k < ps.length := by omega
    obtain ⟨x, hx⟩ : ∃ x, ps[k]? = some x := ⟨ps[k], List.getElem?_eq_getElem hk'⟩
    obtain ⟨b, off, c2, hpv, hcell⟩ := Row.at hrow (by simp [PairD.cells]) (by simp) hk'
    simp only [Value.slice.injEq] at hpv
    obtain ⟨rfl, _, rfl⟩ := hpv
    have hcx := hcell x.cells (by simp [hx])
    have hxb := hdat x (List.mem_of_getElem? hx)
    have hxl := hd x (List.mem_of_getElem? hx)
    have hsl : ss.length = k := by
      have := congrArg List.length hkd
      simp only [List.length_map, List.length_take] at this
      omega
    obtain ⟨pd, cd, hsd⟩ := hxb.shape
    obtain ⟨key, dv, data⟩ := x
    simp only at hsd hxb hxl
    subst hsd
    refine CodeJ.skip ?_
    refine ExJ.thenN ?_
    refine CodeJ.seq ?_
    refine CodeJ.block ?_
    refine CodeJ.seq ?_
    refine CodeJ.region ?_
    refine OpsJ.yld rfl rfl rfl (Yld.indexAddr rfl Tryd.underlying33 sz_160 rfl rfl hk') ?_
    refine OpsJ.yld rfl rfl rfl (Yld.loadN (vs := PairD.cells ⟨key, .slice pd data.length cd, data⟩) rfl Tryd.underlying160 rfl sz_160 rfl (fun w hI => hI.old hcx (by simp [fp]))) ?_
    refine OpsJ.op rfl ?_
    refine OpJ.alloc rfl rfl rfl zero_160 fun ab hab => ?_
    refine OpsJ.op rfl ?_
    refine OpJ.storeW (i := 0) rfl rfl rfl rfl sz_160 rfl (PairD.oneB hxb) rfl ?_
    refine OpsJ.nil ?_
    refine ExJ.thenN ?_
    refine CodeJ.any (fuel := 11) (listed := #[false, false, false, false, false, false, false, false, false, false, false]) [0] rfl follows_mixed rfl rfl ?_
    refine AnyJ.take (fuel := 10) (listed' := #[true, false, false, false, false, false, false, false, false, false, false]) 0 rfl (by kernel_rfl) (by kernel_rfl) (by kernel_rfl) rfl rfl rfl rfl (Yld.move rfl rfl) (fun w hI => hI.pick (is := [0]) (by decide) rfl) ?_
    refine AnyJ.take (fuel := 9) (listed' := #[true, true, false, false, false, false, false, false, false, false, false]) 1 rfl (by kernel_rfl) (by kernel_rfl) (by kernel_rfl) rfl rfl rfl rfl (Yld.fieldAddr fa_160_0 rfl rfl) (fun w hI => hI.pick (is := [0]) (by decide) rfl) ?_
    refine AnyJ.take (fuel := 8) (listed' := #[true, true, true, false, false, false, false, false, false, false, false]) 2 rfl (by kernel_rfl) (by kernel_rfl) (by kernel_rfl) rfl rfl rfl rfl (Yld.load1 rfl Tryd.underlying22 rfl rfl (fun w hI => Inv.cell1 hI (i := 0) rfl rfl)) (fun w hI => hI.pick (is := [0]) (by decide) rfl) ?_
    refine AnyJ.take (fuel := 7) (listed' := #[true, true, true, false, true, false, false, false, false, false, false]) 4 rfl (by kernel_rfl) (by kernel_rfl) (by kernel_rfl) rfl rfl rfl rfl (Yld.fieldAddr fa_160_1 rfl rfl) (fun w hI => hI.pick (is := [0]) (by decide) rfl) ?_
    refine AnyJ.take (fuel := 6) (listed' := #[true, true, true, false, true, true, false, false, false, false, false]) 5 rfl (by kernel_rfl) (by kernel_rfl) (by kernel_rfl) rfl rfl rfl rfl (Yld.load1 rfl Tryd.underlying31 rfl rfl (fun w hI => Inv.cell1 hI (i := 0) rfl rfl)) (fun w hI => hI.pick (is := [0]) (by decide) rfl) ?_
    refine AnyJ.one (fuel := 5) 3 (by kernel_rfl) ?_
    refine StepJ.op (listed' := #[true, true, true, true, true, true, false, false, false, false, false]) rfl rfl rfl ?_
    refine OpJ.buildSlice (xs := []) elt_31 rfl rfl rfl rfl rfl rfl (by rfl) (by decide) fun dat hdat => ?_
    refine ⟨fun w hI => hI.pick (is := [1]) (by decide) rfl, ?_⟩
    refine AnyJ.one (fuel := 4) 6 (by kernel_rfl) ?_
    refine StepJ.op (listed' := #[true, true, true, true, true, true, true, false, false, false, false]) rfl rfl rfl ?_
    refine OpJ.appendO (bs := []) (i := 0) (news := data) elt_31 rfl rfl rfl rfl rfl rfl (fun w hI => Bytes.src (hxb.keep hI.keep (by simp [fp])) Tryd.underlying31) (by simp; omega) fun p19 c19 => ?_
    refine ⟨fun w hI => hI.pick (is := [1]) (by decide) rfl, ?_⟩
    simp only [List.nil_append]
    have hq2 : ∀ w, (ownB 5 (.slice p19 data.length c19) data).holds w ∧ (Res.ro q bs hq).holds w → ∀ y ∈ ss ++ [⟨key, .slice p19 data.length c19, data⟩], Bytes w y.dataV y.data := by
      intro w hw r hr
      rcases List.mem_append.1 hr with h | h
      · exact hqs w hw.2.1 r h
      · simp at h
        subst h
        exact Own.bytes hw.1.1
    refine AnyJ.take (fuel := 3) (listed' := #[true, true, true, true, true, true, true, true, false, false, false]) 7 rfl (by kernel_rfl) (by kernel_rfl) (by kernel_rfl) rfl rfl rfl rfl (build_parm ⟨key, .slice p19 data.length c19, data⟩ rfl rfl rfl) (fun w hI => hI.pick (is := [1]) (by decide) rfl) ?_
    refine AnyJ.one (fuel := 2) 8 (by kernel_rfl) ?_
    refine StepJ.op (listed' := #[true, true, true, true, true, true, true, true, true, false, false]) rfl rfl rfl ?_
    refine OpJ.buildSlice (xs := [.tmp 20]) elt_71 rfl rfl rfl rfl rfl rfl (by rfl) (by decide) fun one hone => ?_
    refine ⟨fun w hI => hI.pick (is := [2]) (by decide) rfl, ?_⟩
    refine AnyJ.one (fuel := 1) 9 (by kernel_rfl) ?_
    refine StepJ.op (listed' := #[true, true, true, true, true, true, true, true, true, true, false]) rfl rfl rfl ?_
    refine OpJ.appendL (cells := PairD.cells) (i := 3) (news := ⟨key, .slice p19 data.length c19, data⟩) elt_71 rfl rfl rfl rfl rfl rfl (fun w hI => Inv.src hI (i := 0) rfl Tryd.underlying71 (fun u hu => PairD.ones (Inv.bytes (k := 1) rfl w hI) u hu)) (by omega) fun p22 c22 => ?_
    refine ⟨fun w hI => hI.pick (is := [2]) (by decide) rfl, ?_⟩
    refine AnyJ.take (fuel := 0) (listed' := #[true, true, true, true, true, true, true, true, true, true, true]) 10 rfl (by kernel_rfl) (by kernel_rfl) (by kernel_rfl) rfl rfl rfl rfl (Yld.assign rfl rfl) (fun w hI => hI.pick (is := [2]) (by decide) rfl) ?_
    refine AnyJ.done (by kernel_rfl) ?_
    refine ExJ.blockN ?_
    refine ExJ.thenN ?_
    refine CodeJ.region ?_
    refine OpsJ.yld rfl rfl rfl (Yld.intBin rfl rfl rfl rfl) ?_
    rw [i64_succ k (by omega)]
    refine OpsJ.yld rfl rfl rfl (Yld.move rfl rfl) ?_
    refine OpsJ.nil ?_
    exact ExJ.againP ⟨k + 1, p22, c22, ss ++ [⟨key, .slice p19 data.length c19, data⟩], _, _, _, by omega, by rw [take_snoc _ _ _ hx, List.map_append, List.map_append, hkd]; rfl, hq2, rfl, rfl, rfl⟩ (by omega) ⟨rfl, rfl, rfl, rfl, trivial⟩ fun w hI => by have hJ := (hI.pick (is := [1, 4, 3]) (by decide) rfl).join; exact hJ.pick (is := [1, 0]) (by decide) rfl
  · obtain rfl : k = ps.length := by omega
    rw [List.take_length] at hkd
    refine CodeJ.exit ?_
    refine ExJ.thenX ?_
    refine ExJ.thenX ?_
    refine ExJ.blockHit ?_
    refine ExJ.thenN ?_
    refine CodeJ.seq ?_
    refine CodeJ.region ?_
    refine OpsJ.yld rfl rfl rfl (Yld.move rfl rfl) ?_
    refine OpsJ.yld rfl rfl rfl (Yld.assign rfl rfl) ?_
    refine OpsJ.nil ?_
    refine ExJ.thenN ?_
    refine CodeJ.ret ?_
    refine ExJ.ret1 Tryd.results74 rfl ⟨p, c', ss, _, _, _, rfl, rfl, ?_, hkd⟩ fun w hI => (hI.pick (is := [0, 1]) (by decide) rfl).join
    intro w hw
    exact ⟨Own.row hw.1.1, hqs w hw.2.1⟩

/-- a number, a name, a value -/
def svCs (n : Nat) (l : List UInt8) (u : Value) : List Value := ([.int .u16 (n : Nat)] ++ nameCs l) ++ [u]
theorem svCs_len (n : Nat) (l : List UInt8) (u : Value) (h : l.length ≤ 255) : (svCs n l u).length = 258 := by simp [svCs, nameCs_len l h]
theorem svCs_one (n : Nat) (l : List UInt8) (p : Option Addr) (m c : Nat) : oneCells (svCs n l (.slice p m c)) = true := by
  have := nameCs_one l
  simp only [oneCells, svCs, List.all_append] at this ⊢
  rw [this]
  rfl
theorem svcbOf_spec (x : RecD) (hx : x.wf) : Spec Tryd.prog 41 [.agg x.cells.toArray] [] (fun w => RecOk w x) (fun y H' => ∃ pv cv ss q bsq hqq, y = .agg (svCs (x.n1 % 65536) (cut255 x.host) (.slice pv ss.length cv)).toArray ∧ H' = [.ro q bsq hqq] ∧ (∀ w, q w → PairsB w (.slice pv ss.length cv) ss) ∧ ss.map PairD.kd = x.pairs.map PairD.kd) := by
  refine Spec.of Tryd.func41 rfl Tryd.ntmps41 rfl fun w0 hok => ?_
  have hl := cut255_len x.host
  have hsz := nameCs_len (cut255 x.host) hl
  have hfl : ∀ (p : Option Addr) (m c : Nat), flat [.int .u16 ((x.n1 % 65536 : Nat) : Int), Value.agg (nameCs (cut255 x.host)).toArray, .slice p m c] = svCs (x.n1 % 65536) (cut255 x.host) (.slice p m c) := fun p m c => by simp [flat, Value.cells, svCs]
  have hq : ∀ u : Value, (svCs (x.n1 % 65536) (cut255 x.host) u).length = 258 := fun u => svCs_len _ _ _ hl
  refine CodeJ.seq ?_
  refine CodeJ.region ?_
  refine OpsJ.op rfl ?_
  refine OpJ.box rfl rfl rfl rfl fun ab hab => ?_
  refine OpsJ.op rfl ?_
  refine OpJ.alloc rfl rfl rfl zero_73 fun res hres => ?_
  refine OpsJ.nil ?_
  refine ExJ.thenN ?_
  refine CodeJ.seq ?_
  refine CodeJ.any (fuel := 11) (listed := #[false, false, false, false, false, false, false, false, false, false, false]) [1] rfl follows_mixed rfl rfl ?_
  refine AnyJ.take (fuel := 10) (listed' := #[true, false, false, false, false, false, false, false, false, false, false]) 0 rfl (by kernel_rfl) (by kernel_rfl) (by kernel_rfl) rfl rfl rfl rfl (Yld.fieldAddr fa_35_9 rfl rfl) (fun w hI => hI.pick (is := [1]) (by decide) rfl) ?_
  refine AnyJ.take (fuel := 9) (listed' := #[true, true, false, false, false, false, false, false, false, false, false]) 1 rfl (by kernel_rfl) (by kernel_rfl) (by kernel_rfl) rfl rfl rfl rfl (Yld.load1 rfl Tryd.underlying30 rfl rfl (fun w hI => Inv.cell1 hI (i := 0) rfl rfl)) (fun w hI => hI.pick (is := [1]) (by decide) rfl) ?_
  refine AnyJ.take (fuel := 8) (listed' := #[true, true, true, false, false, false, false, false, false, false, false]) 2 rfl (by kernel_rfl) (by kernel_rfl) (by kernel_rfl) rfl rfl rfl rfl (Yld.convInt rfl Tryd.underlying30 Tryd.underlying22 rfl) (fun w hI => hI.pick (is := [1]) (by decide) rfl) ?_
  rw [u16_wrap]
  refine AnyJ.take (fuel := 7) (listed' := #[true, true, true, true, false, false, false, false, false, false, false]) 3 rfl (by kernel_rfl) (by kernel_rfl) (by kernel_rfl) rfl rfl rfl rfl (Yld.fieldAddr fa_35_7 rfl rfl) (fun w hI => hI.pick (is := [1]) (by decide) rfl) ?_
  refine AnyJ.take (fuel := 6) (listed' := #[true, true, true, true, true, false, false, false, false, false, false]) 4 rfl (by kernel_rfl) (by kernel_rfl) (by kernel_rfl) rfl rfl rfl rfl (Yld.load1 rfl Tryd.underlying9 rfl rfl (fun w hI => Inv.cell1 hI (i := 0) rfl rfl)) (fun w hI => hI.pick (is := [1]) (by decide) rfl) ?_
  refine AnyJ.take (fuel := 5) (listed' := #[true, true, true, true, true, false, true, false, false, false, false]) 6 rfl (by kernel_rfl) (by kernel_rfl) (by kernel_rfl) rfl rfl rfl rfl (Yld.fieldAddr fa_35_15 rfl rfl) (fun w hI => hI.pick (is := [1]) (by decide) rfl) ?_
  refine AnyJ.take (fuel := 4) (listed' := #[true, true, true, true, true, false, true, true, false, false, false]) 7 rfl (by kernel_rfl) (by kernel_rfl) (by kernel_rfl) rfl rfl rfl rfl (Yld.load1 rfl Tryd.underlying33 rfl rfl (fun w hI => Inv.cell1 hI (i := 0) rfl rfl)) (fun w hI => hI.pick (is := [1]) (by decide) rfl) ?_
  refine AnyJ.one (fuel := 3) 5 (by kernel_rfl) ?_
  refine StepJ.op (listed' := #[true, true, true, true, true, true, true, true, false, false, false]) rfl rfl rfl ?_
  refine OpJ.call (nameOf_spec x.host) has_73 rfl rfl rfl rfl rfl [] [0, 1] (by decide) rfl rfl (fun _ _ => trivial) ?_
  rintro _ _ ⟨rfl, rfl⟩
  refine ⟨fun w hI => hI.pick (is := [1]) (by decide) rfl, ?_⟩
  refine AnyJ.one (fuel := 2) 8 (by kernel_rfl) ?_
  refine StepJ.op (listed' := #[true, true, true, true, true, true, true, true, true, false, false]) rfl rfl rfl ?_
  refine OpJ.call (paramsOf_spec x.pairsV x.pairs hx.pairs (fun p hp => (hx.pair p hp).2)) has_74 rfl rfl rfl rfl rfl [] [0, 1] (by decide) rfl rfl (fun w hI => PairsB.keep0 ⟨hok.pairs, hok.pdata⟩ hI.keep) ?_
  rintro _ _ ⟨pv, cv, ss, q, bsq, hqq, rfl, rfl, hqb, hkd⟩
  refine ⟨fun w hI => hI.pick (is := [2]) (by decide) rfl, ?_⟩
  refine AnyJ.take (fuel := 1) (listed' := #[true, true, true, true, true, true, true, true, true, true, false]) 9 rfl (by kernel_rfl) (by kernel_rfl) (by kernel_rfl) rfl rfl rfl rfl (Yld.buildAll places_73 zero_73 rfl rfl ⟨rfl, by show _ = some (0 + 1, (nameCs (cut255 x.host)).toArray.size); rw [List.size_toArray, hsz]; rfl, by show _ = some (0 + 1 + (nameCs (cut255 x.host)).toArray.size, 1); rw [List.size_toArray, hsz]; rfl, trivial⟩ (by show (flat [.int .u16 ((x.n1 % 65536 : Nat) : Int), Value.agg (nameCs (cut255 x.host)).toArray, .slice pv ss.length cv]).length = _; rw [hfl, hq]; rfl)) (fun w hI => hI.pick (is := [2]) (by decide) rfl) ?_
  refine AnyJ.one (fuel := 0) 10 (by kernel_rfl) ?_
  refine StepJ.op (listed' := #[true, true, true, true, true, true, true, true, true, true, true]) rfl rfl rfl ?_
  refine OpJ.storeW (i := 1) rfl rfl rfl rfl (by show _ = some (flat [.int .u16 ((x.n1 % 65536 : Nat) : Int), Value.agg (nameCs (cut255 x.host)).toArray, .slice pv ss.length cv]).toArray.size; rw [hfl, List.size_toArray, hq]; exact sz_73) rfl (by show oneCells (flat [.int .u16 ((x.n1 % 65536 : Nat) : Int), Value.agg (nameCs (cut255 x.host)).toArray, .slice pv ss.length cv]) = true; rw [hfl]; exact svCs_one _ _ _ _ _) (by show (flat [.int .u16 ((x.n1 % 65536 : Nat) : Int), Value.agg (nameCs (cut255 x.host)).toArray, .slice pv ss.length cv]).toArray.size = _; rw [hfl, List.size_toArray, hq]; rfl) ?_
  refine ⟨fun w hI => hI.pick (is := [2]) (by decide) rfl, ?_⟩
  refine AnyJ.done (by kernel_rfl) ?_
  refine ExJ.thenN ?_
  refine CodeJ.ret ?_
  refine ExJ.retC (vs := flat [.int .u16 ((x.n1 % 65536 : Nat) : Int), Value.agg (nameCs (cut255 x.host)).toArray, .slice pv ss.length cv]) Tryd.results41 rfl Tryd.underlying73 rfl (by rw [hfl, hq]; exact sz_73) (fun w hI => Inv.whole hI (i := 1) rfl) ⟨pv, cv, ss, q, bsq, hqq, by rw [hfl], rfl, hqb, hkd⟩ fun w hI => hI.pick (is := [0]) (by decide) rfl

def svPok (x : RecD) : Prop := svcQ x ∧ PName (cut255 x.host) ∧ (pairsW x.pairs).length ≤ 4398046511104
theorem svPack_spec (G : GEnv) (x : RecD) (hpok : svPok x) (pv : Option Addr) (cv : Nat) (ss : List PairD) (q : World → Prop) (bsq : List Nat) (hqq : ∀ w w' : World, (∀ b ∈ bsq, w'.heap[b]? = w.heap[b]?) → q w → q w') (hqb : ∀ w, q w → PairsB w (.slice pv ss.length cv) ss) (hkd : ss.map PairD.kd = x.pairs.map PairD.kd) (bq off : Nat) (v : Value) (bs bs' : List UInt8) (p : Option Addr) (c : Nat) (r : Option Nat) (m : List (List UInt8 × Nat)) (_hoff : off ≤ bs'.length) (hbig : bs'.length ≤ 158329674399744 - 400) (_hm : ∀ x ∈ m, x.2 < 65536) :
    Spec Tryd.prog 85 [.pointer (some ⟨bq, 0, none⟩), .slice p bs'.length c, .map r, .int .i64 off] [appB 5 v bs (.slice p bs'.length c) bs', .mp r (kvV m), .ro q bsq hqq]
      (fun w => Cells w bq 0 (svCs (x.n1 % 65536) (cut255 x.host) (.slice pv ss.length cv)) ∧ bq ∉ fp [appB 5 v bs (.slice p bs'.length c) bs', .mp r (kvV m), .ro q bsq hqq] ∧ GE G w (fp [appB 5 v bs (.slice p bs'.length c) bs', .mp r (kvV m), .ro q bsq hqq]) ∧ q w)
      (PackPostX 5 v bs bs' r [.ro q bsq hqq] (svcP (bs'.length - off) r.isSome (cut255 x.host) x m)) := by
  obtain ⟨hsq, hn, hfit⟩ := hpok
  rw [svcP, ← pairsW_kd hkd]
  rw [← pairsW_kd hkd] at hfit
  refine Spec.of Tryd.func85 rfl Tryd.ntmps85 rfl fun w0 hR => ?_
  obtain ⟨hcs, hbq, hge, hq0⟩ := hR
  have hpb0 := hqb w0 hq0
  have hcnt : ss.length ≤ 4398046511104 := Nat.le_trans (pairs_count ss) hfit
  have hll : (cut255 x.host).length ≤ 255 := cut255_len x.host
  have hlen := nameCs_len (cut255 x.host) hll
  have hc0 : Cells w0 bq (0 + 0) [.int .u16 ((x.n1 % 65536 : Nat) : Int)] := hcs.part (k := 0) rfl (by simp [svCs])
  have hname : Cells w0 bq (0 + 1) (nameCs (cut255 x.host)) := hcs.part (k := 1) (by show ((nameCs (cut255 x.host) ++ [Value.slice pv ss.length cv]).take _) = _; exact List.take_left' rfl) (by simp [svCs]; omega)
  have hc2 : Cells w0 bq (0 + 257) [.slice pv ss.length cv] := hcs.part (k := 257) (by rw [svCs, List.drop_left' (by simp [hlen])]; rfl) (by simp [svCs, hlen])
  refine CodeJ.addMp ?_
  cases hq : packN (bs'.length - off) false (cut255 x.host) [] with
  | ok ys m' =>
    simp only
    have hsf : parmsFine ss := parmsFine_kd hkd (hsq ⟨_, _, _, hq⟩)
    have hyl := packN_le _ _ _ _ _ _ hn.le hq
    refine CodeJ.seq ?_
    refine CodeJ.region ?_
    refine OpsJ.yld rfl rfl rfl (Yld.assign rfl rfl) ?_
    refine OpsJ.yld rfl rfl rfl (Yld.assign rfl rfl) ?_
    refine OpsJ.nil ?_
    refine ExJ.thenN ?_
    refine CodeJ.seq ?_
    refine CodeJ.region ?_
    refine OpsJ.yld rfl rfl rfl (Yld.move rfl rfl) ?_
    refine OpsJ.yld rfl rfl rfl (Yld.assign rfl rfl) ?_
    refine OpsJ.nil ?_
    refine ExJ.thenN ?_
    refine CodeJ.seq ?_
    refine CodeJ.region ?_
    refine OpsJ.yld rfl rfl rfl (Yld.move rfl rfl) ?_
    refine OpsJ.yld rfl rfl rfl (Yld.move rfl rfl) ?_
    refine OpsJ.yld rfl rfl rfl (Yld.nilCheck rfl rfl) ?_
    refine OpsJ.yld rfl rfl rfl (Yld.fieldAddr fa_73_0 rfl rfl) ?_
    refine OpsJ.yld rfl rfl rfl (Yld.load1 rfl Tryd.underlying22 rfl rfl (fun w hI => hI.old hc0 hbq)) ?_
    refine OpsJ.op rfl ?_
    refine OpJ.call (packUint16_spec (x.n1 % 65536) v _ bs bs' (by omega)) has_92 rfl rfl rfl rfl rfl [1] [0, 2, 3] (by decide) rfl rfl (fun _ _ => trivial) ?_
    rintro _ _ ⟨p21, c21, rfl, rfl⟩
    refine OpsJ.yld rfl rfl rfl (Yld.assign rfl rfl) ?_
    refine OpsJ.nil ?_
    refine ExJ.thenN ?_
    refine CodeJ.seq ?_
    refine CodeJ.region ?_
    refine OpsJ.yld rfl rfl rfl (Yld.move rfl rfl) ?_
    refine OpsJ.yld rfl rfl rfl (Yld.nilCheck rfl rfl) ?_
    refine OpsJ.yld rfl rfl rfl (Yld.fieldAddr fa_73_1 rfl rfl) ?_
    refine OpsJ.yld rfl rfl rfl (Yld.move rfl rfl) ?_
    refine OpsJ.op rfl ?_
    refine OpJ.call (namePack_spec G (cut255 x.host) hn.pos hn.le hn.last bq (0 + 1) 0 v bs (bs' ++ be16 (x.n1 % 65536)) p21 c21 none [] (Nat.zero_le _) (by simp [be16_len]; omega) (fun x hx => by cases hx)) has_89 rfl rfl rfl rfl rfl [0, 1] [2, 3] (by decide) rfl rfl (fun w hI => ⟨hI.old hname hbq, hI.notin hcs.lt hbq (is := [0, 1]) rfl, hge.call hI (is := [0, 1]) rfl⟩) ?_
    rintro _ _ hpost
    rw [show ((none : Option Nat).isSome) = false from rfl, packN_off _ (bs'.length - off), hq] at hpost
    obtain ⟨pn, cn, rfl, rfl⟩ := hpost
    refine OpsJ.yld rfl rfl rfl (Yld.move rfl rfl) ?_
    refine OpsJ.yld rfl rfl rfl (Yld.extract rfl rfl rfl) ?_
    refine OpsJ.yld rfl rfl rfl (Yld.extract rfl rfl rfl) ?_
    refine OpsJ.yld rfl rfl rfl (Yld.assign rfl rfl) ?_
    refine OpsJ.yld rfl rfl rfl (Yld.assign rfl rfl) ?_
    refine OpsJ.nil ?_
    refine ExJ.thenN ?_
    refine CodeJ.seq ?_
    refine CodeJ.seq ?_
    refine CodeJ.region ?_
    refine OpsJ.yld rfl rfl rfl (Yld.move rfl rfl) ?_
    refine OpsJ.yld rfl rfl rfl (Yld.ifaceNeNil rfl Tryd.underlying69 rfl rfl) ?_
    refine OpsJ.nil ?_
    refine ExJ.thenN ?_
    refine CodeJ.condF rfl ?_
    refine CodeJ.skip ?_
    refine ExJ.thenN ?_
    refine CodeJ.seq ?_
    refine CodeJ.region ?_
    refine OpsJ.yld rfl rfl rfl (Yld.assign rfl rfl) ?_
    refine OpsJ.nil ?_
    refine ExJ.thenN ?_
    refine CodeJ.seq ?_
    refine CodeJ.seq ?_
    refine CodeJ.region ?_
    refine OpsJ.yld rfl rfl rfl (Yld.move rfl rfl) ?_
    refine OpsJ.yld rfl rfl rfl (Yld.nilCheck rfl rfl) ?_
    refine OpsJ.yld rfl rfl rfl (Yld.fieldAddr fa_73_2 rfl rfl) ?_
    refine OpsJ.yld rfl rfl rfl (Yld.load1 rfl Tryd.underlying71 rfl rfl (fun w hI => hI.old hc2 hbq)) ?_
    refine OpsJ.yld rfl rfl rfl (Yld.lenSlice rfl rfl rfl Tryd.underlying71 rfl) ?_
    refine OpsJ.yld rfl rfl rfl (Yld.move rfl rfl) ?_
    refine OpsJ.nil ?_
    refine ExJ.thenN ?_
    refine CodeJ.block ?_
    refine CodeJ.loopP (fun L H ms => ∃ (k : Nat) (p' : Option Addr) (c' : Nat) (zs : List UInt8), k ≤ ss.length ∧ zs = bs' ++ be16 (x.n1 % 65536) ++ ys ++ pairsW (ss.take k) ∧ L = [(1, .slice p' zs.length c'), (10, .slice p bs'.length c), (12, .int .u16 0), (40, .slice pv ss.length cv), (41, .int .i64 ss.length), (42, .int .i64 k)] ∧ H = [appB 5 v bs (.slice p' zs.length c') zs, .mp r (kvV m), .ro q bsq hqq] ∧ ms = ss.length - k) ⟨0, pn, cn, bs' ++ be16 (x.n1 % 65536) ++ ys, Nat.zero_le _, by simp [pairsW], rfl, rfl, rfl⟩ ⟨rfl, rfl, rfl, rfl, rfl, rfl, trivial⟩ (fun w hI => hI.pick (is := [0, 2, 3]) (by decide) rfl) ?_
    rintro _ _ _ ⟨k, p', c', zs, hk, hzs, rfl, rfl, rfl⟩
    refine CodeJ.seq ?_
    refine CodeJ.region ?_
    refine OpsJ.yld rfl rfl rfl (Yld.intBin rfl rfl rfl rfl) ?_
    refine OpsJ.nil ?_
    refine ExJ.thenN ?_
    refine CodeJ.seq ?_
    refine CodeJ.condP rfl (fun c43 => ?_) (fun c43 => ?_)
    · have hk' : k < ss.length := by omega
      obtain ⟨y, hy⟩ : ∃ y, ss[k]? = some y := ⟨ss[k], List.getElem?_eq_getElem hk'⟩
      have hmem := List.mem_of_getElem? hy
      obtain ⟨b0, off0, c2, hpv, _⟩ := Row.at hpb0.1 (by simp [PairD.cells]) (by simp) hk'
      simp only [Value.slice.injEq] at hpv
      obtain ⟨rfl, _, rfl⟩ := hpv
      have hcx : ∀ w, q w → Cells w b0 (off0 + k * 2) y.cells := fun w hw => Row.cellAt (hqb w hw).1 (by simp [PairD.cells]) (by simp) hk' (by simp [hy])
      have hxb := hpb0.2 y hmem
      have hnx0 := pairsW_take ss k y hy
      have hlt : (pairsW (ss.take (k + 1))).length ≤ 4398046511104 := Nat.le_trans (sized_take pairW ss (k + 1)) hfit
      rw [hnx0, List.length_append, pairW_len] at hlt
      have hzl : zs.length = bs'.length + 2 + ys.length + (pairsW (ss.take k)).length := by rw [hzs]; simp only [List.length_append, be16_len]
      have hqd : ∀ w, q w → Bytes w y.dataV y.data := fun w hw => (hqb w hw).2 y hmem
      obtain ⟨hd65, hkey⟩ := hsf k y hy
      obtain ⟨pd, cd, hsd⟩ := hxb.shape
      obtain ⟨key, dv, data⟩ := y
      simp only at hsd hxb hlt hqd hd65 hkey
      subst hsd
      refine CodeJ.skip ?_
      refine ExJ.thenN ?_
      refine CodeJ.seq ?_
      refine CodeJ.block ?_
      refine CodeJ.seq ?_
      refine CodeJ.region ?_
      refine OpsJ.yld rfl rfl rfl (Yld.move rfl rfl) ?_
      refine OpsJ.yld rfl rfl rfl (Yld.indexAddr rfl Tryd.underlying71 sz_167 rfl rfl hk') ?_
      refine OpsJ.yld rfl rfl rfl (Yld.loadN (vs := PairD.cells ⟨key, .slice pd data.length cd, data⟩) rfl Tryd.underlying167 rfl sz_167 rfl (fun w hI => hcx w (hI.roGet (i := 2) rfl))) ?_
      refine OpsJ.op rfl ?_
      refine OpJ.alloc rfl rfl rfl zero_167 fun ab hab => ?_
      refine OpsJ.yld rfl rfl rfl (Yld.assign rfl rfl) ?_
      refine OpsJ.op rfl ?_
      refine OpJ.storeW (i := 0) rfl rfl rfl rfl sz_167 rfl (PairD.oneB hxb) rfl ?_
      refine OpsJ.nil ?_
      refine ExJ.thenN ?_
      refine CodeJ.seq ?_
      refine CodeJ.seq ?_
      refine CodeJ.region ?_
      refine OpsJ.yld rfl rfl rfl (Yld.move rfl rfl) ?_
      refine OpsJ.yld rfl rfl rfl (Yld.intBin rfl rfl rfl rfl) ?_
      refine OpsJ.yld rfl rfl rfl (Yld.move rfl rfl) ?_
      refine OpsJ.splitP (s := 49) rfl (fun g49 => ?_) (fun g49 => ?_)
      · refine OpsJ.opT rfl rfl rfl ?_
        refine OpJ.yld rfl rfl (Yld.fieldAddr fa_167_0 rfl rfl) ?_
        refine OpsJ.opT rfl rfl rfl ?_
        refine OpJ.yld rfl rfl (Yld.load1 rfl Tryd.underlying165 rfl rfl (fun w hI => Inv.cell1 hI (i := 0) rfl rfl)) ?_
        refine OpsJ.opT rfl rfl rfl ?_
        refine OpJ.yld rfl rfl (Yld.move rfl rfl) ?_
        refine OpsJ.opT rfl rfl rfl ?_
        refine OpJ.yld rfl rfl (Yld.intBin rfl rfl rfl rfl) ?_
        refine OpsJ.yld rfl rfl rfl (Yld.pickT rfl rfl rfl) ?_
        refine OpsJ.nil ?_
        refine ExJ.thenN ?_
        refine CodeJ.condP rfl (fun c54 => ?_) (fun c54 => ?_)
        · have c54' : (key : Int) ≤ 0 := c54
          exact absurd (hkey (by omega)) (by omega)
        · refine CodeJ.skip ?_
          refine ExJ.thenN ?_
          refine CodeJ.seq ?_
          refine CodeJ.seq ?_
          refine CodeJ.region ?_
          refine OpsJ.yld rfl rfl rfl (Yld.fieldAddr fa_167_1 rfl rfl) ?_
          refine OpsJ.yld rfl rfl rfl (Yld.load1 rfl Tryd.underlying31 rfl rfl (fun w hI => Inv.cell1 hI (i := 0) rfl rfl)) ?_
          refine OpsJ.yld rfl rfl rfl (Yld.lenSlice rfl rfl rfl Tryd.underlying31 rfl) ?_
          refine OpsJ.yld rfl rfl rfl (Yld.intBin rfl rfl rfl rfl) ?_
          refine OpsJ.nil ?_
          refine ExJ.thenN ?_
          refine CodeJ.condP rfl (fun c63 => ?_) (fun c63 => ?_)
          · exact absurd c63 (by omega)
          · refine CodeJ.skip ?_
            refine ExJ.thenN ?_
            refine CodeJ.seq ?_
            refine CodeJ.region ?_
            refine OpsJ.yld rfl rfl rfl (Yld.move rfl rfl) ?_
            refine OpsJ.yld rfl rfl rfl (Yld.fieldAddr fa_167_0 rfl rfl) ?_
            refine OpsJ.yld rfl rfl rfl (Yld.load1 rfl Tryd.underlying165 rfl rfl (fun w hI => Inv.cell1 hI (i := 0) rfl rfl)) ?_
            refine OpsJ.op rfl ?_
            refine OpJ.call (packUint16_spec key v _ bs zs (by omega)) has_92 rfl rfl rfl rfl rfl [1] [0, 2, 3] (by decide) rfl rfl (fun _ _ => trivial) ?_
            rintro _ _ ⟨p72, c72, rfl, rfl⟩
            refine OpsJ.yld rfl rfl rfl (Yld.assign rfl rfl) ?_
            refine OpsJ.nil ?_
            refine ExJ.thenN ?_
            refine CodeJ.seq ?_
            refine CodeJ.region ?_
            refine OpsJ.yld rfl rfl rfl (Yld.move rfl rfl) ?_
            refine OpsJ.yld rfl rfl rfl (Yld.fieldAddr fa_167_1 rfl rfl) ?_
            refine OpsJ.yld rfl rfl rfl (Yld.load1 rfl Tryd.underlying31 rfl rfl (fun w hI => Inv.cell1 hI (i := 1) rfl rfl)) ?_
            refine OpsJ.yld rfl rfl rfl (Yld.lenSlice rfl rfl rfl Tryd.underlying31 rfl) ?_
            refine OpsJ.yld rfl rfl rfl (Yld.convInt rfl Tryd.underlying3 Tryd.underlying22 rfl) ?_
            rw [u16_wrap]
            refine OpsJ.op rfl ?_
            refine OpJ.call (packUint16_spec (data.length % 65536) v _ bs (zs ++ be16 key) (by simp [be16_len]; omega)) has_92 rfl rfl rfl rfl rfl [0] [1, 2, 3] (by decide) rfl rfl (fun _ _ => trivial) ?_
            rintro _ _ ⟨p78, c78, rfl, rfl⟩
            refine OpsJ.yld rfl rfl rfl (Yld.assign rfl rfl) ?_
            refine OpsJ.nil ?_
            refine ExJ.thenN ?_
            refine CodeJ.region ?_
            refine OpsJ.yld rfl rfl rfl (Yld.move rfl rfl) ?_
            refine OpsJ.yld rfl rfl rfl (Yld.fieldAddr fa_167_1 rfl rfl) ?_
            refine OpsJ.yld rfl rfl rfl (Yld.load1 rfl Tryd.underlying31 rfl rfl (fun w hI => Inv.cell1 hI (i := 1) rfl rfl)) ?_
            refine OpsJ.op rfl ?_
            refine OpJ.appendB (i := 0) (news := data) elt_31 rfl rfl rfl rfl rfl rfl (fun w hI => Bytes.src (hqd w (hI.roGet (i := 3) rfl)) Tryd.underlying31) (by simp [be16_len]; omega) fun pA cA => ?_
            refine OpsJ.yld rfl rfl rfl (Yld.assign rfl rfl) ?_
            refine OpsJ.nil ?_
            refine ExJ.blockN ?_
            refine ExJ.thenN ?_
            refine CodeJ.region ?_
            refine OpsJ.yld rfl rfl rfl (Yld.intBin rfl rfl rfl rfl) ?_
            rw [i64_succ k (by omega)]
            refine OpsJ.yld rfl rfl rfl (Yld.move rfl rfl) ?_
            refine OpsJ.nil ?_
            exact ExJ.againP ⟨k + 1, pA, cA, zs ++ be16 key ++ be16 (data.length % 65536) ++ data, by omega, by rw [hzs, hnx0]; simp [pairW, List.append_assoc], rfl, rfl, rfl⟩ (by omega) ⟨rfl, rfl, rfl, rfl, rfl, rfl, trivial⟩ fun w hI => hI.pick (is := [0, 2, 3]) (by decide) rfl
      · refine OpsJ.opF rfl rfl rfl rfl rfl rfl ?_
        refine OpsJ.opF rfl rfl rfl rfl rfl rfl ?_
        refine OpsJ.opF rfl rfl rfl rfl rfl rfl ?_
        refine OpsJ.opF rfl rfl rfl rfl rfl rfl ?_
        refine OpsJ.yld rfl rfl rfl (Yld.pickF rfl rfl rfl) ?_
        refine OpsJ.nil ?_
        refine ExJ.thenN ?_
        refine CodeJ.condF rfl ?_
        refine CodeJ.skip ?_
        refine ExJ.thenN ?_
        refine CodeJ.seq ?_
        refine CodeJ.seq ?_
        refine CodeJ.region ?_
        refine OpsJ.yld rfl rfl rfl (Yld.fieldAddr fa_167_1 rfl rfl) ?_
        refine OpsJ.yld rfl rfl rfl (Yld.load1 rfl Tryd.underlying31 rfl rfl (fun w hI => Inv.cell1 hI (i := 0) rfl rfl)) ?_
        refine OpsJ.yld rfl rfl rfl (Yld.lenSlice rfl rfl rfl Tryd.underlying31 rfl) ?_
        refine OpsJ.yld rfl rfl rfl (Yld.intBin rfl rfl rfl rfl) ?_
        refine OpsJ.nil ?_
        refine ExJ.thenN ?_
        refine CodeJ.condP rfl (fun c63 => ?_) (fun c63 => ?_)
        · exact absurd c63 (by omega)
        · refine CodeJ.skip ?_
          refine ExJ.thenN ?_
          refine CodeJ.seq ?_
          refine CodeJ.region ?_
          refine OpsJ.yld rfl rfl rfl (Yld.move rfl rfl) ?_
          refine OpsJ.yld rfl rfl rfl (Yld.fieldAddr fa_167_0 rfl rfl) ?_
          refine OpsJ.yld rfl rfl rfl (Yld.load1 rfl Tryd.underlying165 rfl rfl (fun w hI => Inv.cell1 hI (i := 0) rfl rfl)) ?_
          refine OpsJ.op rfl ?_
          refine OpJ.call (packUint16_spec key v _ bs zs (by omega)) has_92 rfl rfl rfl rfl rfl [1] [0, 2, 3] (by decide) rfl rfl (fun _ _ => trivial) ?_
          rintro _ _ ⟨p72, c72, rfl, rfl⟩
          refine OpsJ.yld rfl rfl rfl (Yld.assign rfl rfl) ?_
          refine OpsJ.nil ?_
          refine ExJ.thenN ?_
          refine CodeJ.seq ?_
          refine CodeJ.region ?_
          refine OpsJ.yld rfl rfl rfl (Yld.move rfl rfl) ?_
          refine OpsJ.yld rfl rfl rfl (Yld.fieldAddr fa_167_1 rfl rfl) ?_
          refine OpsJ.yld rfl rfl rfl (Yld.load1 rfl Tryd.underlying31 rfl rfl (fun w hI => Inv.cell1 hI (i := 1) rfl rfl)) ?_
          refine OpsJ.yld rfl rfl rfl (Yld.lenSlice rfl rfl rfl Tryd.underlying31 rfl) ?_
          refine OpsJ.yld rfl rfl rfl (Yld.convInt rfl Tryd.underlying3 Tryd.underlying22 rfl) ?_
          rw [u16_wrap]
          refine OpsJ.op rfl ?_
          refine OpJ.call (packUint16_spec (data.length % 65536) v _ bs (zs ++ be16 key) (by simp [be16_len]; omega)) has_92 rfl rfl rfl rfl rfl [0] [1, 2, 3] (by decide) rfl rfl (fun _ _ => trivial) ?_
          rintro _ _ ⟨p78, c78, rfl, rfl⟩
          refine OpsJ.yld rfl rfl rfl (Yld.assign rfl rfl) ?_
          refine OpsJ.nil ?_
          refine ExJ.thenN ?_
          refine CodeJ.region ?_
          refine OpsJ.yld rfl rfl rfl (Yld.move rfl rfl) ?_
          refine OpsJ.yld rfl rfl rfl (Yld.fieldAddr fa_167_1 rfl rfl) ?_
          refine OpsJ.yld rfl rfl rfl (Yld.load1 rfl Tryd.underlying31 rfl rfl (fun w hI => Inv.cell1 hI (i := 1) rfl rfl)) ?_
          refine OpsJ.op rfl ?_
          refine OpJ.appendB (i := 0) (news := data) elt_31 rfl rfl rfl rfl rfl rfl (fun w hI => Bytes.src (hqd w (hI.roGet (i := 3) rfl)) Tryd.underlying31) (by simp [be16_len]; omega) fun pA cA => ?_
          refine OpsJ.yld rfl rfl rfl (Yld.assign rfl rfl) ?_
          refine OpsJ.nil ?_
          refine ExJ.blockN ?_
          refine ExJ.thenN ?_
          refine CodeJ.region ?_
          refine OpsJ.yld rfl rfl rfl (Yld.intBin rfl rfl rfl rfl) ?_
          rw [i64_succ k (by omega)]
          refine OpsJ.yld rfl rfl rfl (Yld.move rfl rfl) ?_
          refine OpsJ.nil ?_
          exact ExJ.againP ⟨k + 1, pA, cA, zs ++ be16 key ++ be16 (data.length % 65536) ++ data, by omega, by rw [hzs, hnx0]; simp [pairW, List.append_assoc], rfl, rfl, rfl⟩ (by omega) ⟨rfl, rfl, rfl, rfl, rfl, rfl, trivial⟩ fun w hI => hI.pick (is := [0, 2, 3]) (by decide) rfl
    · obtain rfl : k = ss.length := by omega
      rw [List.take_length] at hzs
      subst hzs
      refine CodeJ.exit ?_
      refine ExJ.thenX ?_
      refine ExJ.thenX ?_
      refine ExJ.blockHit ?_
      refine ExJ.thenN ?_
      refine CodeJ.seq ?_
      refine CodeJ.region ?_
      refine OpsJ.yld rfl rfl rfl (Yld.move rfl rfl) ?_
      refine OpsJ.yld rfl rfl rfl (Yld.assign rfl rfl) ?_
      refine OpsJ.yld rfl rfl rfl (Yld.assign rfl rfl) ?_
      refine OpsJ.nil ?_
      refine ExJ.thenN ?_
      refine CodeJ.ret ?_
      have e : bs' ++ be16 (x.n1 % 65536) ++ ys ++ pairsW ss = bs' ++ (be16 (x.n1 % 65536) ++ ys ++ pairsW ss) := by simp [List.append_assoc]
      exact ExJ.ret2 Tryd.results85 rfl rfl ⟨_, ⟨p', c', by rw [← e], by rw [← e]⟩, rfl⟩ fun w hI => hI.pick (is := [0, 1, 2]) (by decide) rfl
  | err m' =>
    simp only
    refine CodeJ.seq ?_
    refine CodeJ.region ?_
    refine OpsJ.yld rfl rfl rfl (Yld.assign rfl rfl) ?_
    refine OpsJ.yld rfl rfl rfl (Yld.assign rfl rfl) ?_
    refine OpsJ.nil ?_
    refine ExJ.thenN ?_
    refine CodeJ.seq ?_
    refine CodeJ.region ?_
    refine OpsJ.yld rfl rfl rfl (Yld.move rfl rfl) ?_
    refine OpsJ.yld rfl rfl rfl (Yld.assign rfl rfl) ?_
    refine OpsJ.nil ?_
    refine ExJ.thenN ?_
    refine CodeJ.seq ?_
    refine CodeJ.region ?_
    refine OpsJ.yld rfl rfl rfl (Yld.move rfl rfl) ?_
    refine OpsJ.yld rfl rfl rfl (Yld.move rfl rfl) ?_
    refine OpsJ.yld rfl rfl rfl (Yld.nilCheck rfl rfl) ?_
    refine OpsJ.yld rfl rfl rfl (Yld.fieldAddr fa_73_0 rfl rfl) ?_
    refine OpsJ.yld rfl rfl rfl (Yld.load1 rfl Tryd.underlying22 rfl rfl (fun w hI => hI.old hc0 hbq)) ?_
    refine OpsJ.op rfl ?_
    refine OpJ.call (packUint16_spec (x.n1 % 65536) v _ bs bs' (by omega)) has_92 rfl rfl rfl rfl rfl [1] [0, 2, 3] (by decide) rfl rfl (fun _ _ => trivial) ?_
    rintro _ _ ⟨p21, c21, rfl, rfl⟩
    refine OpsJ.yld rfl rfl rfl (Yld.assign rfl rfl) ?_
    refine OpsJ.nil ?_
    refine ExJ.thenN ?_
    refine CodeJ.seq ?_
    refine CodeJ.region ?_
    refine OpsJ.yld rfl rfl rfl (Yld.move rfl rfl) ?_
    refine OpsJ.yld rfl rfl rfl (Yld.nilCheck rfl rfl) ?_
    refine OpsJ.yld rfl rfl rfl (Yld.fieldAddr fa_73_1 rfl rfl) ?_
    refine OpsJ.yld rfl rfl rfl (Yld.move rfl rfl) ?_
    refine OpsJ.op rfl ?_
    refine OpJ.call (namePack_spec G (cut255 x.host) hn.pos hn.le hn.last bq (0 + 1) 0 v bs (bs' ++ be16 (x.n1 % 65536)) p21 c21 none [] (Nat.zero_le _) (by simp [be16_len]; omega) (fun x hx => by cases hx)) has_89 rfl rfl rfl rfl rfl [0, 1] [2, 3] (by decide) rfl rfl (fun w hI => ⟨hI.old hname hbq, hI.notin hcs.lt hbq (is := [0, 1]) rfl, hge.call hI (is := [0, 1]) rfl⟩) ?_
    rintro _ _ hpost
    rw [show ((none : Option Nat).isSome) = false from rfl, packN_off _ (bs'.length - off), hq] at hpost
    obtain ⟨un, tn, en, rfl, rfl⟩ := hpost
    refine OpsJ.yld rfl rfl rfl (Yld.move rfl rfl) ?_
    refine OpsJ.yld rfl rfl rfl (Yld.extract rfl rfl rfl) ?_
    refine OpsJ.yld rfl rfl rfl (Yld.extract rfl rfl rfl) ?_
    refine OpsJ.yld rfl rfl rfl (Yld.assign rfl rfl) ?_
    refine OpsJ.yld rfl rfl rfl (Yld.assign rfl rfl) ?_
    refine OpsJ.nil ?_
    refine ExJ.thenN ?_
    refine CodeJ.seq ?_
    refine CodeJ.seq ?_
    refine CodeJ.region ?_
    refine OpsJ.yld rfl rfl rfl (Yld.move rfl rfl) ?_
    refine OpsJ.yld rfl rfl rfl (Yld.ifaceNeNil rfl Tryd.underlying69 rfl rfl) ?_
    refine OpsJ.nil ?_
    refine ExJ.thenN ?_
    refine CodeJ.condT rfl ?_
    refine CodeJ.seq ?_
    refine CodeJ.region ?_
    refine OpsJ.yld rfl rfl rfl (Yld.move rfl rfl) ?_
    refine OpsJ.yld rfl rfl rfl (Yld.move rfl rfl) ?_
    refine OpsJ.yld rfl rfl rfl (Yld.build places_157 zero_157 rfl rfl rfl) ?_
    refine OpsJ.op rfl ?_
    refine OpJ.box rfl rfl rfl rfl fun ne hne => ?_
    refine OpsJ.yld rfl rfl rfl (Yld.makeInterface rfl Tryd.underlying155 rfl rfl) ?_
    refine OpsJ.yld rfl rfl rfl (Yld.assign rfl rfl) ?_
    refine OpsJ.yld rfl rfl rfl (Yld.assign rfl rfl) ?_
    refine OpsJ.nil ?_
    refine ExJ.thenN ?_
    refine CodeJ.ret ?_
    refine ExJ.thenR ?_
    exact ExJ.ret2 Tryd.results85 rfl rfl ⟨_, ⟨_, _, _, rfl, rfl⟩, rfl⟩ fun w hI => hI.pick (is := [1, 3, 4]) (by decide) rfl

/-- how SVCB and HTTPS records are added -/
def svPk : BodyPk := fun base on x m => svcP base on (cut255 x.host) x m
def svAdder (t : Nat) : Adder := recAdder (fun _ => t) svPk svPok

theorem svGen_spec (G : GEnv) (t : Nat) (x : RecD) (on : Bool) (b : Bd) (bb : Nat) (p : Option Addr) (c : Nat) (r : Option Nat) (pv : Option Addr) (cv : Nat) (ss : List PairD) (q : World → Prop) (bsq : List Nat) (hqq : ∀ w w' : World, (∀ b ∈ bsq, w'.heap[b]? = w.heap[b]?) → q w → q w') (hqb : ∀ w, q w → PairsB w (.slice pv ss.length cv) ss) (hkd : ss.map PairD.kd = x.pairs.map PairD.kd) (hok : (svAdder t).ok x on b) (hb : BdOk b) (hr : r.isSome = on) :
    Spec Tryd.prog 60 [.pointer (some ⟨bb, 0, none⟩), .agg (rhCs (cut255 x.name) t x.cls x.ttl x.len).toArray, .agg (svCs (x.n1 % 65536) (cut255 x.host) (.slice pv ss.length cv)).toArray] (bdR b bb p c r ++ [.ro q bsq hqq]) (fun w => GE G w (fp (bdR b bb p c r ++ [.ro q bsq hqq])))
      (fun y H' => ErrIs G y ((svAdder t).eff x on b).2 ∧ ∃ p' c', H' = bdR ((svAdder t).eff x on b).1 bb p' c' r ++ [.ro q bsq hqq]) := by
  obtain ⟨h3, h5, hcnt, hpn, hwf, hbody⟩ := hok
  have httl := hwf.ttl
  refine Spec.of Tryd.func60 rfl Tryd.ntmps60 rfl fun w0 hge => ?_
  have hst := hb.start
  have hbig := hb.big
  subst hr
  have hnl := hpn.le
  have hrl : (rhCs (cut255 x.name) t x.cls x.ttl x.len).length = 260 := rhCs_len _ (by omega) _ _ _ _
  cases hp : packN (b.buf.length - b.start) r.isSome (cut255 x.name) b.m with
  | err m1 =>
    have heff : (svAdder t).eff x r.isSome b = ({ b with m := m1 }, 3) := by simp only [svAdder, recAdder, recF, hp]
    rw [heff]
    refine CodeJ.seq ?_
    refine CodeJ.region ?_
    refine OpsJ.op rfl ?_
    refine OpJ.box rfl rfl rfl rfl fun hd hhd => ?_
    refine OpsJ.op rfl ?_
    refine OpJ.box rfl rfl rfl rfl fun rb hrb => ?_
    refine OpsJ.yld rfl rfl rfl (Yld.assign rfl rfl) ?_
    refine OpsJ.nil ?_
    refine ExJ.thenN ?_
    refine CodeJ.seq ?_
    refine CodeJ.seq ?_
    refine CodeJ.region ?_
    refine OpsJ.yld rfl rfl rfl (Yld.move rfl rfl) ?_
    refine OpsJ.op rfl ?_
    refine OpJ.call (checkRes_ok b bb p c r h3 h5) has_83 rfl rfl rfl rfl rfl [2, 3, 4] [0, 1, 5] (by decide) rfl rfl (fun _ _ => trivial) ?_
    rintro _ _ ⟨rfl, rfl⟩
    refine OpsJ.yld rfl rfl rfl (Yld.assign rfl rfl) ?_
    refine OpsJ.nil ?_
    refine ExJ.thenN ?_
    refine CodeJ.seq ?_
    refine CodeJ.region ?_
    refine OpsJ.yld rfl rfl rfl (Yld.move rfl rfl) ?_
    refine OpsJ.yld rfl rfl rfl (Yld.ifaceNeNil rfl Tryd.underlying69 rfl rfl) ?_
    refine OpsJ.nil ?_
    refine ExJ.thenN ?_
    refine CodeJ.condF rfl ?_
    refine CodeJ.skip ?_
    refine ExJ.thenN ?_
    refine CodeJ.seq ?_
    refine CodeJ.any (fuel := 20) (listed := #[false, false, false, false, false, false, false, false, false, false, false, false, false, false, false, false, false, false, false, false]) [0, 3, 4, 5] rfl follows_mixed rfl rfl ?_
    refine AnyJ.take (fuel := 19) (listed' := #[true, false, false, false, false, false, false, false, false, false, false, false, false, false, false, false, false, false, false, false]) 0 rfl (by kernel_rfl) (by kernel_rfl) (by kernel_rfl) rfl rfl rfl rfl (Yld.move rfl rfl) (fun w hI => hI.pick (is := [0, 3, 4, 5]) (by decide) rfl) ?_
    refine AnyJ.take (fuel := 18) (listed' := #[true, true, false, false, false, false, false, false, false, false, false, false, false, false, false, false, false, false, false, false]) 1 rfl (by kernel_rfl) (by kernel_rfl) (by kernel_rfl) rfl rfl rfl rfl (Yld.nilCheck rfl rfl) (fun w hI => hI.pick (is := [0, 3, 4, 5]) (by decide) rfl) ?_
    refine AnyJ.take (fuel := 17) (listed' := #[true, true, true, false, false, false, false, false, false, false, false, false, false, false, false, false, false, false, false, false]) 2 rfl (by kernel_rfl) (by kernel_rfl) (by kernel_rfl) rfl rfl rfl rfl (Yld.fieldAddr fa_113_0 rfl rfl) (fun w hI => hI.pick (is := [0, 3, 4, 5]) (by decide) rfl) ?_
    refine AnyJ.take (fuel := 16) (listed' := #[true, true, true, true, false, false, false, false, false, false, false, false, false, false, false, false, false, false, false, false]) 3 rfl (by kernel_rfl) (by kernel_rfl) (by kernel_rfl) rfl rfl rfl rfl (Yld.load1 rfl Tryd.underlying31 rfl rfl (fun w hI => Inv.cell1 hI (i := 0) rfl rfl)) (fun w hI => hI.pick (is := [0, 3, 4, 5]) (by decide) rfl) ?_
    refine AnyJ.take (fuel := 15) (listed' := #[true, true, true, true, true, false, false, false, false, false, false, false, false, false, false, false, false, false, false, false]) 4 rfl (by kernel_rfl) (by kernel_rfl) (by kernel_rfl) rfl rfl rfl rfl (Yld.move rfl rfl) (fun w hI => hI.pick (is := [0, 3, 4, 5]) (by decide) rfl) ?_
    refine AnyJ.take (fuel := 14) (listed' := #[true, true, true, true, true, true, false, false, false, false, false, false, false, false, false, false, false, false, false, false]) 5 rfl (by kernel_rfl) (by kernel_rfl) (by kernel_rfl) rfl rfl rfl rfl (Yld.nilCheck rfl rfl) (fun w hI => hI.pick (is := [0, 3, 4, 5]) (by decide) rfl) ?_
    refine AnyJ.take (fuel := 13) (listed' := #[true, true, true, true, true, true, true, false, false, false, false, false, false, false, false, false, false, false, false, false]) 6 rfl (by kernel_rfl) (by kernel_rfl) (by kernel_rfl) rfl rfl rfl rfl (Yld.fieldAddr fa_113_4 rfl rfl) (fun w hI => hI.pick (is := [0, 3, 4, 5]) (by decide) rfl) ?_
    refine AnyJ.take (fuel := 12) (listed' := #[true, true, true, true, true, true, true, true, false, false, false, false, false, false, false, false, false, false, false, false]) 7 rfl (by kernel_rfl) (by kernel_rfl) (by kernel_rfl) rfl rfl rfl rfl (Yld.load1 rfl Tryd.underlying111 rfl rfl (fun w hI => Inv.cell1 hI (i := 0) rfl rfl)) (fun w hI => hI.pick (is := [0, 3, 4, 5]) (by decide) rfl) ?_
    refine AnyJ.take (fuel := 11) (listed' := #[true, true, true, true, true, true, true, true, true, false, false, false, false, false, false, false, false, false, false, false]) 8 rfl (by kernel_rfl) (by kernel_rfl) (by kernel_rfl) rfl rfl rfl rfl (Yld.move rfl rfl) (fun w hI => hI.pick (is := [0, 3, 4, 5]) (by decide) rfl) ?_
    refine AnyJ.take (fuel := 10) (listed' := #[true, true, true, true, true, true, true, true, true, true, false, false, false, false, false, false, false, false, false, false]) 9 rfl (by kernel_rfl) (by kernel_rfl) (by kernel_rfl) rfl rfl rfl rfl (Yld.nilCheck rfl rfl) (fun w hI => hI.pick (is := [0, 3, 4, 5]) (by decide) rfl) ?_
    refine AnyJ.take (fuel := 9) (listed' := #[true, true, true, true, true, true, true, true, true, true, true, false, false, false, false, false, false, false, false, false]) 10 rfl (by kernel_rfl) (by kernel_rfl) (by kernel_rfl) rfl rfl rfl rfl (Yld.fieldAddr fa_113_3 rfl rfl) (fun w hI => hI.pick (is := [0, 3, 4, 5]) (by decide) rfl) ?_
    refine AnyJ.take (fuel := 8) (listed' := #[true, true, true, true, true, true, true, true, true, true, true, true, false, false, false, false, false, false, false, false]) 11 rfl (by kernel_rfl) (by kernel_rfl) (by kernel_rfl) rfl rfl rfl rfl (Yld.load1 rfl Tryd.underlying3 rfl rfl (fun w hI => Inv.cell1 hI (i := 0) rfl rfl)) (fun w hI => hI.pick (is := [0, 3, 4, 5]) (by decide) rfl) ?_
    refine AnyJ.one (fuel := 7) 12 (by kernel_rfl) ?_
    refine StepJ.op (listed' := #[true, true, true, true, true, true, true, true, true, true, true, true, true, false, false, false, false, false, false, false]) rfl rfl rfl ?_
    refine OpJ.call (rhPack_spec G (cut255 x.name) hpn (t) x.cls x.ttl x.len httl hd b.start (.slice p b.buf.length c) b.buf b.buf p c r b.m (by omega) hbig hb.small) has_84 rfl rfl rfl rfl rfl [1, 2] [0, 3, 4, 5] (by decide) rfl rfl (fun w hI => ⟨Inv.whole hI (i := 4) rfl, hI.apart (i := 4) rfl (is := [1, 2]) (by decide) rfl hd (by simp [Res.ats]), hge.call hI (is := [1, 2]) rfl⟩) ?_
    rintro _ _ hpost
    rw [hp] at hpost
    obtain ⟨u1, u2, a34, rfl, rfl⟩ := hpost
    refine ⟨fun w hI => hI.pick (is := [2, 3, 4, 5]) (by decide) rfl, ?_⟩
    refine AnyJ.take (fuel := 6) (listed' := #[true, true, true, true, true, true, true, true, true, true, true, true, true, true, false, false, false, false, false, false]) 13 rfl (by kernel_rfl) (by kernel_rfl) (by kernel_rfl) rfl rfl rfl rfl (Yld.move rfl rfl) (fun w hI => hI.pick (is := [2, 3, 4, 5]) (by decide) rfl) ?_
    refine AnyJ.take (fuel := 5) (listed' := #[true, true, true, true, true, true, true, true, true, true, true, true, true, true, true, false, false, false, false, false]) 14 rfl (by kernel_rfl) (by kernel_rfl) (by kernel_rfl) rfl rfl rfl rfl (Yld.extract rfl rfl rfl) (fun w hI => hI.pick (is := [2, 3, 4, 5]) (by decide) rfl) ?_
    refine AnyJ.take (fuel := 4) (listed' := #[true, true, true, true, true, true, true, true, true, true, true, true, true, true, true, true, false, false, false, false]) 15 rfl (by kernel_rfl) (by kernel_rfl) (by kernel_rfl) rfl rfl rfl rfl (Yld.extract rfl rfl rfl) (fun w hI => hI.pick (is := [2, 3, 4, 5]) (by decide) rfl) ?_
    refine AnyJ.take (fuel := 3) (listed' := #[true, true, true, true, true, true, true, true, true, true, true, true, true, true, true, true, true, false, false, false]) 16 rfl (by kernel_rfl) (by kernel_rfl) (by kernel_rfl) rfl rfl rfl rfl (Yld.extract rfl rfl rfl) (fun w hI => hI.pick (is := [2, 3, 4, 5]) (by decide) rfl) ?_
    refine AnyJ.take (fuel := 2) (listed' := #[true, true, true, true, true, true, true, true, true, true, true, true, true, true, true, true, true, true, false, false]) 17 rfl (by kernel_rfl) (by kernel_rfl) (by kernel_rfl) rfl rfl rfl rfl (Yld.assign rfl rfl) (fun w hI => hI.pick (is := [2, 3, 4, 5]) (by decide) rfl) ?_
    refine AnyJ.take (fuel := 1) (listed' := #[true, true, true, true, true, true, true, true, true, true, true, true, true, true, true, true, true, true, true, false]) 18 rfl (by kernel_rfl) (by kernel_rfl) (by kernel_rfl) rfl rfl rfl rfl (Yld.assign rfl rfl) (fun w hI => hI.pick (is := [2, 3, 4, 5]) (by decide) rfl) ?_
    refine AnyJ.take (fuel := 0) (listed' := #[true, true, true, true, true, true, true, true, true, true, true, true, true, true, true, true, true, true, true, true]) 19 rfl (by kernel_rfl) (by kernel_rfl) (by kernel_rfl) rfl rfl rfl rfl (Yld.assign rfl rfl) (fun w hI => hI.pick (is := [2, 3, 4, 5]) (by decide) rfl) ?_
    refine AnyJ.done (by kernel_rfl) ?_
    refine ExJ.thenN ?_
    refine CodeJ.seq ?_
    refine CodeJ.seq ?_
    refine CodeJ.region ?_
    refine OpsJ.yld rfl rfl rfl (Yld.move rfl rfl) ?_
    refine OpsJ.yld rfl rfl rfl (Yld.ifaceNeNil rfl Tryd.underlying69 rfl rfl) ?_
    refine OpsJ.nil ?_
    refine ExJ.thenN ?_
    refine CodeJ.condT rfl ?_
    refine CodeJ.seq ?_
    refine CodeJ.region ?_
    refine OpsJ.yld rfl rfl rfl (Yld.move rfl rfl) ?_
    refine OpsJ.yld rfl rfl rfl (Yld.build places_157 zero_157 rfl rfl rfl) ?_
    refine OpsJ.op rfl ?_
    refine OpJ.box rfl rfl rfl rfl fun ne hne => ?_
    refine OpsJ.yld rfl rfl rfl (Yld.makeInterface rfl Tryd.underlying155 rfl rfl) ?_
    refine OpsJ.yld rfl rfl rfl (Yld.assign rfl rfl) ?_
    refine OpsJ.nil ?_
    refine ExJ.thenN ?_
    refine CodeJ.ret ?_
    refine ExJ.thenR ?_
    exact ExJ.ret1 Tryd.results60 rfl ⟨.inr (.inr ⟨rfl, _, rfl⟩), p, c, rfl⟩ fun w hI => hI.pick (is := [3, 1, 2, 6]) (by decide) rfl
  | ok ys m1 =>
    obtain ⟨hpok, hblen⟩ := hbody ⟨ys, m1, hp⟩
    have hys := packN_len hp
    have hm1 : ∀ x ∈ m1, x.2 < 65536 := by
      have := packN_small (b.buf.length - b.start) r.isSome (cut255 x.name) b.m hb.small
      rw [hp] at this
      exact this
    have hrel : (b.buf ++ ys ++ rh10 (t) x.cls x.ttl x.len).length - b.start = b.rel + ys.length + 10 := by
      simp only [List.length_append, rh10_len, Bd.rel]
      omega
    cases hq : svPk (b.rel + ys.length + 10) r.isSome x m1 with
    | err m2 =>
      have heff : (svAdder t).eff x r.isSome b = ({ b with m := m2 }, 3) := by simp only [svAdder, recAdder, recF, hp, hq]
      simp only [svPk] at hq
      rw [heff]
      refine CodeJ.seq ?_
      refine CodeJ.region ?_
      refine OpsJ.op rfl ?_
      refine OpJ.box rfl rfl rfl rfl fun hd hhd => ?_
      refine OpsJ.op rfl ?_
      refine OpJ.box rfl rfl rfl rfl fun rb hrb => ?_
      refine OpsJ.yld rfl rfl rfl (Yld.assign rfl rfl) ?_
      refine OpsJ.nil ?_
      refine ExJ.thenN ?_
      refine CodeJ.seq ?_
      refine CodeJ.seq ?_
      refine CodeJ.region ?_
      refine OpsJ.yld rfl rfl rfl (Yld.move rfl rfl) ?_
      refine OpsJ.op rfl ?_
      refine OpJ.call (checkRes_ok b bb p c r h3 h5) has_83 rfl rfl rfl rfl rfl [2, 3, 4] [0, 1, 5] (by decide) rfl rfl (fun _ _ => trivial) ?_
      rintro _ _ ⟨rfl, rfl⟩
      refine OpsJ.yld rfl rfl rfl (Yld.assign rfl rfl) ?_
      refine OpsJ.nil ?_
      refine ExJ.thenN ?_
      refine CodeJ.seq ?_
      refine CodeJ.region ?_
      refine OpsJ.yld rfl rfl rfl (Yld.move rfl rfl) ?_
      refine OpsJ.yld rfl rfl rfl (Yld.ifaceNeNil rfl Tryd.underlying69 rfl rfl) ?_
      refine OpsJ.nil ?_
      refine ExJ.thenN ?_
      refine CodeJ.condF rfl ?_
      refine CodeJ.skip ?_
      refine ExJ.thenN ?_
      refine CodeJ.seq ?_
      refine CodeJ.any (fuel := 20) (listed := #[false, false, false, false, false, false, false, false, false, false, false, false, false, false, false, false, false, false, false, false]) [0, 3, 4, 5] rfl follows_mixed rfl rfl ?_
      refine AnyJ.take (fuel := 19) (listed' := #[true, false, false, false, false, false, false, false, false, false, false, false, false, false, false, false, false, false, false, false]) 0 rfl (by kernel_rfl) (by kernel_rfl) (by kernel_rfl) rfl rfl rfl rfl (Yld.move rfl rfl) (fun w hI => hI.pick (is := [0, 3, 4, 5]) (by decide) rfl) ?_
      refine AnyJ.take (fuel := 18) (listed' := #[true, true, false, false, false, false, false, false, false, false, false, false, false, false, false, false, false, false, false, false]) 1 rfl (by kernel_rfl) (by kernel_rfl) (by kernel_rfl) rfl rfl rfl rfl (Yld.nilCheck rfl rfl) (fun w hI => hI.pick (is := [0, 3, 4, 5]) (by decide) rfl) ?_
      refine AnyJ.take (fuel := 17) (listed' := #[true, true, true, false, false, false, false, false, false, false, false, false, false, false, false, false, false, false, false, false]) 2 rfl (by kernel_rfl) (by kernel_rfl) (by kernel_rfl) rfl rfl rfl rfl (Yld.fieldAddr fa_113_0 rfl rfl) (fun w hI => hI.pick (is := [0, 3, 4, 5]) (by decide) rfl) ?_
      refine AnyJ.take (fuel := 16) (listed' := #[true, true, true, true, false, false, false, false, false, false, false, false, false, false, false, false, false, false, false, false]) 3 rfl (by kernel_rfl) (by kernel_rfl) (by kernel_rfl) rfl rfl rfl rfl (Yld.load1 rfl Tryd.underlying31 rfl rfl (fun w hI => Inv.cell1 hI (i := 0) rfl rfl)) (fun w hI => hI.pick (is := [0, 3, 4, 5]) (by decide) rfl) ?_
      refine AnyJ.take (fuel := 15) (listed' := #[true, true, true, true, true, false, false, false, false, false, false, false, false, false, false, false, false, false, false, false]) 4 rfl (by kernel_rfl) (by kernel_rfl) (by kernel_rfl) rfl rfl rfl rfl (Yld.move rfl rfl) (fun w hI => hI.pick (is := [0, 3, 4, 5]) (by decide) rfl) ?_
      refine AnyJ.take (fuel := 14) (listed' := #[true, true, true, true, true, true, false, false, false, false, false, false, false, false, false, false, false, false, false, false]) 5 rfl (by kernel_rfl) (by kernel_rfl) (by kernel_rfl) rfl rfl rfl rfl (Yld.nilCheck rfl rfl) (fun w hI => hI.pick (is := [0, 3, 4, 5]) (by decide) rfl) ?_
      refine AnyJ.take (fuel := 13) (listed' := #[true, true, true, true, true, true, true, false, false, false, false, false, false, false, false, false, false, false, false, false]) 6 rfl (by kernel_rfl) (by kernel_rfl) (by kernel_rfl) rfl rfl rfl rfl (Yld.fieldAddr fa_113_4 rfl rfl) (fun w hI => hI.pick (is := [0, 3, 4, 5]) (by decide) rfl) ?_
      refine AnyJ.take (fuel := 12) (listed' := #[true, true, true, true, true, true, true, true, false, false, false, false, false, false, false, false, false, false, false, false]) 7 rfl (by kernel_rfl) (by kernel_rfl) (by kernel_rfl) rfl rfl rfl rfl (Yld.load1 rfl Tryd.underlying111 rfl rfl (fun w hI => Inv.cell1 hI (i := 0) rfl rfl)) (fun w hI => hI.pick (is := [0, 3, 4, 5]) (by decide) rfl) ?_
      refine AnyJ.take (fuel := 11) (listed' := #[true, true, true, true, true, true, true, true, true, false, false, false, false, false, false, false, false, false, false, false]) 8 rfl (by kernel_rfl) (by kernel_rfl) (by kernel_rfl) rfl rfl rfl rfl (Yld.move rfl rfl) (fun w hI => hI.pick (is := [0, 3, 4, 5]) (by decide) rfl) ?_
      refine AnyJ.take (fuel := 10) (listed' := #[true, true, true, true, true, true, true, true, true, true, false, false, false, false, false, false, false, false, false, false]) 9 rfl (by kernel_rfl) (by kernel_rfl) (by kernel_rfl) rfl rfl rfl rfl (Yld.nilCheck rfl rfl) (fun w hI => hI.pick (is := [0, 3, 4, 5]) (by decide) rfl) ?_
      refine AnyJ.take (fuel := 9) (listed' := #[true, true, true, true, true, true, true, true, true, true, true, false, false, false, false, false, false, false, false, false]) 10 rfl (by kernel_rfl) (by kernel_rfl) (by kernel_rfl) rfl rfl rfl rfl (Yld.fieldAddr fa_113_3 rfl rfl) (fun w hI => hI.pick (is := [0, 3, 4, 5]) (by decide) rfl) ?_
      refine AnyJ.take (fuel := 8) (listed' := #[true, true, true, true, true, true, true, true, true, true, true, true, false, false, false, false, false, false, false, false]) 11 rfl (by kernel_rfl) (by kernel_rfl) (by kernel_rfl) rfl rfl rfl rfl (Yld.load1 rfl Tryd.underlying3 rfl rfl (fun w hI => Inv.cell1 hI (i := 0) rfl rfl)) (fun w hI => hI.pick (is := [0, 3, 4, 5]) (by decide) rfl) ?_
      refine AnyJ.one (fuel := 7) 12 (by kernel_rfl) ?_
      refine StepJ.op (listed' := #[true, true, true, true, true, true, true, true, true, true, true, true, true, false, false, false, false, false, false, false]) rfl rfl rfl ?_
      refine OpJ.call (rhPack_spec G (cut255 x.name) hpn (t) x.cls x.ttl x.len httl hd b.start (.slice p b.buf.length c) b.buf b.buf p c r b.m (by omega) hbig hb.small) has_84 rfl rfl rfl rfl rfl [1, 2] [0, 3, 4, 5] (by decide) rfl rfl (fun w hI => ⟨Inv.whole hI (i := 4) rfl, hI.apart (i := 4) rfl (is := [1, 2]) (by decide) rfl hd (by simp [Res.ats]), hge.call hI (is := [1, 2]) rfl⟩) ?_
      rintro _ _ hpost
      rw [hp] at hpost
      obtain ⟨p34, c34, rfl, rfl⟩ := hpost
      refine ⟨fun w hI => hI.pick (is := [2, 3, 4, 5]) (by decide) rfl, ?_⟩
      refine AnyJ.take (fuel := 6) (listed' := #[true, true, true, true, true, true, true, true, true, true, true, true, true, true, false, false, false, false, false, false]) 13 rfl (by kernel_rfl) (by kernel_rfl) (by kernel_rfl) rfl rfl rfl rfl (Yld.move rfl rfl) (fun w hI => hI.pick (is := [2, 3, 4, 5]) (by decide) rfl) ?_
      refine AnyJ.take (fuel := 5) (listed' := #[true, true, true, true, true, true, true, true, true, true, true, true, true, true, true, false, false, false, false, false]) 14 rfl (by kernel_rfl) (by kernel_rfl) (by kernel_rfl) rfl rfl rfl rfl (Yld.extract rfl rfl rfl) (fun w hI => hI.pick (is := [2, 3, 4, 5]) (by decide) rfl) ?_
      refine AnyJ.take (fuel := 4) (listed' := #[true, true, true, true, true, true, true, true, true, true, true, true, true, true, true, true, false, false, false, false]) 15 rfl (by kernel_rfl) (by kernel_rfl) (by kernel_rfl) rfl rfl rfl rfl (Yld.extract rfl rfl rfl) (fun w hI => hI.pick (is := [2, 3, 4, 5]) (by decide) rfl) ?_
      refine AnyJ.take (fuel := 3) (listed' := #[true, true, true, true, true, true, true, true, true, true, true, true, true, true, true, true, true, false, false, false]) 16 rfl (by kernel_rfl) (by kernel_rfl) (by kernel_rfl) rfl rfl rfl rfl (Yld.extract rfl rfl rfl) (fun w hI => hI.pick (is := [2, 3, 4, 5]) (by decide) rfl) ?_
      refine AnyJ.take (fuel := 2) (listed' := #[true, true, true, true, true, true, true, true, true, true, true, true, true, true, true, true, true, true, false, false]) 17 rfl (by kernel_rfl) (by kernel_rfl) (by kernel_rfl) rfl rfl rfl rfl (Yld.assign rfl rfl) (fun w hI => hI.pick (is := [2, 3, 4, 5]) (by decide) rfl) ?_
      refine AnyJ.take (fuel := 1) (listed' := #[true, true, true, true, true, true, true, true, true, true, true, true, true, true, true, true, true, true, true, false]) 18 rfl (by kernel_rfl) (by kernel_rfl) (by kernel_rfl) rfl rfl rfl rfl (Yld.assign rfl rfl) (fun w hI => hI.pick (is := [2, 3, 4, 5]) (by decide) rfl) ?_
      refine AnyJ.take (fuel := 0) (listed' := #[true, true, true, true, true, true, true, true, true, true, true, true, true, true, true, true, true, true, true, true]) 19 rfl (by kernel_rfl) (by kernel_rfl) (by kernel_rfl) rfl rfl rfl rfl (Yld.assign rfl rfl) (fun w hI => hI.pick (is := [2, 3, 4, 5]) (by decide) rfl) ?_
      refine AnyJ.done (by kernel_rfl) ?_
      refine ExJ.thenN ?_
      refine CodeJ.seq ?_
      refine CodeJ.seq ?_
      refine CodeJ.region ?_
      refine OpsJ.yld rfl rfl rfl (Yld.move rfl rfl) ?_
      refine OpsJ.yld rfl rfl rfl (Yld.ifaceNeNil rfl Tryd.underlying69 rfl rfl) ?_
      refine OpsJ.nil ?_
      refine ExJ.thenN ?_
      refine CodeJ.condF rfl ?_
      refine CodeJ.skip ?_
      refine ExJ.thenN ?_
      refine CodeJ.seq ?_
      refine CodeJ.region ?_
      refine OpsJ.yld rfl rfl rfl (Yld.move rfl rfl) ?_
      refine OpsJ.yld rfl rfl rfl (Yld.lenSlice rfl rfl rfl Tryd.underlying31 rfl) ?_
      refine OpsJ.yld rfl rfl rfl (Yld.assign rfl rfl) ?_
      refine OpsJ.nil ?_
      refine ExJ.thenN ?_
      refine CodeJ.seq ?_
      refine CodeJ.seq ?_
      refine CodeJ.any (fuel := 15) (listed := #[false, false, false, false, false, false, false, false, false, false, false, false, false, false, false]) [2, 3, 4] rfl follows_mixed rfl rfl ?_
      refine AnyJ.take (fuel := 14) (listed' := #[true, false, false, false, false, false, false, false, false, false, false, false, false, false, false]) 0 rfl (by kernel_rfl) (by kernel_rfl) (by kernel_rfl) rfl rfl rfl rfl (Yld.move rfl rfl) (fun w hI => hI.pick (is := [2, 3, 4]) (by decide) rfl) ?_
      refine AnyJ.take (fuel := 13) (listed' := #[true, true, false, false, false, false, false, false, false, false, false, false, false, false, false]) 1 rfl (by kernel_rfl) (by kernel_rfl) (by kernel_rfl) rfl rfl rfl rfl (Yld.move rfl rfl) (fun w hI => hI.pick (is := [2, 3, 4]) (by decide) rfl) ?_
      refine AnyJ.take (fuel := 12) (listed' := #[true, true, true, false, false, false, false, false, false, false, false, false, false, false, false]) 2 rfl (by kernel_rfl) (by kernel_rfl) (by kernel_rfl) rfl rfl rfl rfl (Yld.nilCheck rfl rfl) (fun w hI => hI.pick (is := [2, 3, 4]) (by decide) rfl) ?_
      refine AnyJ.take (fuel := 11) (listed' := #[true, true, true, true, false, false, false, false, false, false, false, false, false, false, false]) 3 rfl (by kernel_rfl) (by kernel_rfl) (by kernel_rfl) rfl rfl rfl rfl (Yld.fieldAddr fa_113_4 rfl rfl) (fun w hI => hI.pick (is := [2, 3, 4]) (by decide) rfl) ?_
      refine AnyJ.take (fuel := 10) (listed' := #[true, true, true, true, true, false, false, false, false, false, false, false, false, false, false]) 4 rfl (by kernel_rfl) (by kernel_rfl) (by kernel_rfl) rfl rfl rfl rfl (Yld.load1 rfl Tryd.underlying111 rfl rfl (fun w hI => Inv.cell1 hI (i := 0) rfl rfl)) (fun w hI => hI.pick (is := [2, 3, 4]) (by decide) rfl) ?_
      refine AnyJ.take (fuel := 9) (listed' := #[true, true, true, true, true, true, false, false, false, false, false, false, false, false, false]) 5 rfl (by kernel_rfl) (by kernel_rfl) (by kernel_rfl) rfl rfl rfl rfl (Yld.move rfl rfl) (fun w hI => hI.pick (is := [2, 3, 4]) (by decide) rfl) ?_
      refine AnyJ.take (fuel := 8) (listed' := #[true, true, true, true, true, true, true, false, false, false, false, false, false, false, false]) 6 rfl (by kernel_rfl) (by kernel_rfl) (by kernel_rfl) rfl rfl rfl rfl (Yld.nilCheck rfl rfl) (fun w hI => hI.pick (is := [2, 3, 4]) (by decide) rfl) ?_
      refine AnyJ.take (fuel := 7) (listed' := #[true, true, true, true, true, true, true, true, false, false, false, false, false, false, false]) 7 rfl (by kernel_rfl) (by kernel_rfl) (by kernel_rfl) rfl rfl rfl rfl (Yld.fieldAddr fa_113_3 rfl rfl) (fun w hI => hI.pick (is := [2, 3, 4]) (by decide) rfl) ?_
      refine AnyJ.take (fuel := 6) (listed' := #[true, true, true, true, true, true, true, true, true, false, false, false, false, false, false]) 8 rfl (by kernel_rfl) (by kernel_rfl) (by kernel_rfl) rfl rfl rfl rfl (Yld.load1 rfl Tryd.underlying3 rfl rfl (fun w hI => Inv.cell1 hI (i := 0) rfl rfl)) (fun w hI => hI.pick (is := [2, 3, 4]) (by decide) rfl) ?_
      refine AnyJ.one (fuel := 5) 9 (by kernel_rfl) ?_
      refine StepJ.op (listed' := #[true, true, true, true, true, true, true, true, true, true, false, false, false, false, false]) rfl rfl rfl ?_
      refine OpJ.call (svPack_spec G x hpok pv cv ss q bsq hqq hqb hkd rb b.start (.slice p b.buf.length c) b.buf (b.buf ++ ys ++ rh10 (t) x.cls x.ttl x.len) p34 c34 r m1 (by simp; omega) (by simp [rh10_len]; omega) hm1) has_85 rfl rfl rfl rfl rfl [0, 1, 5] [2, 3, 4] (by decide) rfl rfl (fun w hI => ⟨Inv.whole hI (i := 3) rfl, hI.apart (i := 3) rfl (is := [0, 1, 5]) (by decide) rfl rb (by simp [Res.ats]), hge.call hI (is := [0, 1, 5]) rfl, hI.roGet (i := 5) rfl⟩) ?_
      rintro _ _ hpost
      obtain ⟨H0, hpost, rfl⟩ := hpost
      rw [hrel] at hpost
      rw [hq] at hpost
      obtain ⟨u56, t56, e56, rfl, rfl⟩ := hpost
      refine ⟨fun w hI => hI.pick (is := [3, 4, 5]) (by decide) rfl, ?_⟩
      refine AnyJ.take (fuel := 4) (listed' := #[true, true, true, true, true, true, true, true, true, true, true, false, false, false, false]) 10 rfl (by kernel_rfl) (by kernel_rfl) (by kernel_rfl) rfl rfl rfl rfl (Yld.move rfl rfl) (fun w hI => hI.pick (is := [3, 4, 5]) (by decide) rfl) ?_
      refine AnyJ.take (fuel := 3) (listed' := #[true, true, true, true, true, true, true, true, true, true, true, true, false, false, false]) 11 rfl (by kernel_rfl) (by kernel_rfl) (by kernel_rfl) rfl rfl rfl rfl (Yld.extract rfl rfl rfl) (fun w hI => hI.pick (is := [3, 4, 5]) (by decide) rfl) ?_
      refine AnyJ.take (fuel := 2) (listed' := #[true, true, true, true, true, true, true, true, true, true, true, true, true, false, false]) 12 rfl (by kernel_rfl) (by kernel_rfl) (by kernel_rfl) rfl rfl rfl rfl (Yld.extract rfl rfl rfl) (fun w hI => hI.pick (is := [3, 4, 5]) (by decide) rfl) ?_
      refine AnyJ.take (fuel := 1) (listed' := #[true, true, true, true, true, true, true, true, true, true, true, true, true, true, false]) 13 rfl (by kernel_rfl) (by kernel_rfl) (by kernel_rfl) rfl rfl rfl rfl (Yld.assign rfl rfl) (fun w hI => hI.pick (is := [3, 4, 5]) (by decide) rfl) ?_
      refine AnyJ.take (fuel := 0) (listed' := #[true, true, true, true, true, true, true, true, true, true, true, true, true, true, true]) 14 rfl (by kernel_rfl) (by kernel_rfl) (by kernel_rfl) rfl rfl rfl rfl (Yld.assign rfl rfl) (fun w hI => hI.pick (is := [3, 4, 5]) (by decide) rfl) ?_
      refine AnyJ.done (by kernel_rfl) ?_
      refine ExJ.thenN ?_
      refine CodeJ.seq ?_
      refine CodeJ.region ?_
      refine OpsJ.yld rfl rfl rfl (Yld.move rfl rfl) ?_
      refine OpsJ.yld rfl rfl rfl (Yld.ifaceNeNil rfl Tryd.underlying69 rfl rfl) ?_
      refine OpsJ.nil ?_
      refine ExJ.thenN ?_
      refine CodeJ.condT rfl ?_
      refine CodeJ.seq ?_
      refine CodeJ.region ?_
      refine OpsJ.yld rfl rfl rfl (Yld.move rfl rfl) ?_
      refine OpsJ.yld rfl rfl rfl (Yld.build places_157 zero_157 rfl rfl rfl) ?_
      refine OpsJ.op rfl ?_
      refine OpJ.box rfl rfl rfl rfl fun ne hne => ?_
      refine OpsJ.yld rfl rfl rfl (Yld.makeInterface rfl Tryd.underlying155 rfl rfl) ?_
      refine OpsJ.yld rfl rfl rfl (Yld.assign rfl rfl) ?_
      refine OpsJ.nil ?_
      refine ExJ.thenN ?_
      refine CodeJ.ret ?_
      refine ExJ.thenR ?_
      exact ExJ.ret1 Tryd.results60 rfl ⟨.inr (.inr ⟨rfl, _, rfl⟩), p, c, rfl⟩ fun w hI => hI.pick (is := [4, 1, 2, 3]) (by decide) rfl
    | ok zs m2 =>
      have hzl := hblen _ _ _ _ hq
      have heff : (svAdder t).eff x r.isSome b = (({ b with buf := b.buf ++ ys ++ rh10 (t) x.cls x.ttl zs.length ++ zs, m := m2 } : Bd).incr, 0) := by simp only [svAdder, recAdder, recF, hp, hq]
      simp only [svPk] at hq
      rw [heff]
      refine CodeJ.seq ?_
      refine CodeJ.region ?_
      refine OpsJ.op rfl ?_
      refine OpJ.box rfl rfl rfl rfl fun hd hhd => ?_
      refine OpsJ.op rfl ?_
      refine OpJ.box rfl rfl rfl rfl fun rb hrb => ?_
      refine OpsJ.yld rfl rfl rfl (Yld.assign rfl rfl) ?_
      refine OpsJ.nil ?_
      refine ExJ.thenN ?_
      refine CodeJ.seq ?_
      refine CodeJ.seq ?_
      refine CodeJ.region ?_
      refine OpsJ.yld rfl rfl rfl (Yld.move rfl rfl) ?_
      refine OpsJ.op rfl ?_
      refine OpJ.call (checkRes_ok b bb p c r h3 h5) has_83 rfl rfl rfl rfl rfl [2, 3, 4] [0, 1, 5] (by decide) rfl rfl (fun _ _ => trivial) ?_
      rintro _ _ ⟨rfl, rfl⟩
      refine OpsJ.yld rfl rfl rfl (Yld.assign rfl rfl) ?_
      refine OpsJ.nil ?_
      refine ExJ.thenN ?_
      refine CodeJ.seq ?_
      refine CodeJ.region ?_
      refine OpsJ.yld rfl rfl rfl (Yld.move rfl rfl) ?_
      refine OpsJ.yld rfl rfl rfl (Yld.ifaceNeNil rfl Tryd.underlying69 rfl rfl) ?_
      refine OpsJ.nil ?_
      refine ExJ.thenN ?_
      refine CodeJ.condF rfl ?_
      refine CodeJ.skip ?_
      refine ExJ.thenN ?_
      refine CodeJ.seq ?_
      refine CodeJ.any (fuel := 20) (listed := #[false, false, false, false, false, false, false, false, false, false, false, false, false, false, false, false, false, false, false, false]) [0, 3, 4, 5] rfl follows_mixed rfl rfl ?_
      refine AnyJ.take (fuel := 19) (listed' := #[true, false, false, false, false, false, false, false, false, false, false, false, false, false, false, false, false, false, false, false]) 0 rfl (by kernel_rfl) (by kernel_rfl) (by kernel_rfl) rfl rfl rfl rfl (Yld.move rfl rfl) (fun w hI => hI.pick (is := [0, 3, 4, 5]) (by decide) rfl) ?_
      refine AnyJ.take (fuel := 18) (listed' := #[true, true, false, false, false, false, false, false, false, false, false, false, false, false, false, false, false, false, false, false]) 1 rfl (by kernel_rfl) (by kernel_rfl) (by kernel_rfl) rfl rfl rfl rfl (Yld.nilCheck rfl rfl) (fun w hI => hI.pick (is := [0, 3, 4, 5]) (by decide) rfl) ?_
      refine AnyJ.take (fuel := 17) (listed' := #[true, true, true, false, false, false, false, false, false, false, false, false, false, false, false, false, false, false, false, false]) 2 rfl (by kernel_rfl) (by kernel_rfl) (by kernel_rfl) rfl rfl rfl rfl (Yld.fieldAddr fa_113_0 rfl rfl) (fun w hI => hI.pick (is := [0, 3, 4, 5]) (by decide) rfl) ?_
      refine AnyJ.take (fuel := 16) (listed' := #[true, true, true, true, false, false, false, false, false, false, false, false, false, false, false, false, false, false, false, false]) 3 rfl (by kernel_rfl) (by kernel_rfl) (by kernel_rfl) rfl rfl rfl rfl (Yld.load1 rfl Tryd.underlying31 rfl rfl (fun w hI => Inv.cell1 hI (i := 0) rfl rfl)) (fun w hI => hI.pick (is := [0, 3, 4, 5]) (by decide) rfl) ?_
      refine AnyJ.take (fuel := 15) (listed' := #[true, true, true, true, true, false, false, false, false, false, false, false, false, false, false, false, false, false, false, false]) 4 rfl (by kernel_rfl) (by kernel_rfl) (by kernel_rfl) rfl rfl rfl rfl (Yld.move rfl rfl) (fun w hI => hI.pick (is := [0, 3, 4, 5]) (by decide) rfl) ?_
      refine AnyJ.take (fuel := 14) (listed' := #[true, true, true, true, true, true, false, false, false, false, false, false, false, false, false, false, false, false, false, false]) 5 rfl (by kernel_rfl) (by kernel_rfl) (by kernel_rfl) rfl rfl rfl rfl (Yld.nilCheck rfl rfl) (fun w hI => hI.pick (is := [0, 3, 4, 5]) (by decide) rfl) ?_
      refine AnyJ.take (fuel := 13) (listed' := #[true, true, true, true, true, true, true, false, false, false, false, false, false, false, false, false, false, false, false, false]) 6 rfl (by kernel_rfl) (by kernel_rfl) (by kernel_rfl) rfl rfl rfl rfl (Yld.fieldAddr fa_113_4 rfl rfl) (fun w hI => hI.pick (is := [0, 3, 4, 5]) (by decide) rfl) ?_
      refine AnyJ.take (fuel := 12) (listed' := #[true, true, true, true, true, true, true, true, false, false, false, false, false, false, false, false, false, false, false, false]) 7 rfl (by kernel_rfl) (by kernel_rfl) (by kernel_rfl) rfl rfl rfl rfl (Yld.load1 rfl Tryd.underlying111 rfl rfl (fun w hI => Inv.cell1 hI (i := 0) rfl rfl)) (fun w hI => hI.pick (is := [0, 3, 4, 5]) (by decide) rfl) ?_
      refine AnyJ.take (fuel := 11) (listed' := #[true, true, true, true, true, true, true, true, true, false, false, false, false, false, false, false, false, false, false, false]) 8 rfl (by kernel_rfl) (by kernel_rfl) (by kernel_rfl) rfl rfl rfl rfl (Yld.move rfl rfl) (fun w hI => hI.pick (is := [0, 3, 4, 5]) (by decide) rfl) ?_
      refine AnyJ.take (fuel := 10) (listed' := #[true, true, true, true, true, true, true, true, true, true, false, false, false, false, false, false, false, false, false, false]) 9 rfl (by kernel_rfl) (by kernel_rfl) (by kernel_rfl) rfl rfl rfl rfl (Yld.nilCheck rfl rfl) (fun w hI => hI.pick (is := [0, 3, 4, 5]) (by decide) rfl) ?_
      refine AnyJ.take (fuel := 9) (listed' := #[true, true, true, true, true, true, true, true, true, true, true, false, false, false, false, false, false, false, false, false]) 10 rfl (by kernel_rfl) (by kernel_rfl) (by kernel_rfl) rfl rfl rfl rfl (Yld.fieldAddr fa_113_3 rfl rfl) (fun w hI => hI.pick (is := [0, 3, 4, 5]) (by decide) rfl) ?_
      refine AnyJ.take (fuel := 8) (listed' := #[true, true, true, true, true, true, true, true, true, true, true, true, false, false, false, false, false, false, false, false]) 11 rfl (by kernel_rfl) (by kernel_rfl) (by kernel_rfl) rfl rfl rfl rfl (Yld.load1 rfl Tryd.underlying3 rfl rfl (fun w hI => Inv.cell1 hI (i := 0) rfl rfl)) (fun w hI => hI.pick (is := [0, 3, 4, 5]) (by decide) rfl) ?_
      refine AnyJ.one (fuel := 7) 12 (by kernel_rfl) ?_
      refine StepJ.op (listed' := #[true, true, true, true, true, true, true, true, true, true, true, true, true, false, false, false, false, false, false, false]) rfl rfl rfl ?_
      refine OpJ.call (rhPack_spec G (cut255 x.name) hpn (t) x.cls x.ttl x.len httl hd b.start (.slice p b.buf.length c) b.buf b.buf p c r b.m (by omega) hbig hb.small) has_84 rfl rfl rfl rfl rfl [1, 2] [0, 3, 4, 5] (by decide) rfl rfl (fun w hI => ⟨Inv.whole hI (i := 4) rfl, hI.apart (i := 4) rfl (is := [1, 2]) (by decide) rfl hd (by simp [Res.ats]), hge.call hI (is := [1, 2]) rfl⟩) ?_
      rintro _ _ hpost
      rw [hp] at hpost
      obtain ⟨p34, c34, rfl, rfl⟩ := hpost
      refine ⟨fun w hI => hI.pick (is := [2, 3, 4, 5]) (by decide) rfl, ?_⟩
      refine AnyJ.take (fuel := 6) (listed' := #[true, true, true, true, true, true, true, true, true, true, true, true, true, true, false, false, false, false, false, false]) 13 rfl (by kernel_rfl) (by kernel_rfl) (by kernel_rfl) rfl rfl rfl rfl (Yld.move rfl rfl) (fun w hI => hI.pick (is := [2, 3, 4, 5]) (by decide) rfl) ?_
      refine AnyJ.take (fuel := 5) (listed' := #[true, true, true, true, true, true, true, true, true, true, true, true, true, true, true, false, false, false, false, false]) 14 rfl (by kernel_rfl) (by kernel_rfl) (by kernel_rfl) rfl rfl rfl rfl (Yld.extract rfl rfl rfl) (fun w hI => hI.pick (is := [2, 3, 4, 5]) (by decide) rfl) ?_
      refine AnyJ.take (fuel := 4) (listed' := #[true, true, true, true, true, true, true, true, true, true, true, true, true, true, true, true, false, false, false, false]) 15 rfl (by kernel_rfl) (by kernel_rfl) (by kernel_rfl) rfl rfl rfl rfl (Yld.extract rfl rfl rfl) (fun w hI => hI.pick (is := [2, 3, 4, 5]) (by decide) rfl) ?_
      refine AnyJ.take (fuel := 3) (listed' := #[true, true, true, true, true, true, true, true, true, true, true, true, true, true, true, true, true, false, false, false]) 16 rfl (by kernel_rfl) (by kernel_rfl) (by kernel_rfl) rfl rfl rfl rfl (Yld.extract rfl rfl rfl) (fun w hI => hI.pick (is := [2, 3, 4, 5]) (by decide) rfl) ?_
      refine AnyJ.take (fuel := 2) (listed' := #[true, true, true, true, true, true, true, true, true, true, true, true, true, true, true, true, true, true, false, false]) 17 rfl (by kernel_rfl) (by kernel_rfl) (by kernel_rfl) rfl rfl rfl rfl (Yld.assign rfl rfl) (fun w hI => hI.pick (is := [2, 3, 4, 5]) (by decide) rfl) ?_
      refine AnyJ.take (fuel := 1) (listed' := #[true, true, true, true, true, true, true, true, true, true, true, true, true, true, true, true, true, true, true, false]) 18 rfl (by kernel_rfl) (by kernel_rfl) (by kernel_rfl) rfl rfl rfl rfl (Yld.assign rfl rfl) (fun w hI => hI.pick (is := [2, 3, 4, 5]) (by decide) rfl) ?_
      refine AnyJ.take (fuel := 0) (listed' := #[true, true, true, true, true, true, true, true, true, true, true, true, true, true, true, true, true, true, true, true]) 19 rfl (by kernel_rfl) (by kernel_rfl) (by kernel_rfl) rfl rfl rfl rfl (Yld.assign rfl rfl) (fun w hI => hI.pick (is := [2, 3, 4, 5]) (by decide) rfl) ?_
      refine AnyJ.done (by kernel_rfl) ?_
      refine ExJ.thenN ?_
      refine CodeJ.seq ?_
      refine CodeJ.seq ?_
      refine CodeJ.region ?_
      refine OpsJ.yld rfl rfl rfl (Yld.move rfl rfl) ?_
      refine OpsJ.yld rfl rfl rfl (Yld.ifaceNeNil rfl Tryd.underlying69 rfl rfl) ?_
      refine OpsJ.nil ?_
      refine ExJ.thenN ?_
      refine CodeJ.condF rfl ?_
      refine CodeJ.skip ?_
      refine ExJ.thenN ?_
      refine CodeJ.seq ?_
      refine CodeJ.region ?_
      refine OpsJ.yld rfl rfl rfl (Yld.move rfl rfl) ?_
      refine OpsJ.yld rfl rfl rfl (Yld.lenSlice rfl rfl rfl Tryd.underlying31 rfl) ?_
      refine OpsJ.yld rfl rfl rfl (Yld.assign rfl rfl) ?_
      refine OpsJ.nil ?_
      refine ExJ.thenN ?_
      refine CodeJ.seq ?_
      refine CodeJ.seq ?_
      refine CodeJ.any (fuel := 15) (listed := #[false, false, false, false, false, false, false, false, false, false, false, false, false, false, false]) [2, 3, 4] rfl follows_mixed rfl rfl ?_
      refine AnyJ.take (fuel := 14) (listed' := #[true, false, false, false, false, false, false, false, false, false, false, false, false, false, false]) 0 rfl (by kernel_rfl) (by kernel_rfl) (by kernel_rfl) rfl rfl rfl rfl (Yld.move rfl rfl) (fun w hI => hI.pick (is := [2, 3, 4]) (by decide) rfl) ?_
      refine AnyJ.take (fuel := 13) (listed' := #[true, true, false, false, false, false, false, false, false, false, false, false, false, false, false]) 1 rfl (by kernel_rfl) (by kernel_rfl) (by kernel_rfl) rfl rfl rfl rfl (Yld.move rfl rfl) (fun w hI => hI.pick (is := [2, 3, 4]) (by decide) rfl) ?_
      refine AnyJ.take (fuel := 12) (listed' := #[true, true, true, false, false, false, false, false, false, false, false, false, false, false, false]) 2 rfl (by kernel_rfl) (by kernel_rfl) (by kernel_rfl) rfl rfl rfl rfl (Yld.nilCheck rfl rfl) (fun w hI => hI.pick (is := [2, 3, 4]) (by decide) rfl) ?_
      refine AnyJ.take (fuel := 11) (listed' := #[true, true, true, true, false, false, false, false, false, false, false, false, false, false, false]) 3 rfl (by kernel_rfl) (by kernel_rfl) (by kernel_rfl) rfl rfl rfl rfl (Yld.fieldAddr fa_113_4 rfl rfl) (fun w hI => hI.pick (is := [2, 3, 4]) (by decide) rfl) ?_
      refine AnyJ.take (fuel := 10) (listed' := #[true, true, true, true, true, false, false, false, false, false, false, false, false, false, false]) 4 rfl (by kernel_rfl) (by kernel_rfl) (by kernel_rfl) rfl rfl rfl rfl (Yld.load1 rfl Tryd.underlying111 rfl rfl (fun w hI => Inv.cell1 hI (i := 0) rfl rfl)) (fun w hI => hI.pick (is := [2, 3, 4]) (by decide) rfl) ?_
      refine AnyJ.take (fuel := 9) (listed' := #[true, true, true, true, true, true, false, false, false, false, false, false, false, false, false]) 5 rfl (by kernel_rfl) (by kernel_rfl) (by kernel_rfl) rfl rfl rfl rfl (Yld.move rfl rfl) (fun w hI => hI.pick (is := [2, 3, 4]) (by decide) rfl) ?_
      refine AnyJ.take (fuel := 8) (listed' := #[true, true, true, true, true, true, true, false, false, false, false, false, false, false, false]) 6 rfl (by kernel_rfl) (by kernel_rfl) (by kernel_rfl) rfl rfl rfl rfl (Yld.nilCheck rfl rfl) (fun w hI => hI.pick (is := [2, 3, 4]) (by decide) rfl) ?_
      refine AnyJ.take (fuel := 7) (listed' := #[true, true, true, true, true, true, true, true, false, false, false, false, false, false, false]) 7 rfl (by kernel_rfl) (by kernel_rfl) (by kernel_rfl) rfl rfl rfl rfl (Yld.fieldAddr fa_113_3 rfl rfl) (fun w hI => hI.pick (is := [2, 3, 4]) (by decide) rfl) ?_
      refine AnyJ.take (fuel := 6) (listed' := #[true, true, true, true, true, true, true, true, true, false, false, false, false, false, false]) 8 rfl (by kernel_rfl) (by kernel_rfl) (by kernel_rfl) rfl rfl rfl rfl (Yld.load1 rfl Tryd.underlying3 rfl rfl (fun w hI => Inv.cell1 hI (i := 0) rfl rfl)) (fun w hI => hI.pick (is := [2, 3, 4]) (by decide) rfl) ?_
      refine AnyJ.one (fuel := 5) 9 (by kernel_rfl) ?_
      refine StepJ.op (listed' := #[true, true, true, true, true, true, true, true, true, true, false, false, false, false, false]) rfl rfl rfl ?_
      refine OpJ.call (svPack_spec G x hpok pv cv ss q bsq hqq hqb hkd rb b.start (.slice p b.buf.length c) b.buf (b.buf ++ ys ++ rh10 (t) x.cls x.ttl x.len) p34 c34 r m1 (by simp; omega) (by simp [rh10_len]; omega) hm1) has_85 rfl rfl rfl rfl rfl [0, 1, 5] [2, 3, 4] (by decide) rfl rfl (fun w hI => ⟨Inv.whole hI (i := 3) rfl, hI.apart (i := 3) rfl (is := [0, 1, 5]) (by decide) rfl rb (by simp [Res.ats]), hge.call hI (is := [0, 1, 5]) rfl, hI.roGet (i := 5) rfl⟩) ?_
      rintro _ _ hpost
      obtain ⟨H0, hpost, rfl⟩ := hpost
      rw [hrel] at hpost
      rw [hq] at hpost
      obtain ⟨p56, c56, rfl, rfl⟩ := hpost
      refine ⟨fun w hI => hI.pick (is := [3, 4, 5]) (by decide) rfl, ?_⟩
      refine AnyJ.take (fuel := 4) (listed' := #[true, true, true, true, true, true, true, true, true, true, true, false, false, false, false]) 10 rfl (by kernel_rfl) (by kernel_rfl) (by kernel_rfl) rfl rfl rfl rfl (Yld.move rfl rfl) (fun w hI => hI.pick (is := [3, 4, 5]) (by decide) rfl) ?_
      refine AnyJ.take (fuel := 3) (listed' := #[true, true, true, true, true, true, true, true, true, true, true, true, false, false, false]) 11 rfl (by kernel_rfl) (by kernel_rfl) (by kernel_rfl) rfl rfl rfl rfl (Yld.extract rfl rfl rfl) (fun w hI => hI.pick (is := [3, 4, 5]) (by decide) rfl) ?_
      refine AnyJ.take (fuel := 2) (listed' := #[true, true, true, true, true, true, true, true, true, true, true, true, true, false, false]) 12 rfl (by kernel_rfl) (by kernel_rfl) (by kernel_rfl) rfl rfl rfl rfl (Yld.extract rfl rfl rfl) (fun w hI => hI.pick (is := [3, 4, 5]) (by decide) rfl) ?_
      refine AnyJ.take (fuel := 1) (listed' := #[true, true, true, true, true, true, true, true, true, true, true, true, true, true, false]) 13 rfl (by kernel_rfl) (by kernel_rfl) (by kernel_rfl) rfl rfl rfl rfl (Yld.assign rfl rfl) (fun w hI => hI.pick (is := [3, 4, 5]) (by decide) rfl) ?_
      refine AnyJ.take (fuel := 0) (listed' := #[true, true, true, true, true, true, true, true, true, true, true, true, true, true, true]) 14 rfl (by kernel_rfl) (by kernel_rfl) (by kernel_rfl) rfl rfl rfl rfl (Yld.assign rfl rfl) (fun w hI => hI.pick (is := [3, 4, 5]) (by decide) rfl) ?_
      refine AnyJ.done (by kernel_rfl) ?_
      refine ExJ.thenN ?_
      refine CodeJ.seq ?_
      refine CodeJ.region ?_
      refine OpsJ.yld rfl rfl rfl (Yld.move rfl rfl) ?_
      refine OpsJ.yld rfl rfl rfl (Yld.ifaceNeNil rfl Tryd.underlying69 rfl rfl) ?_
      refine OpsJ.nil ?_
      refine ExJ.thenN ?_
      refine CodeJ.condF rfl ?_
      refine CodeJ.skip ?_
      refine ExJ.thenN ?_
      refine CodeJ.seq ?_
      refine CodeJ.seq ?_
      refine CodeJ.turnH (fun w hI => hI.sl2 (i := 0) rfl) ?_
      obtain ⟨A, hA⟩ : ∃ A, A = b.buf ++ ys ++ be16 (t) ++ be16 x.cls ++ b4 x.ttl := ⟨_, rfl⟩
      have hA1 : b.buf ++ ys ++ rh10 (t) x.cls x.ttl x.len ++ zs = A ++ be16 x.len ++ zs := by simp [hA, rh10]
      have hA2 : b.buf.length + ys.length + 8 = A.length := by simp [hA, be16_len, b4_len]; omega
      have hA3 : (b.buf ++ ys ++ rh10 (t) x.cls x.ttl x.len).length = A.length + 2 := by simp [hA, rh10_len, be16_len, b4_len]; omega
      have hA4 : b.buf ++ ys ++ rh10 (t) x.cls x.ttl zs.length ++ zs = A ++ be16 zs.length ++ zs := by simp [hA, rh10]
      have hA5 : (A ++ be16 x.len ++ zs).length = (A ++ be16 zs.length ++ zs).length := by simp [be16_len]
      rw [hA4]
      simp only [hA1, hA2, hA3]
      refine CodeJ.region ?_
      refine OpsJ.yld rfl rfl rfl (Yld.move rfl rfl) ?_
      refine OpsJ.yld rfl rfl rfl (Yld.move rfl rfl) ?_
      refine OpsJ.yld rfl rfl rfl (Yld.move rfl rfl) ?_
      refine OpsJ.op rfl ?_
      refine OpJ.call (fixLen_spec hd _ (by rw [List.size_toArray]; exact rhCs_len _ (by omega) _ _ _ _) A zs x.len p56 c56 hzl (by simp only [List.length_append, be16_len]; omega)) has_86 rfl rfl rfl rfl rfl [5, 0] [1, 2, 3, 4] (by decide) rfl rfl (fun _ _ => trivial) ?_
      rintro _ _ ⟨rfl, cs68, rfl⟩
      simp only [hA5]
      refine OpsJ.yld rfl rfl rfl (Yld.assign rfl rfl) ?_
      refine OpsJ.nil ?_
      refine ExJ.thenN ?_
      refine CodeJ.seq ?_
      refine CodeJ.region ?_
      refine OpsJ.yld rfl rfl rfl (Yld.move rfl rfl) ?_
      refine OpsJ.yld rfl rfl rfl (Yld.ifaceNeNil rfl Tryd.underlying69 rfl rfl) ?_
      refine OpsJ.nil ?_
      refine ExJ.thenN ?_
      refine CodeJ.condF rfl ?_
      refine CodeJ.skip ?_
      refine ExJ.thenN ?_
      refine CodeJ.seq ?_
      refine CodeJ.seq ?_
      refine CodeJ.region ?_
      refine OpsJ.yld rfl rfl rfl (Yld.move rfl rfl) ?_
      refine OpsJ.op rfl ?_
      refine OpJ.call (incr_spec G b bb p c r h3 h5 hcnt) has_81 rfl rfl rfl rfl rfl [4] [0, 1, 2, 3, 5] (by decide) rfl rfl (fun w hI => hge.call hI (is := [4]) rfl) ?_
      rintro _ _ ⟨rfl, rfl⟩
      refine OpsJ.yld rfl rfl rfl (Yld.assign rfl rfl) ?_
      refine OpsJ.nil ?_
      refine ExJ.thenN ?_
      refine CodeJ.seq ?_
      refine CodeJ.region ?_
      refine OpsJ.yld rfl rfl rfl (Yld.move rfl rfl) ?_
      refine OpsJ.yld rfl rfl rfl (Yld.ifaceNeNil rfl Tryd.underlying69 rfl rfl) ?_
      refine OpsJ.nil ?_
      refine ExJ.thenN ?_
      refine CodeJ.condF rfl ?_
      refine CodeJ.skip ?_
      refine ExJ.thenN ?_
      refine CodeJ.seq ?_
      refine CodeJ.region ?_
      refine OpsJ.yld rfl rfl rfl (Yld.move rfl rfl) ?_
      refine OpsJ.yld rfl rfl rfl (Yld.move rfl rfl) ?_
      refine OpsJ.yld rfl rfl rfl (Yld.nilCheck rfl rfl) ?_
      refine OpsJ.yld rfl rfl rfl (Yld.fieldAddr fa_113_0 rfl rfl) ?_
      refine OpsJ.op rfl ?_
      refine OpJ.store1 (i := 0) rfl rfl rfl rfl rfl sz_31 rfl rfl ?_
      refine OpsJ.nil ?_
      refine ExJ.thenN ?_
      refine CodeJ.seq ?_
      refine CodeJ.region ?_
      refine OpsJ.yld rfl rfl rfl (Yld.assign rfl rfl) ?_
      refine OpsJ.nil ?_
      refine ExJ.thenN ?_
      refine CodeJ.ret ?_
      exact ExJ.ret1 Tryd.results60 rfl ⟨.inl ⟨rfl, rfl⟩, p56, c56, rfl⟩ fun w hI => hI.pick (is := [0, 2, 3, 4]) (by decide) rfl

end Go.Proofs.YtamobccbioafmaaDoor
