/-
  Contracts of the reference's Ok and MessageWire, given those of the bodies.
-/
import Derived.Test.YtdiememgbnplkaaDoorSpecC
namespace Go.Proofs.YtdiememgbnplkaaDoor
open Go
set_option maxRecDepth 100000

/-- how the bodies of records of a kind are written, and when they can be -/
structure Kind where
  ok : RecD → Bool
  body : RecD → List UInt8
  typ : RecD → Nat
def Kind.recOk (K : Kind) (r : RecD) : Bool := nameOk r.name.data.toList && K.ok r
def Kind.total (K : Kind) (rs : List RecD) : Nat := (rs.map fun r => (K.body r).length).sum
def Kind.okB (K : Kind) (m : MsgD) : Bool :=
  m.asks.all (fun a => nameOk a.name.data.toList) && m.one.all K.recOk && m.two.all K.recOk && m.three.all K.recOk && m.head.ok && decide (m.asks.length < 60000) && decide (m.one.length < 60000) && decide (m.two.length < 60000) && decide (m.three.length < 60000) &&
    decide (K.total (m.one ++ m.two ++ m.three) < 16777216)
def Kind.recWire (K : Kind) (r : RecD) : List UInt8 := wire r.name.data.toList ++ be16 (K.typ r) ++ be16 r.cls ++ (be16 (r.ttl / 65536 % 65536) ++ be16 (r.ttl % 65536)) ++ be16 ((K.body r).length % 65536) ++ K.body r
def Kind.wire (K : Kind) (m : MsgD) : List UInt8 :=
  headWire m.head [m.asks.length, m.one.length, m.two.length, m.three.length] ++ (m.asks.map askWire).flatten ++ ((m.one ++ m.two ++ m.three).map K.recWire).flatten

/-- the contracts that a kind's bodies meet -/
structure Kind.Meets (K : Kind) (rs : List RecD) : Prop where
  ok : ∀ r ∈ rs, Spec Tryd.prog 35 [r.val] [] (fun w => RecOk w r) (fun x H' => x = .bool (K.ok r) ∧ H' = [])
  body : ∀ r ∈ rs, K.ok r = true → Spec Tryd.prog 36 [r.val] [] (fun w => RecOk w r) (RetB 5 (K.body r))
  len : ∀ r ∈ rs, K.ok r = true → (K.body r).length < 65536
theorem Kind.meets_nil (K : Kind) : K.Meets [] := ⟨fun _ h => (by cases h), fun _ h => (by cases h), fun _ h => (by cases h)⟩

theorem total_append (K : Kind) (a b : List RecD) : K.total (a ++ b) = K.total a + K.total b := by simp [Kind.total]
theorem total_le (K : Kind) : ∀ rs : List RecD, (∀ r ∈ rs, (K.body r).length < 65536) → K.total rs ≤ 65536 * rs.length
  | [], _ => by simp [Kind.total]
  | r :: rs, h => by
    have h1 := h r (by simp)
    have h2 := total_le K rs fun x hx => h x (by simp [hx])
    simp only [Kind.total, List.map_cons, List.sum_cons, List.length_cons] at *
    omega
theorem all_take_succ {α : Type} (p : α → Bool) (l : List α) (k : Nat) (x : α) (hx : l[k]? = some x) (h : (l.take k).all p = true) (hp : p x = true) : (l.take (k + 1)).all p = true := by
  rw [take_snoc _ _ _ hx, List.all_append, h]
  simp [hp]
theorem all_false {α : Type} (p : α → Bool) (l : List α) (k : Nat) (x : α) (hx : l[k]? = some x) (hp : p x = false) : l.all p = false := by
  rw [List.all_eq_false]
  exact ⟨x, List.mem_of_getElem? hx, by simp [hp]⟩
theorem i64_add (x y : Nat) (h : x + y ≤ 9223372036854775807) : IntKind.i64.wrap ((x : Int) + (y : Int)) = ((x + y : Nat) : Int) := by
  rw [← i64_wrap (x + y) h]
  rfl

theorem okB_false (K : Kind) (m : MsgD) (h : (m.one ++ m.two ++ m.three).all K.recOk = false) : K.okB m = false := by
  rw [List.all_append, List.all_append] at h
  unfold Kind.okB
  cases h1 : m.one.all K.recOk <;> cases h2 : m.two.all K.recOk <;> cases h3 : m.three.all K.recOk <;> simp_all
theorem okB_rest (K : Kind) (m : MsgD) (ha : m.asks.all (fun a => nameOk a.name.data.toList) = true) (h : (m.one ++ m.two ++ m.three).all K.recOk = true) :
    K.okB m = (m.head.ok && decide (m.asks.length < 60000) && decide (m.one.length < 60000) && decide (m.two.length < 60000) && decide (m.three.length < 60000) && decide (K.total (m.one ++ m.two ++ m.three) < 16777216)) := by
  rw [List.all_append, List.all_append] at h
  simp only [Bool.and_eq_true] at h
  unfold Kind.okB
  rw [ha, h.1.1, h.1.2, h.2]
  simp

theorem ok_spec (K : Kind) (m : MsgD) (hK : K.Meets (m.one ++ m.two ++ m.three)) (hn : ∀ a ∈ m.asks, a.name.size ≤ 140737488355328) (hr : ∀ r ∈ m.one ++ m.two ++ m.three, r.name.size ≤ 140737488355328)
    (hc : m.asks.length + m.one.length + m.two.length + m.three.length ≤ 17592186044416) :
    Spec Tryd.prog 25 [m.val] [] (fun w => MsgOk w m) (fun x H' => x = .bool (K.okB m) ∧ H' = []) := by
  refine Spec.of Tryd.func25 rfl Tryd.ntmps25 rfl fun w0 hm => ?_
  obtain ⟨pa, ca, hva⟩ := hm.asks.shape
  obtain ⟨p1, c1, hv1⟩ := hm.one.1.shape
  obtain ⟨p2, c2, hv2⟩ := hm.two.1.shape
  obtain ⟨p3, c3, hv3⟩ := hm.three.1.shape
  obtain ⟨hd, asksV, qs, oneV, one, twoV, two, threeV, three⟩ := m
  simp only at hva hv1 hv2 hv3 hn hr hc hK
  subst hva hv1 hv2 hv3
  have hma : Asks w0 (.slice pa qs.length ca) qs := hm.asks
  have hrecsAt : ∀ (k : Nat) (v : Value) (l : List RecD), [Value.slice p1 one.length c1, .slice p2 two.length c2, .slice p3 three.length c3][k]? = some v → [one, two, three][k]? = some l → Recs w0 v l ∧ ∃ p c, v = .slice p l.length c := by
    intro k v l h1 h2
    match k with
    | 0 => simp at h1 h2; subst h1 h2; exact ⟨hm.one, _, _, rfl⟩
    | 1 => simp at h1 h2; subst h1 h2; exact ⟨hm.two, _, _, rfl⟩
    | 2 => simp at h1 h2; subst h1 h2; exact ⟨hm.three, _, _, rfl⟩
    | k + 3 => simp at h1
  have hsub : ∀ (k : Nat) (l : List RecD), [one, two, three][k]? = some l → ∀ r ∈ l, r ∈ one ++ two ++ three := by
    intro k l h2 r hr
    match k with
    | 0 => simp at h2; subst h2; simp [hr]
    | 1 => simp at h2; subst h2; simp [hr]
    | 2 => simp at h2; subst h2; simp [hr]
    | k + 3 => simp at h2
  refine CodeJ.seq ?_
  refine CodeJ.region ?_
  refine OpsJ.op rfl ?_
  refine OpJ.box rfl rfl rfl rfl fun mb hmb => ?_
  refine OpsJ.yld rfl rfl rfl (Yld.assign rfl rfl) ?_
  refine OpsJ.nil ?_
  refine ExJ.thenN ?_
  refine CodeJ.seq ?_
  refine CodeJ.region ?_
  refine OpsJ.yld rfl rfl rfl (Yld.assign rfl rfl) ?_
  refine OpsJ.nil ?_
  refine ExJ.thenN ?_
  refine CodeJ.seq ?_
  refine CodeJ.seq ?_
  refine CodeJ.region ?_
  refine OpsJ.yld rfl rfl rfl (Yld.fieldAddr fa_55_1 rfl rfl) ?_
  refine OpsJ.yld rfl rfl rfl (Yld.load1 rfl Tryd.underlying52 rfl rfl (fun w hI => Inv.cell1 hI (i := 0) rfl rfl)) ?_
  refine OpsJ.yld rfl rfl rfl (Yld.lenSlice rfl rfl rfl Tryd.underlying52 rfl) ?_
  refine OpsJ.yld rfl rfl rfl (Yld.move rfl rfl) ?_
  refine OpsJ.nil ?_
  refine ExJ.thenN ?_
  refine CodeJ.block ?_
  refine CodeJ.loopP (fun L H m => ∃ k : Nat, k ≤ qs.length ∧ (qs.take k).all (fun a => nameOk a.name.data.toList) = true ∧ L = [(1, .pointer (some ⟨mb, 0, none⟩)), (3, .int .i64 0), (11, .slice pa qs.length ca), (12, .int .i64 qs.length), (13, .int .i64 k)] ∧ H = [.blk mb (MsgD.cells ⟨hd, .slice pa qs.length ca, qs, .slice p1 one.length c1, one, .slice p2 two.length c2, two, .slice p3 three.length c3, three⟩).toArray 55] ∧ m = qs.length - k) ⟨0, Nat.zero_le _, rfl, rfl, rfl, rfl⟩ ⟨rfl, rfl, rfl, rfl, rfl, trivial⟩ (fun w hI => hI) ?_
  rintro _ _ _ ⟨k, hk, hall, rfl, rfl, rfl⟩
  refine CodeJ.seq ?_
  refine CodeJ.region ?_
  refine OpsJ.yld rfl rfl rfl (Yld.intBin rfl rfl rfl rfl) ?_
  refine OpsJ.nil ?_
  refine ExJ.thenN ?_
  refine CodeJ.seq ?_
  refine CodeJ.condP rfl (fun c14 => ?_) (fun c14 => ?_)
  · have hk' : k < qs.length := by omega
    obtain ⟨x, hx⟩ : ∃ x, qs[k]? = some x := ⟨qs[k], List.getElem?_eq_getElem hk'⟩
    obtain ⟨b, off, c, hpv, hcell⟩ := Row.at hma (by simp [AskD.cells]) (by simp) hk'
    simp only [Value.slice.injEq] at hpv
    obtain ⟨rfl, _, rfl⟩ := hpv
    have hcx := hcell x.cells (by simp [hx])
    refine CodeJ.skip ?_
    refine ExJ.thenN ?_
    refine CodeJ.seq ?_
    refine CodeJ.block ?_
    refine CodeJ.seq ?_
    refine CodeJ.region ?_
    refine OpsJ.yld rfl rfl rfl (Yld.indexAddr rfl Tryd.underlying52 sz_69 rfl rfl hk') ?_
    refine OpsJ.yld rfl rfl rfl (Yld.loadN (vs := x.cells) rfl Tryd.underlying69 rfl sz_69 rfl (fun w hI => hI.old hcx (by simp [fp]))) ?_
    refine OpsJ.op rfl ?_
    refine OpJ.alloc rfl rfl rfl zero_69 fun ab hab => ?_
    refine OpsJ.op rfl ?_
    refine OpJ.storeW (i := 0) rfl rfl rfl rfl sz_69 rfl rfl rfl ?_
    refine OpsJ.nil ?_
    refine ExJ.thenN ?_
    refine CodeJ.seq ?_
    refine CodeJ.region ?_
    refine OpsJ.yld rfl rfl rfl (Yld.fieldAddr fa_69_0 rfl rfl) ?_
    refine OpsJ.yld rfl rfl rfl (Yld.load1 rfl Tryd.underlying9 rfl rfl (fun w hI => Inv.cell1 hI (i := 0) rfl rfl)) ?_
    refine OpsJ.op rfl ?_
    refine OpJ.call (nameOk_spec x.name (hn x (List.mem_of_getElem? hx))) has_18 rfl rfl rfl rfl rfl [] [0, 1] (by decide) rfl rfl (fun _ _ => trivial) ?_
    rintro _ _ ⟨rfl, rfl⟩
    refine OpsJ.yld rfl rfl rfl (Yld.not rfl rfl) ?_
    refine OpsJ.nil ?_
    refine ExJ.thenN ?_
    refine CodeJ.cond rfl (fun c20 => ?_) (fun c20 => ?_)
    · have hok : nameOk x.name.data.toList = false := by simpa using c20
      refine CodeJ.seq ?_
      refine CodeJ.region ?_
      refine OpsJ.yld rfl rfl rfl (Yld.assign rfl rfl) ?_
      refine OpsJ.nil ?_
      refine ExJ.thenN ?_
      refine CodeJ.ret ?_
      refine ExJ.blockR ?_
      refine ExJ.thenR ?_
      refine ExJ.thenR ?_
      refine ExJ.blockR ?_
      refine ExJ.thenR ?_
      exact ExJ.ret1 Tryd.results25 rfl ⟨by simp [Kind.okB, all_false (fun a : AskD => nameOk a.name.data.toList) _ _ _ hx hok], rfl⟩ fun w hI => hI.pick (is := []) (by decide) rfl
    · have hok : nameOk x.name.data.toList = true := by simpa using c20
      refine CodeJ.skip ?_
      refine ExJ.blockN ?_
      refine ExJ.thenN ?_
      refine CodeJ.region ?_
      refine OpsJ.yld rfl rfl rfl (Yld.intBin rfl rfl rfl rfl) ?_
      rw [i64_succ k (by omega)]
      refine OpsJ.yld rfl rfl rfl (Yld.move rfl rfl) ?_
      refine OpsJ.nil ?_
      exact ExJ.againP ⟨k + 1, by omega, all_take_succ _ _ _ _ hx hall hok, rfl, rfl, rfl⟩ (by omega) ⟨rfl, rfl, rfl, rfl, rfl, trivial⟩ fun w hI => hI.pick (is := [1]) (by decide) rfl
  · obtain rfl : k = qs.length := by omega
    rw [List.take_length] at hall
    refine CodeJ.exit ?_
    refine ExJ.thenX ?_
    refine ExJ.thenX ?_
    refine ExJ.blockHit ?_
    refine ExJ.thenN ?_
    refine CodeJ.seq ?_
    refine CodeJ.seq ?_
    refine CodeJ.region ?_
    refine OpsJ.yld rfl rfl rfl (Yld.fieldAddr fa_55_2 rfl rfl) ?_
    refine OpsJ.yld rfl rfl rfl (Yld.load1 rfl Tryd.underlying53 rfl rfl (fun w hI => Inv.cell1 hI (i := 0) rfl rfl)) ?_
    refine OpsJ.yld rfl rfl rfl (Yld.fieldAddr fa_55_3 rfl rfl) ?_
    refine OpsJ.yld rfl rfl rfl (Yld.load1 rfl Tryd.underlying53 rfl rfl (fun w hI => Inv.cell1 hI (i := 0) rfl rfl)) ?_
    refine OpsJ.yld rfl rfl rfl (Yld.fieldAddr fa_55_4 rfl rfl) ?_
    refine OpsJ.yld rfl rfl rfl (Yld.load1 rfl Tryd.underlying53 rfl rfl (fun w hI => Inv.cell1 hI (i := 0) rfl rfl)) ?_
    refine OpsJ.op rfl ?_
    refine OpJ.buildSlice (xs := [.tmp 23, .tmp 25, .tmp 27]) elt_71 rfl rfl rfl rfl rfl rfl (by rfl) (by decide) fun lists hlists => ?_
    refine OpsJ.yld rfl rfl rfl (Yld.lenSlice rfl rfl rfl Tryd.underlying71 rfl) ?_
    refine OpsJ.yld rfl rfl rfl (Yld.move rfl rfl) ?_
    refine OpsJ.nil ?_
    refine ExJ.thenN ?_
    refine CodeJ.block ?_
    refine CodeJ.loopP (fun L H m => ∃ k : Nat, k ≤ 3 ∧ ([one, two, three].take k).flatten.all K.recOk = true ∧ L = [(1, .pointer (some ⟨mb, 0, none⟩)), (3, .int .i64 (K.total ([one, two, three].take k).flatten)), (28, .slice (some ⟨lists, 0, none⟩) 3 3), (29, .int .i64 3), (30, .int .i64 k)] ∧
    H = [own 53 1 (.slice (some ⟨lists, 0, none⟩) 3 3) 3 [.slice p1 one.length c1, .slice p2 two.length c2, .slice p3 three.length c3], .blk mb (MsgD.cells ⟨hd, .slice pa qs.length ca, qs, .slice p1 one.length c1, one, .slice p2 two.length c2, two, .slice p3 three.length c3, three⟩).toArray 55] ∧ m = 3 - k) ⟨0, by omega, rfl, rfl, rfl, rfl⟩ ⟨rfl, rfl, rfl, rfl, rfl, trivial⟩ (fun w hI => hI) ?_
    rintro _ _ _ ⟨k2, hk2, hall2, rfl, rfl, rfl⟩
    refine CodeJ.seq ?_
    refine CodeJ.region ?_
    refine OpsJ.yld rfl rfl rfl (Yld.intBin rfl rfl rfl rfl) ?_
    refine OpsJ.nil ?_
    refine ExJ.thenN ?_
    refine CodeJ.seq ?_
    refine CodeJ.condP rfl (fun c31 => ?_) (fun c31 => ?_)
    · have hk3 : k2 < 3 := by omega
      obtain ⟨l, hl⟩ : ∃ l, [one, two, three][k2]? = some l := ⟨[one, two, three][k2], List.getElem?_eq_getElem (by simpa using hk3)⟩
      obtain ⟨v, hv⟩ : ∃ v, [Value.slice p1 one.length c1, .slice p2 two.length c2, .slice p3 three.length c3][k2]? = some v := ⟨_, List.getElem?_eq_getElem (by simpa using hk3)⟩
      obtain ⟨hrecs, pl, cl, rfl⟩ := hrecsAt k2 v l hv hl
      have hmem := hsub k2 l hl
      have hll : l.length ≤ 17592186044416 := by
        match k2 with
        | 0 => simp at hl; subst hl; omega
        | 1 => simp at hl; subst hl; omega
        | 2 => simp at hl; subst hl; omega
        | k + 3 => simp at hl
      have hdone : ([one, two, three].take k2).flatten.length ≤ 17592186044416 := by
        match k2 with
        | 0 => simp
        | 1 => simp; omega
        | 2 => simp; omega
        | k + 3 => omega
      have hdb : ∀ r ∈ ([one, two, three].take k2).flatten, (K.body r).length < 65536 := fun r hr => by
        have h1 := List.all_eq_true.1 hall2 r hr
        simp only [Kind.recOk, Bool.and_eq_true] at h1
        refine hK.len r ?_ h1.2
        obtain ⟨l', hl', hr'⟩ := List.mem_flatten.1 hr
        obtain ⟨j, hj⟩ := List.getElem?_of_mem (List.mem_of_mem_take hl')
        exact hsub j l' hj r hr'
      have htk := total_le K _ hdb
      have hnxt : ([one, two, three].take (k2 + 1)).flatten = ([one, two, three].take k2).flatten ++ l := by
        rw [take_snoc _ _ _ hl]
        simp
      refine CodeJ.skip ?_
      refine ExJ.thenN ?_
      refine CodeJ.seq ?_
      refine CodeJ.block ?_
      refine CodeJ.seq ?_
      refine CodeJ.region ?_
      refine OpsJ.yld rfl rfl rfl (Yld.indexAddr rfl Tryd.underlying71 sz_53 rfl rfl hk3) ?_
      refine OpsJ.yld rfl rfl rfl (Yld.load1 rfl Tryd.underlying53 rfl rfl (fun w hI => (Own.cells (hI.hs _ (List.mem_of_getElem? (i := 0) rfl)).1 _ _ _ _ rfl).2.2.one hv)) ?_
      refine OpsJ.yld rfl rfl rfl (Yld.assign rfl rfl) ?_
      refine OpsJ.nil ?_
      refine ExJ.thenN ?_
      refine CodeJ.seq ?_
      refine CodeJ.region ?_
      refine OpsJ.yld rfl rfl rfl (Yld.move rfl rfl) ?_
      refine OpsJ.yld rfl rfl rfl (Yld.lenSlice rfl rfl rfl Tryd.underlying53 rfl) ?_
      refine OpsJ.yld rfl rfl rfl (Yld.move rfl rfl) ?_
      refine OpsJ.nil ?_
      refine ExJ.thenN ?_
      refine CodeJ.block ?_
      refine CodeJ.loopP (fun L H m => ∃ j : Nat, j ≤ l.length ∧ (l.take j).all K.recOk = true ∧ L = [(1, .pointer (some ⟨mb, 0, none⟩)), (3, .int .i64 (K.total (([one, two, three].take k2).flatten ++ l.take j) : Nat)), (28, .slice (some ⟨lists, 0, none⟩) 3 3), (29, .int .i64 3), (30, .int .i64 k2), (34, .slice pl l.length cl), (35, .int .i64 l.length), (36, .int .i64 j)] ∧
      H = [own 53 1 (.slice (some ⟨lists, 0, none⟩) 3 3) 3 [.slice p1 one.length c1, .slice p2 two.length c2, .slice p3 three.length c3], .blk mb (MsgD.cells ⟨hd, .slice pa qs.length ca, qs, .slice p1 one.length c1, one, .slice p2 two.length c2, two, .slice p3 three.length c3, three⟩).toArray 55] ∧ m = l.length - j) ⟨0, by omega, rfl, rfl, rfl, rfl⟩ ⟨rfl, by simp; rfl, rfl, rfl, rfl, rfl, rfl, rfl, trivial⟩ (fun w hI => hI) ?_
      rintro _ _ _ ⟨j, hj, hall3, rfl, rfl, rfl⟩
      refine CodeJ.seq ?_
      refine CodeJ.region ?_
      refine OpsJ.yld rfl rfl rfl (Yld.intBin rfl rfl rfl rfl) ?_
      refine OpsJ.nil ?_
      refine ExJ.thenN ?_
      refine CodeJ.seq ?_
      refine CodeJ.condP rfl (fun c37 => ?_) (fun c37 => ?_)
      · have hj' : j < l.length := by omega
        obtain ⟨x, hx⟩ : ∃ x, l[j]? = some x := ⟨l[j], List.getElem?_eq_getElem hj'⟩
        have hxm : x ∈ l := List.mem_of_getElem? hx
        obtain ⟨b, off, c, hpv, hcell⟩ := Row.at hrecs.1 (by simp [RecD.cells]) (by simp) hj'
        simp only [Value.slice.injEq] at hpv
        obtain ⟨rfl, _, rfl⟩ := hpv
        have hcx := hcell x.cells (by simp [hx])
        have hxok := hrecs.2 x hxm
        refine CodeJ.skip ?_
        refine ExJ.thenN ?_
        refine CodeJ.seq ?_
        refine CodeJ.block ?_
        refine CodeJ.seq ?_
        refine CodeJ.region ?_
        refine OpsJ.yld rfl rfl rfl (Yld.indexAddr rfl Tryd.underlying53 sz_74 rfl rfl hj') ?_
        refine OpsJ.yld rfl rfl rfl (Yld.loadN (vs := x.cells) rfl Tryd.underlying74 rfl sz_74 rfl (fun w hI => hI.old hcx (by simp [fp]))) ?_
        refine OpsJ.op rfl ?_
        refine OpJ.alloc rfl rfl rfl zero_74 fun rb hrb => ?_
        refine OpsJ.op rfl ?_
        refine OpJ.storeW (i := 0) rfl rfl rfl rfl sz_74 rfl hxok.one rfl ?_
        refine OpsJ.nil ?_
        refine ExJ.thenN ?_
        refine CodeJ.seq ?_
        refine CodeJ.seq ?_
        refine CodeJ.region ?_
        refine OpsJ.yld rfl rfl rfl (Yld.fieldAddr fa_74_0 rfl rfl) ?_
        refine OpsJ.yld rfl rfl rfl (Yld.load1 rfl Tryd.underlying9 rfl rfl (fun w hI => Inv.cell1 hI (i := 0) rfl rfl)) ?_
        refine OpsJ.op rfl ?_
        refine OpJ.call (nameOk_spec x.name (hr x (hmem x hxm))) has_18 rfl rfl rfl rfl rfl [] [0, 1, 2] (by decide) rfl rfl (fun _ _ => trivial) ?_
        rintro _ _ ⟨rfl, rfl⟩
        refine OpsJ.yld rfl rfl rfl (Yld.not rfl rfl) ?_
        refine OpsJ.yld rfl rfl rfl (Yld.move rfl rfl) ?_
        refine OpsJ.splitB (s := 44) rfl (fun g44 => ?_) (fun g44 => ?_)
        · have hnok : nameOk x.name.data.toList = false := by simpa using g44
          have hbad : (one ++ two ++ three).all K.recOk = false := List.all_eq_false.2 ⟨x, hmem x hxm, by simp [Kind.recOk, hnok]⟩
          refine OpsJ.opF rfl rfl rfl rfl rfl rfl ?_
          refine OpsJ.opF rfl rfl rfl rfl rfl rfl ?_
          refine OpsJ.opF rfl rfl rfl rfl rfl rfl ?_
          refine OpsJ.yld rfl rfl rfl (Yld.pickT rfl rfl rfl) ?_
          refine OpsJ.nil ?_
          refine ExJ.thenN ?_
          refine CodeJ.condT rfl ?_
          refine CodeJ.seq ?_
          refine CodeJ.region ?_
          refine OpsJ.yld rfl rfl rfl (Yld.assign rfl rfl) ?_
          refine OpsJ.nil ?_
          refine ExJ.thenN ?_
          refine CodeJ.ret ?_
          refine ExJ.thenR ?_
          refine ExJ.blockR ?_
          refine ExJ.thenR ?_
          refine ExJ.thenR ?_
          refine ExJ.blockR ?_
          refine ExJ.blockR ?_
          refine ExJ.thenR ?_
          refine ExJ.thenR ?_
          refine ExJ.blockR ?_
          refine ExJ.thenR ?_
          exact ExJ.ret1 Tryd.results25 rfl ⟨by rw [okB_false K _ hbad], rfl⟩ fun w hI => hI.pick (is := []) (by decide) rfl
        · have hnok : nameOk x.name.data.toList = true := by simpa using g44
          refine OpsJ.opT rfl rfl rfl ?_
          refine OpJ.yld rfl rfl (Yld.loadN (vs := x.cells) rfl Tryd.underlying74 rfl sz_74 rfl (fun w hI => Inv.cells hI (i := 0) rfl rfl (Nat.le_of_ble_eq_true rfl))) ?_
          refine OpsJ.opT rfl rfl rfl ?_
          refine OpJ.call (hK.ok x (hmem x hxm)) has_35 rfl rfl rfl rfl rfl [] [0, 1, 2] (by decide) rfl rfl (fun w hI => hxok.keep0 hI.keep) ?_
          rintro _ _ ⟨rfl, rfl⟩
          refine OpsJ.opT rfl rfl rfl ?_
          refine OpJ.yld rfl rfl (Yld.not rfl rfl) ?_
          refine OpsJ.yld rfl rfl rfl (Yld.pickF rfl rfl rfl) ?_
          refine OpsJ.nil ?_
          refine ExJ.thenN ?_
          refine CodeJ.cond rfl (fun c48 => ?_) (fun c48 => ?_)
          · have hbok : K.ok x = false := by simpa using c48
            have hbad : (one ++ two ++ three).all K.recOk = false := List.all_eq_false.2 ⟨x, hmem x hxm, by simp [Kind.recOk, hbok]⟩
            refine CodeJ.seq ?_
            refine CodeJ.region ?_
            refine OpsJ.yld rfl rfl rfl (Yld.assign rfl rfl) ?_
            refine OpsJ.nil ?_
            refine ExJ.thenN ?_
            refine CodeJ.ret ?_
            refine ExJ.thenR ?_
            refine ExJ.blockR ?_
            refine ExJ.thenR ?_
            refine ExJ.thenR ?_
            refine ExJ.blockR ?_
            refine ExJ.blockR ?_
            refine ExJ.thenR ?_
            refine ExJ.thenR ?_
            refine ExJ.blockR ?_
            refine ExJ.thenR ?_
            exact ExJ.ret1 Tryd.results25 rfl ⟨by rw [okB_false K _ hbad], rfl⟩ fun w hI => hI.pick (is := []) (by decide) rfl
          · have hbok : K.ok x = true := by simpa using c48
            have hrok : K.recOk x = true := by simp [Kind.recOk, hnok, hbok]
            have hxl := hK.len x (hmem x hxm) hbok
            have hlb : ∀ r ∈ l.take j, (K.body r).length < 65536 := fun r hr => by
              have h1 := List.all_eq_true.1 hall3 r hr
              simp only [Kind.recOk, Bool.and_eq_true] at h1
              exact hK.len r (hmem r (List.mem_of_mem_take hr)) h1.2
            have htl := total_le K _ hlb
            have hjl : (l.take j).length ≤ l.length := by simp; omega
            have hsum : K.total (([one, two, three].take k2).flatten ++ l.take (j + 1)) = K.total (([one, two, three].take k2).flatten ++ l.take j) + (K.body x).length := by
              rw [take_snoc _ _ _ hx, ← List.append_assoc, total_append K (([one, two, three].take k2).flatten ++ l.take j) [x]]
              simp [Kind.total]
            have hta := total_append K ([one, two, three].take k2).flatten (l.take j)
            refine CodeJ.skip ?_
            refine ExJ.thenN ?_
            refine CodeJ.region ?_
            refine OpsJ.yld rfl rfl rfl (Yld.move rfl rfl) ?_
            refine OpsJ.yld rfl rfl rfl (Yld.loadN (vs := x.cells) rfl Tryd.underlying74 rfl sz_74 rfl (fun w hI => Inv.cells hI (i := 0) rfl rfl (Nat.le_of_ble_eq_true rfl))) ?_
            refine OpsJ.op rfl ?_
            refine OpJ.call (hK.body x (hmem x hxm) hbok) has_36 rfl rfl rfl rfl rfl [] [0, 1, 2] (by decide) rfl rfl (fun w hI => hxok.keep0 hI.keep) ?_
            rintro _ _ ⟨p51, c51, rfl, rfl⟩
            refine OpsJ.yld rfl rfl rfl (Yld.lenSlice rfl rfl rfl Tryd.underlying29 rfl) ?_
            refine OpsJ.yld rfl rfl rfl (Yld.intBin rfl rfl rfl rfl) ?_
            rw [i64_add _ _ (by omega)]
            refine OpsJ.yld rfl rfl rfl (Yld.assign rfl rfl) ?_
            refine OpsJ.nil ?_
            refine ExJ.blockN ?_
            refine ExJ.thenN ?_
            refine CodeJ.region ?_
            refine OpsJ.yld rfl rfl rfl (Yld.intBin rfl rfl rfl rfl) ?_
            rw [i64_succ j (by omega)]
            refine OpsJ.yld rfl rfl rfl (Yld.move rfl rfl) ?_
            refine OpsJ.nil ?_
            exact ExJ.againP ⟨j + 1, by omega, all_take_succ _ _ _ _ hx hall3 hrok, rfl, rfl, rfl⟩ (by omega) ⟨rfl, by rw [hsum]; rfl, rfl, rfl, rfl, rfl, rfl, rfl, trivial⟩ fun w hI => hI.pick (is := [2, 3]) (by decide) rfl
      · obtain rfl : j = l.length := by omega
        rw [List.take_length] at hall3 ⊢
        have htot : K.total ([one, two, three].take (k2 + 1)).flatten = K.total (([one, two, three].take k2).flatten ++ l) := by rw [hnxt]
        have hall4 : ([one, two, three].take (k2 + 1)).flatten.all K.recOk = true := by rw [hnxt, List.all_append, hall2, hall3]; rfl
        refine CodeJ.exit ?_
        refine ExJ.thenX ?_
        refine ExJ.thenX ?_
        refine ExJ.blockHit ?_
        refine ExJ.blockN ?_
        refine ExJ.thenN ?_
        refine CodeJ.region ?_
        refine OpsJ.yld rfl rfl rfl (Yld.intBin rfl rfl rfl rfl) ?_
        rw [i64_succ k2 (by omega)]
        refine OpsJ.yld rfl rfl rfl (Yld.move rfl rfl) ?_
        refine OpsJ.nil ?_
        exact ExJ.againP ⟨k2 + 1, by omega, hall4, rfl, rfl, rfl⟩ (by omega) ⟨rfl, by rw [htot]; rfl, rfl, rfl, rfl, trivial⟩ fun w hI => hI
    · obtain rfl : k2 = 3 := by omega
      have hfl : ([one, two, three].take 3).flatten = one ++ two ++ three := by simp
      rw [hfl] at hall2 ⊢
      refine CodeJ.exit ?_
      refine ExJ.thenX ?_
      refine ExJ.thenX ?_
      refine ExJ.blockHit ?_
      refine ExJ.thenN ?_
      refine CodeJ.seq ?_
      refine CodeJ.region ?_
      refine OpsJ.yld rfl rfl rfl (Yld.fieldAddr fa_55_0 rfl rfl) ?_
      refine OpsJ.yld rfl rfl rfl (Yld.loadN (vs := headC hd) rfl Tryd.underlying33 rfl sz_33 rfl (fun w hI => Inv.cells hI (i := 1) rfl rfl (Nat.le_of_ble_eq_true rfl))) ?_
      refine OpsJ.op rfl ?_
      refine OpJ.call (headOk_spec hd) has_15 rfl rfl rfl rfl rfl [] [0, 1] (by decide) rfl rfl (fun _ _ => trivial) ?_
      rintro _ _ ⟨rfl, rfl⟩
      refine OpsJ.yld rfl rfl rfl (Yld.move rfl rfl) ?_
      refine OpsJ.splitB (s := 59) rfl (fun g59 => ?_) (fun g59 => ?_)
      · refine OpsJ.opT rfl rfl rfl ?_
        refine OpJ.yld rfl rfl (Yld.fieldAddr fa_55_1 rfl rfl) ?_
        refine OpsJ.opT rfl rfl rfl ?_
        refine OpJ.yld rfl rfl (Yld.load1 rfl Tryd.underlying52 rfl rfl (fun w hI => Inv.cell1 hI (i := 1) rfl rfl)) ?_
        refine OpsJ.opT rfl rfl rfl ?_
        refine OpJ.yld rfl rfl (Yld.lenSlice rfl rfl rfl Tryd.underlying52 rfl) ?_
        refine OpsJ.opT rfl rfl rfl ?_
        refine OpJ.yld rfl rfl (Yld.intBin rfl rfl rfl rfl) ?_
        refine OpsJ.yld rfl rfl rfl (Yld.pickT rfl rfl rfl) ?_
        refine OpsJ.yld rfl rfl rfl (Yld.move rfl rfl) ?_
        refine OpsJ.splitP (s := 65) rfl (fun g65 => ?_) (fun g65 => ?_)
        · have n65 : qs.length < 60000 := by omega
          refine OpsJ.opT rfl rfl rfl ?_
          refine OpJ.yld rfl rfl (Yld.fieldAddr fa_55_2 rfl rfl) ?_
          refine OpsJ.opT rfl rfl rfl ?_
          refine OpJ.yld rfl rfl (Yld.load1 rfl Tryd.underlying53 rfl rfl (fun w hI => Inv.cell1 hI (i := 1) rfl rfl)) ?_
          refine OpsJ.opT rfl rfl rfl ?_
          refine OpJ.yld rfl rfl (Yld.lenSlice rfl rfl rfl Tryd.underlying53 rfl) ?_
          refine OpsJ.opT rfl rfl rfl ?_
          refine OpJ.yld rfl rfl (Yld.intBin rfl rfl rfl rfl) ?_
          refine OpsJ.yld rfl rfl rfl (Yld.pickT rfl rfl rfl) ?_
          refine OpsJ.yld rfl rfl rfl (Yld.move rfl rfl) ?_
          refine OpsJ.splitP (s := 71) rfl (fun g71 => ?_) (fun g71 => ?_)
          · have n71 : one.length < 60000 := by omega
            refine OpsJ.opT rfl rfl rfl ?_
            refine OpJ.yld rfl rfl (Yld.fieldAddr fa_55_3 rfl rfl) ?_
            refine OpsJ.opT rfl rfl rfl ?_
            refine OpJ.yld rfl rfl (Yld.load1 rfl Tryd.underlying53 rfl rfl (fun w hI => Inv.cell1 hI (i := 1) rfl rfl)) ?_
            refine OpsJ.opT rfl rfl rfl ?_
            refine OpJ.yld rfl rfl (Yld.lenSlice rfl rfl rfl Tryd.underlying53 rfl) ?_
            refine OpsJ.opT rfl rfl rfl ?_
            refine OpJ.yld rfl rfl (Yld.intBin rfl rfl rfl rfl) ?_
            refine OpsJ.yld rfl rfl rfl (Yld.pickT rfl rfl rfl) ?_
            refine OpsJ.yld rfl rfl rfl (Yld.move rfl rfl) ?_
            refine OpsJ.splitP (s := 77) rfl (fun g77 => ?_) (fun g77 => ?_)
            · have n77 : two.length < 60000 := by omega
              refine OpsJ.opT rfl rfl rfl ?_
              refine OpJ.yld rfl rfl (Yld.fieldAddr fa_55_4 rfl rfl) ?_
              refine OpsJ.opT rfl rfl rfl ?_
              refine OpJ.yld rfl rfl (Yld.load1 rfl Tryd.underlying53 rfl rfl (fun w hI => Inv.cell1 hI (i := 1) rfl rfl)) ?_
              refine OpsJ.opT rfl rfl rfl ?_
              refine OpJ.yld rfl rfl (Yld.lenSlice rfl rfl rfl Tryd.underlying53 rfl) ?_
              refine OpsJ.opT rfl rfl rfl ?_
              refine OpJ.yld rfl rfl (Yld.intBin rfl rfl rfl rfl) ?_
              refine OpsJ.yld rfl rfl rfl (Yld.pickT rfl rfl rfl) ?_
              refine OpsJ.yld rfl rfl rfl (Yld.move rfl rfl) ?_
              refine OpsJ.splitP (s := 83) rfl (fun g83 => ?_) (fun g83 => ?_)
              · have n83 : three.length < 60000 := by omega
                refine OpsJ.opT rfl rfl rfl ?_
                refine OpJ.yld rfl rfl (Yld.move rfl rfl) ?_
                refine OpsJ.opT rfl rfl rfl ?_
                refine OpJ.yld rfl rfl (Yld.intBin rfl rfl rfl rfl) ?_
                refine OpsJ.yld rfl rfl rfl (Yld.pickT rfl rfl rfl) ?_
                refine OpsJ.yld rfl rfl rfl (Yld.assign rfl rfl) ?_
                refine OpsJ.nil ?_
                refine ExJ.thenN ?_
                refine CodeJ.ret ?_
                exact ExJ.ret1 Tryd.results25 rfl ⟨by rw [okB_rest K _ hall hall2]; simp [g59, n65, n71, n77, n83]; omega, rfl⟩ fun w hI => hI.pick (is := []) (by decide) rfl
              · have n83 : ¬ three.length < 60000 := by omega
                refine OpsJ.opF rfl rfl rfl rfl rfl rfl ?_
                refine OpsJ.opF rfl rfl rfl rfl rfl rfl ?_
                refine OpsJ.yld rfl rfl rfl (Yld.pickF rfl rfl rfl) ?_
                refine OpsJ.yld rfl rfl rfl (Yld.assign rfl rfl) ?_
                refine OpsJ.nil ?_
                refine ExJ.thenN ?_
                refine CodeJ.ret ?_
                exact ExJ.ret1 Tryd.results25 rfl ⟨by rw [okB_rest K _ hall hall2]; simp [g59, n65, n71, n77, n83], rfl⟩ fun w hI => hI.pick (is := []) (by decide) rfl
            · have n77 : ¬ two.length < 60000 := by omega
              refine OpsJ.opF rfl rfl rfl rfl rfl rfl ?_
              refine OpsJ.opF rfl rfl rfl rfl rfl rfl ?_
              refine OpsJ.opF rfl rfl rfl rfl rfl rfl ?_
              refine OpsJ.opF rfl rfl rfl rfl rfl rfl ?_
              refine OpsJ.yld rfl rfl rfl (Yld.pickF rfl rfl rfl) ?_
              refine OpsJ.yld rfl rfl rfl (Yld.move rfl rfl) ?_
              refine OpsJ.opF rfl rfl rfl rfl rfl rfl ?_
              refine OpsJ.opF rfl rfl rfl rfl rfl rfl ?_
              refine OpsJ.yld rfl rfl rfl (Yld.pickF rfl rfl rfl) ?_
              refine OpsJ.yld rfl rfl rfl (Yld.assign rfl rfl) ?_
              refine OpsJ.nil ?_
              refine ExJ.thenN ?_
              refine CodeJ.ret ?_
              exact ExJ.ret1 Tryd.results25 rfl ⟨by rw [okB_rest K _ hall hall2]; simp [g59, n65, n71, n77], rfl⟩ fun w hI => hI.pick (is := []) (by decide) rfl
          · have n71 : ¬ one.length < 60000 := by omega
            refine OpsJ.opF rfl rfl rfl rfl rfl rfl ?_
            refine OpsJ.opF rfl rfl rfl rfl rfl rfl ?_
            refine OpsJ.opF rfl rfl rfl rfl rfl rfl ?_
            refine OpsJ.opF rfl rfl rfl rfl rfl rfl ?_
            refine OpsJ.yld rfl rfl rfl (Yld.pickF rfl rfl rfl) ?_
            refine OpsJ.yld rfl rfl rfl (Yld.move rfl rfl) ?_
            refine OpsJ.opF rfl rfl rfl rfl rfl rfl ?_
            refine OpsJ.opF rfl rfl rfl rfl rfl rfl ?_
            refine OpsJ.opF rfl rfl rfl rfl rfl rfl ?_
            refine OpsJ.opF rfl rfl rfl rfl rfl rfl ?_
            refine OpsJ.yld rfl rfl rfl (Yld.pickF rfl rfl rfl) ?_
            refine OpsJ.yld rfl rfl rfl (Yld.move rfl rfl) ?_
            refine OpsJ.opF rfl rfl rfl rfl rfl rfl ?_
            refine OpsJ.opF rfl rfl rfl rfl rfl rfl ?_
            refine OpsJ.yld rfl rfl rfl (Yld.pickF rfl rfl rfl) ?_
            refine OpsJ.yld rfl rfl rfl (Yld.assign rfl rfl) ?_
            refine OpsJ.nil ?_
            refine ExJ.thenN ?_
            refine CodeJ.ret ?_
            exact ExJ.ret1 Tryd.results25 rfl ⟨by rw [okB_rest K _ hall hall2]; simp [g59, n65, n71], rfl⟩ fun w hI => hI.pick (is := []) (by decide) rfl
        · have n65 : ¬ qs.length < 60000 := by omega
          refine OpsJ.opF rfl rfl rfl rfl rfl rfl ?_
          refine OpsJ.opF rfl rfl rfl rfl rfl rfl ?_
          refine OpsJ.opF rfl rfl rfl rfl rfl rfl ?_
          refine OpsJ.opF rfl rfl rfl rfl rfl rfl ?_
          refine OpsJ.yld rfl rfl rfl (Yld.pickF rfl rfl rfl) ?_
          refine OpsJ.yld rfl rfl rfl (Yld.move rfl rfl) ?_
          refine OpsJ.opF rfl rfl rfl rfl rfl rfl ?_
          refine OpsJ.opF rfl rfl rfl rfl rfl rfl ?_
          refine OpsJ.opF rfl rfl rfl rfl rfl rfl ?_
          refine OpsJ.opF rfl rfl rfl rfl rfl rfl ?_
          refine OpsJ.yld rfl rfl rfl (Yld.pickF rfl rfl rfl) ?_
          refine OpsJ.yld rfl rfl rfl (Yld.move rfl rfl) ?_
          refine OpsJ.opF rfl rfl rfl rfl rfl rfl ?_
          refine OpsJ.opF rfl rfl rfl rfl rfl rfl ?_
          refine OpsJ.opF rfl rfl rfl rfl rfl rfl ?_
          refine OpsJ.opF rfl rfl rfl rfl rfl rfl ?_
          refine OpsJ.yld rfl rfl rfl (Yld.pickF rfl rfl rfl) ?_
          refine OpsJ.yld rfl rfl rfl (Yld.move rfl rfl) ?_
          refine OpsJ.opF rfl rfl rfl rfl rfl rfl ?_
          refine OpsJ.opF rfl rfl rfl rfl rfl rfl ?_
          refine OpsJ.yld rfl rfl rfl (Yld.pickF rfl rfl rfl) ?_
          refine OpsJ.yld rfl rfl rfl (Yld.assign rfl rfl) ?_
          refine OpsJ.nil ?_
          refine ExJ.thenN ?_
          refine CodeJ.ret ?_
          exact ExJ.ret1 Tryd.results25 rfl ⟨by rw [okB_rest K _ hall hall2]; simp [g59, n65], rfl⟩ fun w hI => hI.pick (is := []) (by decide) rfl
      · refine OpsJ.opF rfl rfl rfl rfl rfl rfl ?_
        refine OpsJ.opF rfl rfl rfl rfl rfl rfl ?_
        refine OpsJ.opF rfl rfl rfl rfl rfl rfl ?_
        refine OpsJ.opF rfl rfl rfl rfl rfl rfl ?_
        refine OpsJ.yld rfl rfl rfl (Yld.pickF rfl rfl rfl) ?_
        refine OpsJ.yld rfl rfl rfl (Yld.move rfl rfl) ?_
        refine OpsJ.opF rfl rfl rfl rfl rfl rfl ?_
        refine OpsJ.opF rfl rfl rfl rfl rfl rfl ?_
        refine OpsJ.opF rfl rfl rfl rfl rfl rfl ?_
        refine OpsJ.opF rfl rfl rfl rfl rfl rfl ?_
        refine OpsJ.yld rfl rfl rfl (Yld.pickF rfl rfl rfl) ?_
        refine OpsJ.yld rfl rfl rfl (Yld.move rfl rfl) ?_
        refine OpsJ.opF rfl rfl rfl rfl rfl rfl ?_
        refine OpsJ.opF rfl rfl rfl rfl rfl rfl ?_
        refine OpsJ.opF rfl rfl rfl rfl rfl rfl ?_
        refine OpsJ.opF rfl rfl rfl rfl rfl rfl ?_
        refine OpsJ.yld rfl rfl rfl (Yld.pickF rfl rfl rfl) ?_
        refine OpsJ.yld rfl rfl rfl (Yld.move rfl rfl) ?_
        refine OpsJ.opF rfl rfl rfl rfl rfl rfl ?_
        refine OpsJ.opF rfl rfl rfl rfl rfl rfl ?_
        refine OpsJ.opF rfl rfl rfl rfl rfl rfl ?_
        refine OpsJ.opF rfl rfl rfl rfl rfl rfl ?_
        refine OpsJ.yld rfl rfl rfl (Yld.pickF rfl rfl rfl) ?_
        refine OpsJ.yld rfl rfl rfl (Yld.move rfl rfl) ?_
        refine OpsJ.opF rfl rfl rfl rfl rfl rfl ?_
        refine OpsJ.opF rfl rfl rfl rfl rfl rfl ?_
        refine OpsJ.yld rfl rfl rfl (Yld.pickF rfl rfl rfl) ?_
        refine OpsJ.yld rfl rfl rfl (Yld.assign rfl rfl) ?_
        refine OpsJ.nil ?_
        refine ExJ.thenN ?_
        refine CodeJ.ret ?_
        exact ExJ.ret1 Tryd.results25 rfl ⟨by rw [okB_rest K _ hall hall2]; simp [g59], rfl⟩ fun w hI => hI.pick (is := []) (by decide) rfl

theorem wire_le (s : ByteArray) (h : s.size ≤ 254) : (wire s.data.toList).length ≤ 509 := by
  have := wst_le s.data.toList
  rw [str_len] at this
  simp [wire]
  omega
theorem nameOk_size (s : ByteArray) (h : nameOk s.data.toList = true) : s.size ≤ 254 := by
  simp only [nameOk, Bool.or_eq_true, Bool.and_eq_true, decide_eq_true_eq, str_len] at h
  rcases h with h | h
  · have h1 : s.data.toList = [46] := by simpa using h
    have : s.data.toList.length = 1 := by rw [h1]; rfl
    rw [str_len] at this
    omega
  · exact h.2
theorem flatten_le {α : Type} (f : α → List UInt8) (c : Nat) : ∀ l : List α, (∀ x ∈ l, (f x).length ≤ c) → ((l.map f).flatten).length ≤ c * l.length
  | [], _ => by simp
  | x :: l, h => by
    have h1 := h x (by simp)
    have h2 := flatten_le f c l fun y hy => h y (by simp [hy])
    simp only [List.map_cons, List.flatten_cons, List.length_append, List.length_cons, Nat.mul_add]
    omega

/-- what MessageWire needs of the records -/
structure Kind.Writes (K : Kind) (rs : List RecD) : Prop where
  wr : ∀ r ∈ rs, Spec Tryd.prog 30 [r.val] [] (fun w => RecOk w r) (RetB 5 (K.recWire r))
  len : ∀ r ∈ rs, (K.recWire r).length ≤ 70000
theorem Kind.writes_nil (K : Kind) : K.Writes [] := ⟨fun _ h => (by cases h), fun _ h => (by cases h)⟩

theorem messageWire_spec (K : Kind) (m : MsgD) (hw : m.head.wf) (hK : K.Writes (m.one ++ m.two ++ m.three)) (hn : ∀ a ∈ m.asks, a.name.size ≤ 254)
    (hc : m.asks.length < 60000 ∧ m.one.length < 60000 ∧ m.two.length < 60000 ∧ m.three.length < 60000) :
    Spec Tryd.prog 19 [m.val] [] (fun w => MsgOk w m) (RetB 5 (K.wire m)) := by
  refine Spec.of Tryd.func19 rfl Tryd.ntmps19 rfl fun w0 hm => ?_
  obtain ⟨pa, ca, hva⟩ := hm.asks.shape
  obtain ⟨p1, c1, hv1⟩ := hm.one.1.shape
  obtain ⟨p2, c2, hv2⟩ := hm.two.1.shape
  obtain ⟨p3, c3, hv3⟩ := hm.three.1.shape
  obtain ⟨hd, asksV, qs, oneV, one, twoV, two, threeV, three⟩ := m
  simp only at hva hv1 hv2 hv3 hn hc hK hw
  subst hva hv1 hv2 hv3
  have hma : Asks w0 (.slice pa qs.length ca) qs := hm.asks
  have hrecsAt : ∀ (k : Nat) (v : Value) (l : List RecD), [Value.slice p1 one.length c1, .slice p2 two.length c2, .slice p3 three.length c3][k]? = some v → [one, two, three][k]? = some l → Recs w0 v l ∧ ∃ p c, v = .slice p l.length c := by
    intro k v l h1 h2
    match k with
    | 0 => simp at h1 h2; subst h1 h2; exact ⟨hm.one, _, _, rfl⟩
    | 1 => simp at h1 h2; subst h1 h2; exact ⟨hm.two, _, _, rfl⟩
    | 2 => simp at h1 h2; subst h1 h2; exact ⟨hm.three, _, _, rfl⟩
    | k + 3 => simp at h1
  have hsub : ∀ (k : Nat) (l : List RecD), [one, two, three][k]? = some l → ∀ r ∈ l, r ∈ one ++ two ++ three := by
    intro k l h2 r hr
    match k with
    | 0 => simp at h2; subst h2; simp [hr]
    | 1 => simp at h2; subst h2; simp [hr]
    | 2 => simp at h2; subst h2; simp [hr]
    | k + 3 => simp at h2
  have hal : ∀ k, ((qs.take k).map askWire).flatten.length ≤ 513 * k := fun k => by
    refine Nat.le_trans (flatten_le askWire 513 (qs.take k) fun x hx => ?_) (Nat.mul_le_mul_left _ (List.length_take_le _ _))
    have := wire_le x.name (hn x (List.mem_of_mem_take hx))
    simp only [askWire, List.length_append, be16_len]
    omega
  refine CodeJ.seq ?_
  refine CodeJ.region ?_
  refine OpsJ.op rfl ?_
  refine OpJ.box rfl rfl rfl rfl fun mb hmb => ?_
  refine OpsJ.yld rfl rfl rfl (Yld.assign rfl rfl) ?_
  refine OpsJ.nil ?_
  refine ExJ.thenN ?_
  refine CodeJ.seq ?_
  refine CodeJ.region ?_
  refine OpsJ.yld rfl rfl rfl (Yld.fieldAddr fa_55_0 rfl rfl) ?_
  refine OpsJ.yld rfl rfl rfl (Yld.loadN (vs := headC hd) rfl Tryd.underlying33 rfl sz_33 rfl (fun w hI => Inv.cells hI (i := 0) rfl rfl (Nat.le_of_ble_eq_true rfl))) ?_
  refine OpsJ.yld rfl rfl rfl (Yld.fieldAddr fa_55_1 rfl rfl) ?_
  refine OpsJ.yld rfl rfl rfl (Yld.load1 rfl Tryd.underlying52 rfl rfl (fun w hI => Inv.cell1 hI (i := 0) rfl rfl)) ?_
  refine OpsJ.yld rfl rfl rfl (Yld.lenSlice rfl rfl rfl Tryd.underlying52 rfl) ?_
  refine OpsJ.yld rfl rfl rfl (Yld.fieldAddr fa_55_2 rfl rfl) ?_
  refine OpsJ.yld rfl rfl rfl (Yld.load1 rfl Tryd.underlying53 rfl rfl (fun w hI => Inv.cell1 hI (i := 0) rfl rfl)) ?_
  refine OpsJ.yld rfl rfl rfl (Yld.lenSlice rfl rfl rfl Tryd.underlying53 rfl) ?_
  refine OpsJ.yld rfl rfl rfl (Yld.fieldAddr fa_55_3 rfl rfl) ?_
  refine OpsJ.yld rfl rfl rfl (Yld.load1 rfl Tryd.underlying53 rfl rfl (fun w hI => Inv.cell1 hI (i := 0) rfl rfl)) ?_
  refine OpsJ.yld rfl rfl rfl (Yld.lenSlice rfl rfl rfl Tryd.underlying53 rfl) ?_
  refine OpsJ.yld rfl rfl rfl (Yld.fieldAddr fa_55_4 rfl rfl) ?_
  refine OpsJ.yld rfl rfl rfl (Yld.load1 rfl Tryd.underlying53 rfl rfl (fun w hI => Inv.cell1 hI (i := 0) rfl rfl)) ?_
  refine OpsJ.yld rfl rfl rfl (Yld.lenSlice rfl rfl rfl Tryd.underlying53 rfl) ?_
  refine OpsJ.op rfl ?_
  refine OpJ.buildSlice (xs := [.tmp 14, .tmp 17, .tmp 20, .tmp 23]) elt_35 rfl rfl rfl rfl rfl rfl (by rfl) (by decide) fun cnts hcnts => ?_
  refine OpsJ.op rfl ?_
  refine OpJ.call (headWire_spec hd hw _ [qs.length, one.length, two.length, three.length] (by simp)) has_22 rfl rfl rfl rfl rfl [] [0, 1] (by decide) rfl rfl (fun w hI => Own.row (hI.hs _ (List.mem_of_getElem? (i := 0) rfl)).1) ?_
  rintro _ _ ⟨p25, c25, rfl, rfl⟩
  refine OpsJ.yld rfl rfl rfl (Yld.assign rfl rfl) ?_
  refine OpsJ.nil ?_
  refine ExJ.thenN ?_
  refine CodeJ.seq ?_
  refine CodeJ.seq ?_
  refine CodeJ.region ?_
  refine OpsJ.yld rfl rfl rfl (Yld.fieldAddr fa_55_1 rfl rfl) ?_
  refine OpsJ.yld rfl rfl rfl (Yld.load1 rfl Tryd.underlying52 rfl rfl (fun w hI => Inv.cell1 hI (i := 2) rfl rfl)) ?_
  refine OpsJ.yld rfl rfl rfl (Yld.lenSlice rfl rfl rfl Tryd.underlying52 rfl) ?_
  refine OpsJ.yld rfl rfl rfl (Yld.move rfl rfl) ?_
  refine OpsJ.nil ?_
  refine ExJ.thenN ?_
  refine CodeJ.block ?_
  refine CodeJ.loopP (fun L H m => ∃ (k : Nat) (p : Option Addr) (q : Nat), k ≤ qs.length ∧ L = [(1, .pointer (some ⟨mb, 0, none⟩)), (3, .slice p (headWire hd [qs.length, one.length, two.length, three.length] ++ ((qs.take k).map askWire).flatten).length q), (27, .slice pa qs.length ca), (28, .int .i64 qs.length), (29, .int .i64 k)] ∧
  H = [ownB 5 (.slice p (headWire hd [qs.length, one.length, two.length, three.length] ++ ((qs.take k).map askWire).flatten).length q) (headWire hd [qs.length, one.length, two.length, three.length] ++ ((qs.take k).map askWire).flatten),
    .blk mb (MsgD.cells ⟨hd, .slice pa qs.length ca, qs, .slice p1 one.length c1, one, .slice p2 two.length c2, two, .slice p3 three.length c3, three⟩).toArray 55] ∧ m = qs.length - k) ⟨0, p25, c25, Nat.zero_le _, rfl, rfl, rfl⟩ ⟨rfl, by simp only [List.take_zero, List.map_nil, List.flatten_nil, List.append_nil]; rfl, rfl, rfl, rfl, trivial⟩ (fun w hI => by simp only [List.take_zero, List.map_nil, List.flatten_nil, List.append_nil]; exact hI.pick (is := [0, 2]) (by decide) rfl) ?_
  rintro _ _ _ ⟨k, p, q, hk, rfl, rfl, rfl⟩
  refine CodeJ.seq ?_
  refine CodeJ.region ?_
  refine OpsJ.yld rfl rfl rfl (Yld.intBin rfl rfl rfl rfl) ?_
  refine OpsJ.nil ?_
  refine ExJ.thenN ?_
  refine CodeJ.seq ?_
  refine CodeJ.condP rfl (fun c30 => ?_) (fun c30 => ?_)
  · have hk' : k < qs.length := by omega
    obtain ⟨x, hx⟩ : ∃ x, qs[k]? = some x := ⟨qs[k], List.getElem?_eq_getElem hk'⟩
    obtain ⟨b, off, c, hpv, hcell⟩ := Row.at hma (by simp [AskD.cells]) (by simp) hk'
    simp only [Value.slice.injEq] at hpv
    obtain ⟨rfl, _, rfl⟩ := hpv
    have hcx := hcell x.cells (by simp [hx])
    have hxn := hn x (List.mem_of_getElem? hx)
    have hxl : (askWire x).length ≤ 513 := by
      have := wire_le x.name hxn
      simp only [askWire, List.length_append, be16_len]
      omega
    have hakl := hal k
    have hnx : headWire hd [qs.length, one.length, two.length, three.length] ++ ((qs.take (k + 1)).map askWire).flatten = headWire hd [qs.length, one.length, two.length, three.length] ++ ((qs.take k).map askWire).flatten ++ askWire x := by
      rw [take_snoc _ _ _ hx]
      simp
    refine CodeJ.skip ?_
    refine ExJ.thenN ?_
    refine CodeJ.seq ?_
    refine CodeJ.block ?_
    refine CodeJ.seq ?_
    refine CodeJ.region ?_
    refine OpsJ.yld rfl rfl rfl (Yld.indexAddr rfl Tryd.underlying52 sz_69 rfl rfl hk') ?_
    refine OpsJ.yld rfl rfl rfl (Yld.loadN (vs := x.cells) rfl Tryd.underlying69 rfl sz_69 rfl (fun w hI => hI.old hcx (by simp [fp]))) ?_
    refine OpsJ.op rfl ?_
    refine OpJ.alloc rfl rfl rfl zero_69 fun ab hab => ?_
    refine OpsJ.op rfl ?_
    refine OpJ.storeW (i := 0) rfl rfl rfl rfl sz_69 rfl rfl rfl ?_
    refine OpsJ.nil ?_
    refine ExJ.thenN ?_
    refine CodeJ.region ?_
    refine OpsJ.yld rfl rfl rfl (Yld.move rfl rfl) ?_
    refine OpsJ.yld rfl rfl rfl (Yld.loadN (vs := x.cells) rfl Tryd.underlying69 rfl sz_69 rfl (fun w hI => Inv.cells hI (i := 0) rfl rfl (Nat.le_of_ble_eq_true rfl))) ?_
    refine OpsJ.op rfl ?_
    refine OpJ.call (askWire_spec x hxn) has_29 rfl rfl rfl rfl rfl [] [0, 1, 2] (by decide) rfl rfl (fun _ _ => trivial) ?_
    rintro _ _ ⟨p35, c35, rfl, rfl⟩
    refine OpsJ.op rfl ?_
    refine OpJ.appendO (i := 2) elt_29 rfl rfl rfl rfl rfl rfl (fun w hI => Bytes.src (Inv.bytes (k := 0) rfl w hI) Tryd.underlying29) (by simp only [List.length_append, headWire_len, List.length_cons, List.length_nil]; omega) fun p36 c36 => ?_
    refine OpsJ.yld rfl rfl rfl (Yld.assign rfl rfl) ?_
    refine OpsJ.nil ?_
    refine ExJ.blockN ?_
    refine ExJ.thenN ?_
    refine CodeJ.region ?_
    refine OpsJ.yld rfl rfl rfl (Yld.intBin rfl rfl rfl rfl) ?_
    rw [i64_succ k (by omega)]
    refine OpsJ.yld rfl rfl rfl (Yld.move rfl rfl) ?_
    refine OpsJ.nil ?_
    exact ExJ.againP ⟨k + 1, p36, c36, by omega, rfl, rfl, rfl⟩ (by omega) ⟨rfl, by rw [hnx]; rfl, rfl, rfl, rfl, trivial⟩ fun w hI => by rw [hnx]; exact hI.pick (is := [2, 3]) (by decide) rfl
  · obtain rfl : k = qs.length := by omega
    rw [List.take_length]
    have hakl := hal qs.length
    rw [List.take_length] at hakl
    generalize hhead : headWire hd [qs.length, one.length, two.length, three.length] ++ (qs.map askWire).flatten = pre
    have hpre : pre.length ≤ 40000000 := by
      rw [← hhead]
      simp only [List.length_append, headWire_len, List.length_cons, List.length_nil]
      omega
    refine CodeJ.exit ?_
    refine ExJ.thenX ?_
    refine ExJ.thenX ?_
    refine ExJ.blockHit ?_
    refine ExJ.thenN ?_
    refine CodeJ.seq ?_
    refine CodeJ.seq ?_
    refine CodeJ.region ?_
    refine OpsJ.yld rfl rfl rfl (Yld.fieldAddr fa_55_2 rfl rfl) ?_
    refine OpsJ.yld rfl rfl rfl (Yld.load1 rfl Tryd.underlying53 rfl rfl (fun w hI => Inv.cell1 hI (i := 1) rfl rfl)) ?_
    refine OpsJ.yld rfl rfl rfl (Yld.fieldAddr fa_55_3 rfl rfl) ?_
    refine OpsJ.yld rfl rfl rfl (Yld.load1 rfl Tryd.underlying53 rfl rfl (fun w hI => Inv.cell1 hI (i := 1) rfl rfl)) ?_
    refine OpsJ.yld rfl rfl rfl (Yld.fieldAddr fa_55_4 rfl rfl) ?_
    refine OpsJ.yld rfl rfl rfl (Yld.load1 rfl Tryd.underlying53 rfl rfl (fun w hI => Inv.cell1 hI (i := 1) rfl rfl)) ?_
    refine OpsJ.op rfl ?_
    refine OpJ.buildSlice (xs := [.tmp 39, .tmp 41, .tmp 43]) elt_71 rfl rfl rfl rfl rfl rfl (by rfl) (by decide) fun lists hlists => ?_
    refine OpsJ.yld rfl rfl rfl (Yld.lenSlice rfl rfl rfl Tryd.underlying71 rfl) ?_
    refine OpsJ.yld rfl rfl rfl (Yld.move rfl rfl) ?_
    refine OpsJ.nil ?_
    refine ExJ.thenN ?_
    refine CodeJ.block ?_
    refine CodeJ.loopP (fun L H m => ∃ (k : Nat) (p : Option Addr) (q : Nat), k ≤ 3 ∧ L = [(1, .pointer (some ⟨mb, 0, none⟩)), (3, .slice p (pre ++ (([one, two, three].take k).flatten.map K.recWire).flatten).length q), (44, .slice (some ⟨lists, 0, none⟩) 3 3), (45, .int .i64 3), (46, .int .i64 k)] ∧
    H = [ownB 5 (.slice p (pre ++ (([one, two, three].take k).flatten.map K.recWire).flatten).length q) (pre ++ (([one, two, three].take k).flatten.map K.recWire).flatten), own 53 1 (.slice (some ⟨lists, 0, none⟩) 3 3) 3 [.slice p1 one.length c1, .slice p2 two.length c2, .slice p3 three.length c3]] ∧ m = 3 - k) ⟨0, p, q, by omega, rfl, rfl, rfl⟩ ⟨rfl, by simp only [List.take_zero, List.map_nil, List.flatten_nil, List.append_nil]; rfl, rfl, rfl, rfl, trivial⟩ (fun w hI => by simp only [List.take_zero, List.map_nil, List.flatten_nil, List.append_nil]; exact hI.pick (is := [1, 0]) (by decide) rfl) ?_
    rintro _ _ _ ⟨k2, p, q, hk2, rfl, rfl, rfl⟩
    refine CodeJ.seq ?_
    refine CodeJ.region ?_
    refine OpsJ.yld rfl rfl rfl (Yld.intBin rfl rfl rfl rfl) ?_
    refine OpsJ.nil ?_
    refine ExJ.thenN ?_
    refine CodeJ.seq ?_
    refine CodeJ.condP rfl (fun c47 => ?_) (fun c47 => ?_)
    · have hk3 : k2 < 3 := by omega
      obtain ⟨l, hl⟩ : ∃ l, [one, two, three][k2]? = some l := ⟨[one, two, three][k2], List.getElem?_eq_getElem (by simpa using hk3)⟩
      obtain ⟨v, hv⟩ : ∃ v, [Value.slice p1 one.length c1, .slice p2 two.length c2, .slice p3 three.length c3][k2]? = some v := ⟨_, List.getElem?_eq_getElem (by simpa using hk3)⟩
      obtain ⟨hrecs, pl, cl, rfl⟩ := hrecsAt k2 v l hv hl
      have hmem := hsub k2 l hl
      have hll : l.length < 60000 := by
        match k2 with
        | 0 => simp at hl; subst hl; omega
        | 1 => simp at hl; subst hl; omega
        | 2 => simp at hl; subst hl; omega
        | k + 3 => simp at hl
      have hdl : (([one, two, three].take k2).flatten.map K.recWire).flatten.length ≤ 70000 * 180000 := by
        refine Nat.le_trans (flatten_le K.recWire 70000 _ fun r hr => ?_) (Nat.mul_le_mul_left _ ?_)
        · obtain ⟨l', hl', hr'⟩ := List.mem_flatten.1 hr
          obtain ⟨j, hj⟩ := List.getElem?_of_mem (List.mem_of_mem_take hl')
          exact hK.len r (hsub j l' hj r hr')
        · match k2 with
          | 0 => simp
          | 1 => simp; omega
          | 2 => simp; omega
          | k + 3 => omega
      have hnxt : ([one, two, three].take (k2 + 1)).flatten = ([one, two, three].take k2).flatten ++ l := by
        rw [take_snoc _ _ _ hl]
        simp
      refine CodeJ.skip ?_
      refine ExJ.thenN ?_
      refine CodeJ.seq ?_
      refine CodeJ.block ?_
      refine CodeJ.seq ?_
      refine CodeJ.region ?_
      refine OpsJ.yld rfl rfl rfl (Yld.indexAddr rfl Tryd.underlying71 sz_53 rfl rfl hk3) ?_
      refine OpsJ.yld rfl rfl rfl (Yld.load1 rfl Tryd.underlying53 rfl rfl (fun w hI => (Own.cells (hI.hs _ (List.mem_of_getElem? (i := 1) rfl)).1 _ _ _ _ rfl).2.2.one hv)) ?_
      refine OpsJ.yld rfl rfl rfl (Yld.assign rfl rfl) ?_
      refine OpsJ.nil ?_
      refine ExJ.thenN ?_
      refine CodeJ.seq ?_
      refine CodeJ.region ?_
      refine OpsJ.yld rfl rfl rfl (Yld.move rfl rfl) ?_
      refine OpsJ.yld rfl rfl rfl (Yld.lenSlice rfl rfl rfl Tryd.underlying53 rfl) ?_
      refine OpsJ.yld rfl rfl rfl (Yld.move rfl rfl) ?_
      refine OpsJ.nil ?_
      refine ExJ.thenN ?_
      refine CodeJ.block ?_
      refine CodeJ.loopP (fun L H m => ∃ (j : Nat) (p : Option Addr) (q : Nat), j ≤ l.length ∧ L = [(1, .pointer (some ⟨mb, 0, none⟩)), (3, .slice p (pre ++ ((([one, two, three].take k2).flatten ++ l.take j).map K.recWire).flatten).length q), (44, .slice (some ⟨lists, 0, none⟩) 3 3), (45, .int .i64 3), (46, .int .i64 k2), (50, .slice pl l.length cl), (51, .int .i64 l.length), (52, .int .i64 j)] ∧
      H = [ownB 5 (.slice p (pre ++ ((([one, two, three].take k2).flatten ++ l.take j).map K.recWire).flatten).length q) (pre ++ ((([one, two, three].take k2).flatten ++ l.take j).map K.recWire).flatten), own 53 1 (.slice (some ⟨lists, 0, none⟩) 3 3) 3 [.slice p1 one.length c1, .slice p2 two.length c2, .slice p3 three.length c3]] ∧ m = l.length - j) ⟨0, p, q, by omega, rfl, rfl, rfl⟩ ⟨rfl, by simp only [List.take_zero, List.append_nil]; rfl, rfl, rfl, rfl, rfl, rfl, rfl, trivial⟩ (fun w hI => by simp only [List.take_zero, List.append_nil]; exact hI) ?_
      rintro _ _ _ ⟨j, p, q, hj, rfl, rfl, rfl⟩
      refine CodeJ.seq ?_
      refine CodeJ.region ?_
      refine OpsJ.yld rfl rfl rfl (Yld.intBin rfl rfl rfl rfl) ?_
      refine OpsJ.nil ?_
      refine ExJ.thenN ?_
      refine CodeJ.seq ?_
      refine CodeJ.condP rfl (fun c53 => ?_) (fun c53 => ?_)
      · have hj' : j < l.length := by omega
        obtain ⟨x, hx⟩ : ∃ x, l[j]? = some x := ⟨l[j], List.getElem?_eq_getElem hj'⟩
        have hxm : x ∈ l := List.mem_of_getElem? hx
        obtain ⟨b, off, c, hpv, hcell⟩ := Row.at hrecs.1 (by simp [RecD.cells]) (by simp) hj'
        simp only [Value.slice.injEq] at hpv
        obtain ⟨rfl, _, rfl⟩ := hpv
        have hcx := hcell x.cells (by simp [hx])
        have hxok := hrecs.2 x hxm
        have hxl := hK.len x (hmem x hxm)
        have hlj : ((l.take j).map K.recWire).flatten.length ≤ 70000 * 60000 := by
          refine Nat.le_trans (flatten_le K.recWire 70000 _ fun r hr => hK.len r (hmem r (List.mem_of_mem_take hr))) (Nat.mul_le_mul_left _ ?_)
          simp
          omega
        have hnx : pre ++ ((([one, two, three].take k2).flatten ++ l.take (j + 1)).map K.recWire).flatten = pre ++ ((([one, two, three].take k2).flatten ++ l.take j).map K.recWire).flatten ++ K.recWire x := by
          rw [take_snoc _ _ _ hx]
          simp
        refine CodeJ.skip ?_
        refine ExJ.thenN ?_
        refine CodeJ.seq ?_
        refine CodeJ.block ?_
        refine CodeJ.seq ?_
        refine CodeJ.region ?_
        refine OpsJ.yld rfl rfl rfl (Yld.indexAddr rfl Tryd.underlying53 sz_74 rfl rfl hj') ?_
        refine OpsJ.yld rfl rfl rfl (Yld.loadN (vs := x.cells) rfl Tryd.underlying74 rfl sz_74 rfl (fun w hI => hI.old hcx (by simp [fp]))) ?_
        refine OpsJ.op rfl ?_
        refine OpJ.alloc rfl rfl rfl zero_74 fun rb hrb => ?_
        refine OpsJ.op rfl ?_
        refine OpJ.storeW (i := 0) rfl rfl rfl rfl sz_74 rfl hxok.one rfl ?_
        refine OpsJ.nil ?_
        refine ExJ.thenN ?_
        refine CodeJ.region ?_
        refine OpsJ.yld rfl rfl rfl (Yld.move rfl rfl) ?_
        refine OpsJ.yld rfl rfl rfl (Yld.loadN (vs := x.cells) rfl Tryd.underlying74 rfl sz_74 rfl (fun w hI => Inv.cells hI (i := 0) rfl rfl (Nat.le_of_ble_eq_true rfl))) ?_
        refine OpsJ.op rfl ?_
        refine OpJ.call (hK.wr x (hmem x hxm)) has_30 rfl rfl rfl rfl rfl [] [0, 1, 2] (by decide) rfl rfl (fun w hI => hxok.keep0 hI.keep) ?_
        rintro _ _ ⟨p58, c58, rfl, rfl⟩
        refine OpsJ.op rfl ?_
        refine OpJ.appendO (i := 2) elt_29 rfl rfl rfl rfl rfl rfl (fun w hI => Bytes.src (Inv.bytes (k := 0) rfl w hI) Tryd.underlying29) (by rw [List.map_append, List.flatten_append, List.length_append, List.length_append]; omega) fun p59 c59 => ?_
        refine OpsJ.yld rfl rfl rfl (Yld.assign rfl rfl) ?_
        refine OpsJ.nil ?_
        refine ExJ.blockN ?_
        refine ExJ.thenN ?_
        refine CodeJ.region ?_
        refine OpsJ.yld rfl rfl rfl (Yld.intBin rfl rfl rfl rfl) ?_
        rw [i64_succ j (by omega)]
        refine OpsJ.yld rfl rfl rfl (Yld.move rfl rfl) ?_
        refine OpsJ.nil ?_
        exact ExJ.againP ⟨j + 1, p59, c59, by omega, rfl, rfl, rfl⟩ (by omega) ⟨rfl, by rw [hnx]; rfl, rfl, rfl, rfl, rfl, rfl, rfl, trivial⟩ fun w hI => by rw [hnx]; exact hI.pick (is := [2, 3]) (by decide) rfl
      · obtain rfl : j = l.length := by omega
        rw [List.take_length]
        refine CodeJ.exit ?_
        refine ExJ.thenX ?_
        refine ExJ.thenX ?_
        refine ExJ.blockHit ?_
        refine ExJ.blockN ?_
        refine ExJ.thenN ?_
        refine CodeJ.region ?_
        refine OpsJ.yld rfl rfl rfl (Yld.intBin rfl rfl rfl rfl) ?_
        rw [i64_succ k2 (by omega)]
        refine OpsJ.yld rfl rfl rfl (Yld.move rfl rfl) ?_
        refine OpsJ.nil ?_
        exact ExJ.againP ⟨k2 + 1, p, q, by omega, rfl, rfl, rfl⟩ (by omega) ⟨rfl, by rw [hnxt]; rfl, rfl, rfl, rfl, trivial⟩ fun w hI => by rw [hnxt]; exact hI
    · obtain rfl : k2 = 3 := by omega
      refine CodeJ.exit ?_
      refine ExJ.thenX ?_
      refine ExJ.thenX ?_
      refine ExJ.blockHit ?_
      refine ExJ.thenN ?_
      refine CodeJ.seq ?_
      refine CodeJ.region ?_
      refine OpsJ.yld rfl rfl rfl (Yld.move rfl rfl) ?_
      refine OpsJ.yld rfl rfl rfl (Yld.assign rfl rfl) ?_
      refine OpsJ.nil ?_
      refine ExJ.thenN ?_
      refine CodeJ.ret ?_
      have he : K.wire ⟨hd, .slice pa qs.length ca, qs, .slice p1 one.length c1, one, .slice p2 two.length c2, two, .slice p3 three.length c3, three⟩ = pre ++ (([one, two, three].take 3).flatten.map K.recWire).flatten := by
        rw [← hhead]
        simp [Kind.wire]
      rw [he]
      exact ExJ.retB Tryd.results19 rfl fun w hI => hI.pick (is := [0]) (by decide) rfl
end Go.Proofs.YtdiememgbnplkaaDoor
