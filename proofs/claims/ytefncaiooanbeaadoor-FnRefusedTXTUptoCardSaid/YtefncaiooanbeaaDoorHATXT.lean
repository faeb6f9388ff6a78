/-
  Contracts of the package and of impl: TXT records.
-/
import Derived.Test.YtefncaiooanbeaaDoorHPkB
import Derived.Test.YtefncaiooanbeaaDoorHPairL
namespace Go.Proofs.YtefncaiooanbeaaDoor
open Go
set_option maxRecDepth 100000

theorem txtType_spec (v : Value) : Spec Tryd.prog 85 [v] [] (fun _ => True) (fun x H' => x = .int .u16 ((16 : Nat) : Int) ∧ H' = []) := by
  refine Spec.of Tryd.func85 rfl Tryd.ntmps85 rfl fun w0 _ => ?_
  refine CodeJ.seq ?_
  refine CodeJ.region ?_
  refine OpsJ.yld rfl rfl rfl (Yld.assign rfl rfl) ?_
  refine OpsJ.nil ?_
  refine ExJ.thenN ?_
  refine CodeJ.seq ?_
  refine CodeJ.region ?_
  refine OpsJ.yld rfl rfl rfl (Yld.assign rfl rfl) ?_
  refine OpsJ.nil ?_
  refine ExJ.thenN ?_
  refine CodeJ.ret ?_
  exact ExJ.ret1 Tryd.results85 rfl ⟨rfl, rfl⟩ fun w hI => hI

theorem packText_spec (G : GEnv) (s : ByteArray) (hor : s.size ≤ 255 ∨ G.more.contains 11 = true) (v v' : Value) (bs bs' : List UInt8) (hl : bs'.length + 256 ≤ 175921860444160) :
    Spec Tryd.prog 101 [v', .string s] [appB 5 v bs v' bs'] (fun w => GE G w (fp [appB 5 v bs v' bs']))
      (fun x H' => ∃ u y v'' zs b, x = .tuple #[u, y] ∧ H' = [appB 5 v bs v'' zs] ∧ isNilI y = some b ∧ (b = true → s.size ≤ 255 ∧ (∃ p c, u = .slice p zs.length c ∧ v'' = .slice p zs.length c) ∧ zs = bs' ++ textW s) ∧ (b = false → 255 < s.size ∧ ∃ t e, y = .iface t e)) := by
  by_cases hs : s.size ≤ 255
  · refine Spec.of Tryd.func101 rfl Tryd.ntmps101 rfl fun w0 _ => ?_
    refine CodeJ.seq ?_
    refine CodeJ.region ?_
    refine OpsJ.yld rfl rfl rfl (Yld.assign rfl rfl) ?_
    refine OpsJ.yld rfl rfl rfl (Yld.assign rfl rfl) ?_
    refine OpsJ.nil ?_
    refine ExJ.thenN ?_
    refine CodeJ.seq ?_
    refine CodeJ.region ?_
    refine OpsJ.yld rfl rfl rfl (Yld.move rfl rfl) ?_
    refine OpsJ.yld rfl rfl rfl (Yld.lenString rfl rfl rfl Tryd.underlying9 rfl) ?_
    refine OpsJ.yld rfl rfl rfl (Yld.assign rfl rfl) ?_
    refine OpsJ.nil ?_
    refine ExJ.thenN ?_
    refine CodeJ.seq ?_
    refine CodeJ.seq ?_
    refine CodeJ.region ?_
    refine OpsJ.yld rfl rfl rfl (Yld.move rfl rfl) ?_
    refine OpsJ.yld rfl rfl rfl (Yld.intBin rfl rfl rfl rfl) ?_
    refine OpsJ.nil ?_
    refine ExJ.thenN ?_
    refine CodeJ.condP rfl (fun c10 => ?_) (fun c10 => ?_)
    · exact absurd c10 (by omega)
    · refine CodeJ.skip ?_
      refine ExJ.thenN ?_
      refine CodeJ.seq ?_
      refine CodeJ.region ?_
      refine OpsJ.yld rfl rfl rfl (Yld.move rfl rfl) ?_
      refine OpsJ.yld rfl rfl rfl (Yld.move rfl rfl) ?_
      refine OpsJ.yld rfl rfl rfl (Yld.convInt rfl Tryd.underlying3 Tryd.underlying5 rfl) ?_
      rw [u8_wrap]
      refine OpsJ.op rfl ?_
      refine OpJ.buildSlice (xs := [.tmp 14]) elt_26 rfl rfl rfl rfl rfl rfl (by rfl) (by decide) fun one hone => ?_
      refine OpsJ.op rfl ?_
      refine OpJ.appendB (i := 1) (news := [UInt8.ofNat s.size]) elt_26 rfl rfl rfl rfl rfl rfl (fun w hI => Bytes.src (Inv.bytes (k := 0) rfl w hI) Tryd.underlying26) (by simp; omega) fun p16 c16 => ?_
      refine OpsJ.yld rfl rfl rfl (Yld.assign rfl rfl) ?_
      refine OpsJ.nil ?_
      refine ExJ.thenN ?_
      refine CodeJ.seq ?_
      refine CodeJ.region ?_
      refine OpsJ.yld rfl rfl rfl (Yld.move rfl rfl) ?_
      refine OpsJ.yld rfl rfl rfl (Yld.move rfl rfl) ?_
      refine OpsJ.op rfl ?_
      refine OpJ.appendB (i := 1) (news := s.data.toList) elt_26 rfl rfl rfl rfl rfl rfl (fun w hI => srcStr Tryd.underlying9 s) (by simp; omega) fun p19 c19 => ?_
      refine OpsJ.yld rfl rfl rfl (Yld.assign rfl rfl) ?_
      refine OpsJ.nil ?_
      refine ExJ.thenN ?_
      refine CodeJ.seq ?_
      refine CodeJ.region ?_
      refine OpsJ.yld rfl rfl rfl (Yld.move rfl rfl) ?_
      refine OpsJ.yld rfl rfl rfl (Yld.assign rfl rfl) ?_
      refine OpsJ.yld rfl rfl rfl (Yld.assign rfl rfl) ?_
      refine OpsJ.nil ?_
      refine ExJ.thenN ?_
      refine CodeJ.ret ?_
      have e : bs' ++ [UInt8.ofNat s.size] ++ s.data.toList = bs' ++ textW s := by simp [textW]
      exact ExJ.ret2 Tryd.results101 rfl rfl ⟨_, _, _, _, true, rfl, rfl, rfl, fun _ => ⟨hs, ⟨p19, c19, rfl, rfl⟩, e⟩, fun h => by cases h⟩ fun w hI => hI.pick (is := [1]) (by decide) rfl
  · have hg : G.more.contains 11 = true := hor.resolve_left hs
    refine Spec.of Tryd.func101 rfl Tryd.ntmps101 rfl fun w0 hge => ?_
    have he11 := hge.at' 11 (gAll_more hg)
    have hn11 := hge.out' 11 (gAll_more hg)
    refine CodeJ.seq ?_
    refine CodeJ.region ?_
    refine OpsJ.yld rfl rfl rfl (Yld.assign rfl rfl) ?_
    refine OpsJ.yld rfl rfl rfl (Yld.assign rfl rfl) ?_
    refine OpsJ.nil ?_
    refine ExJ.thenN ?_
    refine CodeJ.seq ?_
    refine CodeJ.region ?_
    refine OpsJ.yld rfl rfl rfl (Yld.move rfl rfl) ?_
    refine OpsJ.yld rfl rfl rfl (Yld.lenString rfl rfl rfl Tryd.underlying9 rfl) ?_
    refine OpsJ.yld rfl rfl rfl (Yld.assign rfl rfl) ?_
    refine OpsJ.nil ?_
    refine ExJ.thenN ?_
    refine CodeJ.seq ?_
    refine CodeJ.seq ?_
    refine CodeJ.region ?_
    refine OpsJ.yld rfl rfl rfl (Yld.move rfl rfl) ?_
    refine OpsJ.yld rfl rfl rfl (Yld.intBin rfl rfl rfl rfl) ?_
    refine OpsJ.nil ?_
    refine ExJ.thenN ?_
    refine CodeJ.condP rfl (fun c10 => ?_) (fun c10 => ?_)
    · refine CodeJ.seq ?_
      refine CodeJ.any (fuel := 3) (listed := #[false, false, false]) [0] rfl follows_mixed rfl rfl ?_
      refine AnyJ.take (fuel := 2) (listed' := #[true, false, false]) 0 rfl (by kernel_rfl) (by kernel_rfl) (by kernel_rfl) rfl rfl rfl rfl (Yld.load1 rfl Tryd.underlying67 rfl rfl (fun w hI => hI.old (he11) (hn11))) (fun w hI => hI.pick (is := [0]) (by decide) rfl) ?_
      refine AnyJ.take (fuel := 1) (listed' := #[true, true, false]) 1 rfl (by kernel_rfl) (by kernel_rfl) (by kernel_rfl) rfl rfl rfl rfl (Yld.assign rfl rfl) (fun w hI => hI.pick (is := [0]) (by decide) rfl) ?_
      refine AnyJ.take (fuel := 0) (listed' := #[true, true, true]) 2 rfl (by kernel_rfl) (by kernel_rfl) (by kernel_rfl) rfl rfl rfl rfl (Yld.assign rfl rfl) (fun w hI => hI.pick (is := [0]) (by decide) rfl) ?_
      refine AnyJ.done (by kernel_rfl) ?_
      refine ExJ.thenN ?_
      refine CodeJ.ret ?_
      refine ExJ.thenR ?_
      exact ExJ.ret2 Tryd.results101 rfl rfl ⟨_, _, _, _, false, rfl, rfl, rfl, fun h => (by cases h), fun _ => ⟨by omega, _, _, rfl⟩⟩ fun w hI => hI
    · exact absurd c10 (by omega)
theorem txtOf_spec (x : RecD) (hx : x.wf) : Spec Tryd.prog 47 [.agg x.cells.toArray] [] (fun w => RecOk w x) (fun r H' => ∃ pv cv q bsq hqq, r = .agg [.slice pv x.texts.length cv].toArray ∧ H' = [.ro q bsq hqq] ∧ ∀ w, q w → Row w 1 (.slice pv x.texts.length cv) x.texts.length (x.texts.map Value.string)) := by
  refine Spec.of Tryd.func47 rfl Tryd.ntmps47 rfl fun w0 hok => ?_
  have htl := hx.texts
  refine CodeJ.seq ?_
  refine CodeJ.region ?_
  refine OpsJ.op rfl ?_
  refine OpJ.box rfl rfl rfl rfl fun rb hrb => ?_
  refine OpsJ.op rfl ?_
  refine OpJ.alloc rfl rfl rfl zero_100 fun res hres => ?_
  refine OpsJ.nil ?_
  refine ExJ.thenN ?_
  refine CodeJ.seq ?_
  refine CodeJ.region ?_
  refine OpsJ.op rfl ?_
  refine OpJ.buildSlice (xs := []) elt_27 rfl rfl rfl rfl rfl rfl (by rfl) (by decide) fun dat hdat => ?_
  refine OpsJ.yld rfl rfl rfl (Yld.fieldAddr fa_30_14 rfl rfl) ?_
  refine OpsJ.yld rfl rfl rfl (Yld.load1 rfl Tryd.underlying27 rfl rfl (fun w hI => Inv.cell1 hI (i := 2) rfl rfl)) ?_
  refine OpsJ.op rfl ?_
  refine OpJ.appendOwn (xs := []) (k := 0) (m := x.texts.length) (i := 0) (news := x.texts.map Value.string) elt_27 rfl rfl rfl rfl rfl rfl (fun w hI => Row.src (Row.keep0 hok.texts hI.keep) Tryd.underlying27 (fun u hu => by obtain ⟨y, _, rfl⟩ := List.mem_map.1 hu; rfl)) (by omega) (by omega) fun p6 c6 => ?_
  simp only [Nat.zero_add, List.nil_append]
  refine OpsJ.yld rfl rfl rfl (Yld.buildAll places_100 zero_100 rfl rfl ⟨rfl, trivial⟩ rfl) ?_
  refine OpsJ.op rfl ?_
  refine OpJ.storeW (i := 1) rfl rfl rfl rfl sz_100 rfl rfl rfl ?_
  refine OpsJ.nil ?_
  refine ExJ.thenN ?_
  refine CodeJ.ret ?_
  exact ExJ.retC (vs := [.slice p6 x.texts.length c6]) Tryd.results47 rfl Tryd.underlying100 rfl sz_100 (fun w hI => Inv.whole hI (i := 1) rfl) ⟨p6, c6, _, _, _, rfl, rfl, fun w hw => Own.row hw.1⟩ fun w hI => Inv.seal (hI.pick (is := [0]) (by decide) rfl)
theorem txtPack_spec (G : GEnv) (ts : List ByteArray) (hor : shortT ts = true ∨ G.more.contains 11 = true) (hfit : (textsW ts).length ≤ 4398046511104) (pv : Option Addr) (cv : Nat) (q : World → Prop) (bsq : List Nat) (hqq : ∀ w w' : World, (∀ b ∈ bsq, w'.heap[b]? = w.heap[b]?) → q w → q w') (hqb : ∀ w, q w → Row w 1 (.slice pv ts.length cv) ts.length (ts.map Value.string)) (bq off : Nat) (v : Value) (bs bs' : List UInt8) (p : Option Addr) (c : Nat) (r : Option Nat) (m : List (List UInt8 × Nat)) (_hoff : off ≤ bs'.length) (hbig : bs'.length ≤ 158329674399744 - 400) (_hm : ∀ x ∈ m, x.2 < 65536) :
    Spec Tryd.prog 86 [.pointer (some ⟨bq, 0, none⟩), .slice p bs'.length c, .map r, .int .i64 off] [appB 5 v bs (.slice p bs'.length c) bs', .mp r (kvV m), .ro q bsq hqq]
      (fun w => Cells w bq 0 [.slice pv ts.length cv] ∧ bq ∉ fp [appB 5 v bs (.slice p bs'.length c) bs', .mp r (kvV m), .ro q bsq hqq] ∧ GE G w (fp [appB 5 v bs (.slice p bs'.length c) bs', .mp r (kvV m), .ro q bsq hqq]) ∧ q w)
      (PackPostX 5 v bs bs' r [.ro q bsq hqq] (txtP (bs'.length - off) r.isSome ts m)) := by
  refine Spec.of Tryd.func86 rfl Tryd.ntmps86 rfl fun w0 hR => ?_
  obtain ⟨hcs, hbq, hge, hq0⟩ := hR
  have hpb0 := hqb w0 hq0
  have hcnt : ts.length ≤ 4398046511104 := Nat.le_trans (texts_count ts) hfit
  refine CodeJ.seq ?_
  refine CodeJ.region ?_
  refine OpsJ.yld rfl rfl rfl (Yld.assign rfl rfl) ?_
  refine OpsJ.yld rfl rfl rfl (Yld.assign rfl rfl) ?_
  refine OpsJ.nil ?_
  refine ExJ.thenN ?_
  refine CodeJ.seq ?_
  refine CodeJ.region ?_
  refine OpsJ.yld rfl rfl rfl (Yld.move rfl rfl) ?_
  refine OpsJ.yld rfl rfl rfl (Yld.assign rfl rfl) ?_
  refine OpsJ.nil ?_
  refine ExJ.thenN ?_
  refine CodeJ.seq ?_
  refine CodeJ.seq ?_
  refine CodeJ.region ?_
  refine OpsJ.yld rfl rfl rfl (Yld.move rfl rfl) ?_
  refine OpsJ.yld rfl rfl rfl (Yld.nilCheck rfl rfl) ?_
  refine OpsJ.yld rfl rfl rfl (Yld.fieldAddr fa_100_0 rfl rfl) ?_
  refine OpsJ.yld rfl rfl rfl (Yld.load1 rfl Tryd.underlying27 rfl rfl (fun w hI => hI.old (hcs.one (k := 0) rfl) hbq)) ?_
  refine OpsJ.yld rfl rfl rfl (Yld.lenSlice rfl rfl rfl Tryd.underlying27 rfl) ?_
  refine OpsJ.yld rfl rfl rfl (Yld.move rfl rfl) ?_
  refine OpsJ.nil ?_
  refine ExJ.thenN ?_
  refine CodeJ.block ?_
  refine CodeJ.loopP (fun L H ms => ∃ (k : Nat) (p' : Option Addr) (c' : Nat) (zs : List UInt8), k ≤ ts.length ∧ zs = bs' ++ textsW (ts.take k) ∧ shortT (ts.take k) = true ∧ L = [(1, .slice p' zs.length c'), (10, .slice p bs'.length c), (18, .slice pv ts.length cv), (19, .int .i64 ts.length), (20, .int .i64 k)] ∧ H = [appB 5 v bs (.slice p' zs.length c') zs, .mp r (kvV m), .ro q bsq hqq] ∧ ms = ts.length - k) ⟨0, p, c, bs', Nat.zero_le _, by simp [textsW], rfl, rfl, rfl, rfl⟩ ⟨rfl, rfl, rfl, rfl, rfl, trivial⟩ (fun w hI => hI) ?_
  rintro _ _ _ ⟨k, p', c', zs, hk, hzs, hsh, rfl, rfl, rfl⟩
  refine CodeJ.seq ?_
  refine CodeJ.region ?_
  refine OpsJ.yld rfl rfl rfl (Yld.intBin rfl rfl rfl rfl) ?_
  refine OpsJ.nil ?_
  refine ExJ.thenN ?_
  refine CodeJ.seq ?_
  refine CodeJ.condP rfl (fun c21 => ?_) (fun c21 => ?_)
  · have hk' : k < ts.length := by omega
    obtain ⟨x, hx⟩ : ∃ x, ts[k]? = some x := ⟨ts[k], List.getElem?_eq_getElem hk'⟩
    have hmem := List.mem_of_getElem? hx
    obtain ⟨b0, off0, c2, hpv, _⟩ := Row.at (xss := ts.map fun s => [Value.string s]) (by rw [List.map_flatten_single]; exact hpb0) (fun y hy => by obtain ⟨z, _, rfl⟩ := List.mem_map.1 hy; rfl) (by simp) hk'
    simp only [Value.slice.injEq] at hpv
    obtain ⟨rfl, _, rfl⟩ := hpv
    have hcx : ∀ w, q w → Cells w b0 (off0 + k * 1) [.string x] := fun w hw => Row.cellAt (xss := ts.map fun s => [Value.string s]) (by rw [List.map_flatten_single]; exact hqb w hw) (fun y hy => by obtain ⟨z, _, rfl⟩ := List.mem_map.1 hy; rfl) (by simp) hk' (by simp [hx])
    have hnx0 := textsW_take ts k x hx
    have hlt : (textsW (ts.take k)).length ≤ 4398046511104 := Nat.le_trans (sized_take textW ts k) hfit
    have hzl : zs.length = bs'.length + (textsW (ts.take k)).length := by rw [hzs, List.length_append]
    have hxor : x.size ≤ 255 ∨ G.more.contains 11 = true := by
      rcases hor with h | h
      · left
        simpa using List.all_eq_true.1 h x hmem
      · exact .inr h
    refine CodeJ.skip ?_
    refine ExJ.thenN ?_
    refine CodeJ.seq ?_
    refine CodeJ.block ?_
    refine CodeJ.seq ?_
    refine CodeJ.region ?_
    refine OpsJ.yld rfl rfl rfl (Yld.indexAddr rfl Tryd.underlying27 sz_9 rfl rfl hk') ?_
    refine OpsJ.yld rfl rfl rfl (Yld.load1 rfl Tryd.underlying9 rfl rfl (fun w hI => hcx w (hI.roGet (i := 2) rfl))) ?_
    refine OpsJ.yld rfl rfl rfl (Yld.assign rfl rfl) ?_
    refine OpsJ.nil ?_
    refine ExJ.thenN ?_
    refine CodeJ.seq ?_
    refine CodeJ.region ?_
    refine OpsJ.yld rfl rfl rfl (Yld.assign rfl rfl) ?_
    refine OpsJ.nil ?_
    refine ExJ.thenN ?_
    refine CodeJ.seq ?_
    refine CodeJ.region ?_
    refine OpsJ.yld rfl rfl rfl (Yld.move rfl rfl) ?_
    refine OpsJ.yld rfl rfl rfl (Yld.move rfl rfl) ?_
    refine OpsJ.op rfl ?_
    refine OpJ.call (packText_spec G x hxor v _ bs zs (by omega)) has_101 rfl rfl rfl rfl rfl [0] [1, 2] (by decide) rfl rfl (fun w hI => hge.call hI (is := [0]) rfl) ?_
    rintro _ _ ⟨u27, y27, v27, zs27, b27, rfl, rfl, hnil, hT, hF⟩
    refine OpsJ.yld rfl rfl rfl (Yld.move rfl rfl) ?_
    refine OpsJ.yld rfl rfl rfl (Yld.extract rfl rfl rfl) ?_
    refine OpsJ.yld rfl rfl rfl (Yld.extract rfl rfl rfl) ?_
    refine OpsJ.yld rfl rfl rfl (Yld.assign rfl rfl) ?_
    refine OpsJ.yld rfl rfl rfl (Yld.assign rfl rfl) ?_
    refine OpsJ.nil ?_
    refine ExJ.thenN ?_
    refine CodeJ.seq ?_
    refine CodeJ.region ?_
    refine OpsJ.yld rfl rfl rfl (Yld.move rfl rfl) ?_
    refine OpsJ.yld rfl rfl rfl (Yld.ifaceNeNil rfl Tryd.underlying67 rfl hnil) ?_
    refine OpsJ.nil ?_
    refine ExJ.thenN ?_
    refine CodeJ.cond rfl (fun c31 => ?_) (fun c31 => ?_)
    · have hb : b27 = false := by simpa using c31
      obtain ⟨hlong, t27, e27, rfl⟩ := hF hb
      have hbad : ¬ shortT ts = true := fun h => by
        have := List.all_eq_true.1 h x hmem
        simp only [decide_eq_true_eq] at this
        omega
      rw [txtP, if_neg hbad]
      refine CodeJ.seq ?_
      refine CodeJ.region ?_
      refine OpsJ.yld rfl rfl rfl (Yld.move rfl rfl) ?_
      refine OpsJ.yld rfl rfl rfl (Yld.move rfl rfl) ?_
      refine OpsJ.yld rfl rfl rfl (Yld.assign rfl rfl) ?_
      refine OpsJ.yld rfl rfl rfl (Yld.assign rfl rfl) ?_
      refine OpsJ.nil ?_
      refine ExJ.thenN ?_
      refine CodeJ.ret ?_
      refine ExJ.blockR ?_
      refine ExJ.thenR ?_
      refine ExJ.thenR ?_
      refine ExJ.blockR ?_
      refine ExJ.thenR ?_
      exact ExJ.ret2 Tryd.results86 rfl rfl ⟨_, ⟨_, t27, e27, rfl, rfl⟩, rfl⟩ fun w hI => (hI.sl1 (i := 0) rfl).pick (is := [0, 1, 2]) (by decide) rfl
    · have hb : b27 = true := by simpa using c31
      obtain ⟨hs255, ⟨p27, c27, rfl, rfl⟩, hzs27⟩ := hT hb
      refine CodeJ.skip ?_
      refine ExJ.blockN ?_
      refine ExJ.thenN ?_
      refine CodeJ.region ?_
      refine OpsJ.yld rfl rfl rfl (Yld.intBin rfl rfl rfl rfl) ?_
      rw [i64_succ k (by omega)]
      refine OpsJ.yld rfl rfl rfl (Yld.move rfl rfl) ?_
      refine OpsJ.nil ?_
      exact ExJ.againP ⟨k + 1, p27, c27, zs27, by omega, by rw [hzs27, hzs, hnx0, List.append_assoc], by rw [shortT, take_snoc _ _ _ hx, List.all_append]; rw [shortT] at hsh; rw [hsh]; simpa using hs255, rfl, rfl, rfl⟩ (by omega) ⟨rfl, rfl, rfl, rfl, rfl, trivial⟩ fun w hI => hI.pick (is := [0, 1, 2]) (by decide) rfl
  · obtain rfl : k = ts.length := by omega
    rw [List.take_length] at hzs hsh
    subst hzs
    rw [txtP, if_pos hsh]
    refine CodeJ.exit ?_
    refine ExJ.thenX ?_
    refine ExJ.thenX ?_
    refine ExJ.blockHit ?_
    refine ExJ.thenN ?_
    refine CodeJ.seq ?_
    refine CodeJ.region ?_
    refine OpsJ.yld rfl rfl rfl (Yld.move rfl rfl) ?_
    refine OpsJ.yld rfl rfl rfl (Yld.assign rfl rfl) ?_
    refine OpsJ.yld rfl rfl rfl (Yld.assign rfl rfl) ?_
    refine OpsJ.nil ?_
    refine ExJ.thenN ?_
    refine CodeJ.ret ?_
    exact ExJ.ret2 Tryd.results86 rfl rfl ⟨_, ⟨p', c', rfl, rfl⟩, rfl⟩ fun w hI => hI.pick (is := [0, 1, 2]) (by decide) rfl

/-- how TXT records are added -/
def txtPk : BodyPk := fun base on x m => txtP base on x.texts m
def txtAdderQ (Q : RecD → Prop) : Adder := recAdder (fun _ => 16) txtPk (fun x => Q x ∧ (textsW x.texts).length ≤ 4398046511104)

theorem txtResource_spec (Q : RecD → Prop) (G : GEnv) (hQ : ∀ x, Q x → shortT x.texts = true ∨ G.more.contains 11 = true) (x : RecD) (on : Bool) (b : Bd) (bb : Nat) (p : Option Addr) (c : Nat) (r : Option Nat) (pv : Option Addr) (cv : Nat) (q : World → Prop) (bsq : List Nat) (hqq : ∀ w w' : World, (∀ b ∈ bsq, w'.heap[b]? = w.heap[b]?) → q w → q w') (hqb : ∀ w, q w → Row w 1 (.slice pv x.texts.length cv) x.texts.length (x.texts.map Value.string)) (hok : (txtAdderQ Q).ok x on b) (hb : BdOk b) (hr : r.isSome = on) :
    Spec Tryd.prog 46 [.pointer (some ⟨bb, 0, none⟩), .agg (rhCs (cut255 x.name) x.typ x.cls x.ttl x.len).toArray, .agg ([.slice pv x.texts.length cv]).toArray] (bdR b bb p c r ++ [.ro q bsq hqq]) (fun w => GE G w (fp (bdR b bb p c r ++ [.ro q bsq hqq])))
      (fun y H' => ErrIs G y ((txtAdderQ Q).eff x on b).2 ∧ ∃ p' c', H' = bdR ((txtAdderQ Q).eff x on b).1 bb p' c' r ++ [.ro q bsq hqq]) := by
  obtain ⟨h3, h5, hcnt, hpn, hwf, hbody⟩ := hok
  have httl := hwf.ttl
  refine Spec.of Tryd.func46 rfl Tryd.ntmps46 rfl fun w0 hge => ?_
  have hst := hb.start
  have hbig := hb.big
  subst hr
  have hnl := hpn.le
  have hrl : (rhCs (cut255 x.name) x.typ x.cls x.ttl x.len).length = 260 := rhCs_len _ (by omega) _ _ _ _
  cases hp : packN (b.buf.length - b.start) r.isSome (cut255 x.name) b.m with
  | err m1 =>
    have heff : (txtAdderQ Q).eff x r.isSome b = ({ b with m := m1 }, 3) := by simp only [txtAdderQ, recAdder, recF, hp]
    rw [heff]
    refine CodeJ.seq ?_
    refine CodeJ.region ?_
    refine OpsJ.op rfl ?_
    refine OpJ.box rfl rfl rfl rfl fun hd hhd => ?_
    refine OpsJ.op rfl ?_
    refine OpJ.box rfl rfl rfl rfl fun rb hrb => ?_
    refine OpsJ.yld rfl rfl rfl (Yld.assign rfl rfl) ?_
    refine OpsJ.nil ?_
    refine ExJ.thenN ?_
    refine CodeJ.seq ?_
    refine CodeJ.seq ?_
    refine CodeJ.region ?_
    refine OpsJ.yld rfl rfl rfl (Yld.move rfl rfl) ?_
    refine OpsJ.op rfl ?_
    refine OpJ.call (checkRes_ok b bb p c r h3 h5) has_60 rfl rfl rfl rfl rfl [2, 3, 4] [0, 1, 5] (by decide) rfl rfl (fun _ _ => trivial) ?_
    rintro _ _ ⟨rfl, rfl⟩
    refine OpsJ.yld rfl rfl rfl (Yld.assign rfl rfl) ?_
    refine OpsJ.nil ?_
    refine ExJ.thenN ?_
    refine CodeJ.seq ?_
    refine CodeJ.region ?_
    refine OpsJ.yld rfl rfl rfl (Yld.move rfl rfl) ?_
    refine OpsJ.yld rfl rfl rfl (Yld.ifaceNeNil rfl Tryd.underlying67 rfl rfl) ?_
    refine OpsJ.nil ?_
    refine ExJ.thenN ?_
    refine CodeJ.condF rfl ?_
    refine CodeJ.skip ?_
    refine ExJ.thenN ?_
    refine CodeJ.seq ?_
    refine CodeJ.region ?_
    refine OpsJ.op rfl ?_
    refine OpJ.call (txtType_spec _) has_85 rfl rfl rfl rfl rfl [] [0, 1, 2, 3, 4, 5] (by decide) rfl rfl (fun _ _ => trivial) ?_
    rintro _ _ ⟨rfl, rfl⟩
    refine OpsJ.yld rfl rfl rfl (Yld.fieldAddr fa_65_1 rfl rfl) ?_
    refine OpsJ.op rfl ?_
    refine OpJ.store1 (i := 4) rfl rfl rfl rfl rfl sz_62 rfl (by show (0 + 256 + 1).ble (rhCs (cut255 x.name) x.typ x.cls x.ttl x.len).toArray.size = true; rw [List.size_toArray, hrl]; rfl) ?_
    refine OpsJ.congrH (congrArg (fun z => List.set _ 4 (Res.blk hd z _)) (rh_setT (cut255 x.name) (by omega) x.typ x.cls x.ttl x.len (16))) ?_
    refine OpsJ.nil ?_
    refine ExJ.thenN ?_
    refine CodeJ.seq ?_
    refine CodeJ.any (fuel := 20) (listed := #[false, false, false, false, false, false, false, false, false, false, false, false, false, false, false, false, false, false, false, false]) [0, 3, 4, 5] rfl follows_mixed rfl rfl ?_
    refine AnyJ.take (fuel := 19) (listed' := #[true, false, false, false, false, false, false, false, false, false, false, false, false, false, false, false, false, false, false, false]) 0 rfl (by kernel_rfl) (by kernel_rfl) (by kernel_rfl) rfl rfl rfl rfl (Yld.move rfl rfl) (fun w hI => hI.pick (is := [0, 3, 4, 5]) (by decide) rfl) ?_
    refine AnyJ.take (fuel := 18) (listed' := #[true, true, false, false, false, false, false, false, false, false, false, false, false, false, false, false, false, false, false, false]) 1 rfl (by kernel_rfl) (by kernel_rfl) (by kernel_rfl) rfl rfl rfl rfl (Yld.nilCheck rfl rfl) (fun w hI => hI.pick (is := [0, 3, 4, 5]) (by decide) rfl) ?_
    refine AnyJ.take (fuel := 17) (listed' := #[true, true, true, false, false, false, false, false, false, false, false, false, false, false, false, false, false, false, false, false]) 2 rfl (by kernel_rfl) (by kernel_rfl) (by kernel_rfl) rfl rfl rfl rfl (Yld.fieldAddr fa_108_0 rfl rfl) (fun w hI => hI.pick (is := [0, 3, 4, 5]) (by decide) rfl) ?_
    refine AnyJ.take (fuel := 16) (listed' := #[true, true, true, true, false, false, false, false, false, false, false, false, false, false, false, false, false, false, false, false]) 3 rfl (by kernel_rfl) (by kernel_rfl) (by kernel_rfl) rfl rfl rfl rfl (Yld.load1 rfl Tryd.underlying26 rfl rfl (fun w hI => Inv.cell1 hI (i := 0) rfl rfl)) (fun w hI => hI.pick (is := [0, 3, 4, 5]) (by decide) rfl) ?_
    refine AnyJ.take (fuel := 15) (listed' := #[true, true, true, true, true, false, false, false, false, false, false, false, false, false, false, false, false, false, false, false]) 4 rfl (by kernel_rfl) (by kernel_rfl) (by kernel_rfl) rfl rfl rfl rfl (Yld.move rfl rfl) (fun w hI => hI.pick (is := [0, 3, 4, 5]) (by decide) rfl) ?_
    refine AnyJ.take (fuel := 14) (listed' := #[true, true, true, true, true, true, false, false, false, false, false, false, false, false, false, false, false, false, false, false]) 5 rfl (by kernel_rfl) (by kernel_rfl) (by kernel_rfl) rfl rfl rfl rfl (Yld.nilCheck rfl rfl) (fun w hI => hI.pick (is := [0, 3, 4, 5]) (by decide) rfl) ?_
    refine AnyJ.take (fuel := 13) (listed' := #[true, true, true, true, true, true, true, false, false, false, false, false, false, false, false, false, false, false, false, false]) 6 rfl (by kernel_rfl) (by kernel_rfl) (by kernel_rfl) rfl rfl rfl rfl (Yld.fieldAddr fa_108_4 rfl rfl) (fun w hI => hI.pick (is := [0, 3, 4, 5]) (by decide) rfl) ?_
    refine AnyJ.take (fuel := 12) (listed' := #[true, true, true, true, true, true, true, true, false, false, false, false, false, false, false, false, false, false, false, false]) 7 rfl (by kernel_rfl) (by kernel_rfl) (by kernel_rfl) rfl rfl rfl rfl (Yld.load1 rfl Tryd.underlying106 rfl rfl (fun w hI => Inv.cell1 hI (i := 0) rfl rfl)) (fun w hI => hI.pick (is := [0, 3, 4, 5]) (by decide) rfl) ?_
    refine AnyJ.take (fuel := 11) (listed' := #[true, true, true, true, true, true, true, true, true, false, false, false, false, false, false, false, false, false, false, false]) 8 rfl (by kernel_rfl) (by kernel_rfl) (by kernel_rfl) rfl rfl rfl rfl (Yld.move rfl rfl) (fun w hI => hI.pick (is := [0, 3, 4, 5]) (by decide) rfl) ?_
    refine AnyJ.take (fuel := 10) (listed' := #[true, true, true, true, true, true, true, true, true, true, false, false, false, false, false, false, false, false, false, false]) 9 rfl (by kernel_rfl) (by kernel_rfl) (by kernel_rfl) rfl rfl rfl rfl (Yld.nilCheck rfl rfl) (fun w hI => hI.pick (is := [0, 3, 4, 5]) (by decide) rfl) ?_
    refine AnyJ.take (fuel := 9) (listed' := #[true, true, true, true, true, true, true, true, true, true, true, false, false, false, false, false, false, false, false, false]) 10 rfl (by kernel_rfl) (by kernel_rfl) (by kernel_rfl) rfl rfl rfl rfl (Yld.fieldAddr fa_108_3 rfl rfl) (fun w hI => hI.pick (is := [0, 3, 4, 5]) (by decide) rfl) ?_
    refine AnyJ.take (fuel := 8) (listed' := #[true, true, true, true, true, true, true, true, true, true, true, true, false, false, false, false, false, false, false, false]) 11 rfl (by kernel_rfl) (by kernel_rfl) (by kernel_rfl) rfl rfl rfl rfl (Yld.load1 rfl Tryd.underlying3 rfl rfl (fun w hI => Inv.cell1 hI (i := 0) rfl rfl)) (fun w hI => hI.pick (is := [0, 3, 4, 5]) (by decide) rfl) ?_
    refine AnyJ.one (fuel := 7) 12 (by kernel_rfl) ?_
    refine StepJ.op (listed' := #[true, true, true, true, true, true, true, true, true, true, true, true, true, false, false, false, false, false, false, false]) rfl rfl rfl ?_
    refine OpJ.call (rhPack_spec G (cut255 x.name) hpn (16) x.cls x.ttl x.len httl hd b.start (.slice p b.buf.length c) b.buf b.buf p c r b.m (by omega) hbig hb.small) has_62 rfl rfl rfl rfl rfl [1, 2] [0, 3, 4, 5] (by decide) rfl rfl (fun w hI => ⟨Inv.whole hI (i := 4) rfl, hI.apart (i := 4) rfl (is := [1, 2]) (by decide) rfl hd (by simp [Res.ats]), hge.call hI (is := [1, 2]) rfl⟩) ?_
    rintro _ _ hpost
    rw [hp] at hpost
    obtain ⟨u1, u2, a34, rfl, rfl⟩ := hpost
    refine ⟨fun w hI => hI.pick (is := [2, 3, 4, 5]) (by decide) rfl, ?_⟩
    refine AnyJ.take (fuel := 6) (listed' := #[true, true, true, true, true, true, true, true, true, true, true, true, true, true, false, false, false, false, false, false]) 13 rfl (by kernel_rfl) (by kernel_rfl) (by kernel_rfl) rfl rfl rfl rfl (Yld.move rfl rfl) (fun w hI => hI.pick (is := [2, 3, 4, 5]) (by decide) rfl) ?_
    refine AnyJ.take (fuel := 5) (listed' := #[true, true, true, true, true, true, true, true, true, true, true, true, true, true, true, false, false, false, false, false]) 14 rfl (by kernel_rfl) (by kernel_rfl) (by kernel_rfl) rfl rfl rfl rfl (Yld.extract rfl rfl rfl) (fun w hI => hI.pick (is := [2, 3, 4, 5]) (by decide) rfl) ?_
    refine AnyJ.take (fuel := 4) (listed' := #[true, true, true, true, true, true, true, true, true, true, true, true, true, true, true, true, false, false, false, false]) 15 rfl (by kernel_rfl) (by kernel_rfl) (by kernel_rfl) rfl rfl rfl rfl (Yld.extract rfl rfl rfl) (fun w hI => hI.pick (is := [2, 3, 4, 5]) (by decide) rfl) ?_
    refine AnyJ.take (fuel := 3) (listed' := #[true, true, true, true, true, true, true, true, true, true, true, true, true, true, true, true, true, false, false, false]) 16 rfl (by kernel_rfl) (by kernel_rfl) (by kernel_rfl) rfl rfl rfl rfl (Yld.extract rfl rfl rfl) (fun w hI => hI.pick (is := [2, 3, 4, 5]) (by decide) rfl) ?_
    refine AnyJ.take (fuel := 2) (listed' := #[true, true, true, true, true, true, true, true, true, true, true, true, true, true, true, true, true, true, false, false]) 17 rfl (by kernel_rfl) (by kernel_rfl) (by kernel_rfl) rfl rfl rfl rfl (Yld.assign rfl rfl) (fun w hI => hI.pick (is := [2, 3, 4, 5]) (by decide) rfl) ?_
    refine AnyJ.take (fuel := 1) (listed' := #[true, true, true, true, true, true, true, true, true, true, true, true, true, true, true, true, true, true, true, false]) 18 rfl (by kernel_rfl) (by kernel_rfl) (by kernel_rfl) rfl rfl rfl rfl (Yld.assign rfl rfl) (fun w hI => hI.pick (is := [2, 3, 4, 5]) (by decide) rfl) ?_
    refine AnyJ.take (fuel := 0) (listed' := #[true, true, true, true, true, true, true, true, true, true, true, true, true, true, true, true, true, true, true, true]) 19 rfl (by kernel_rfl) (by kernel_rfl) (by kernel_rfl) rfl rfl rfl rfl (Yld.assign rfl rfl) (fun w hI => hI.pick (is := [2, 3, 4, 5]) (by decide) rfl) ?_
    refine AnyJ.done (by kernel_rfl) ?_
    refine ExJ.thenN ?_
    refine CodeJ.seq ?_
    refine CodeJ.seq ?_
    refine CodeJ.region ?_
    refine OpsJ.yld rfl rfl rfl (Yld.move rfl rfl) ?_
    refine OpsJ.yld rfl rfl rfl (Yld.ifaceNeNil rfl Tryd.underlying67 rfl rfl) ?_
    refine OpsJ.nil ?_
    refine ExJ.thenN ?_
    refine CodeJ.condT rfl ?_
    refine CodeJ.seq ?_
    refine CodeJ.region ?_
    refine OpsJ.yld rfl rfl rfl (Yld.move rfl rfl) ?_
    refine OpsJ.yld rfl rfl rfl (Yld.build places_129 zero_129 rfl rfl rfl) ?_
    refine OpsJ.op rfl ?_
    refine OpJ.box rfl rfl rfl rfl fun ne hne => ?_
    refine OpsJ.yld rfl rfl rfl (Yld.makeInterface rfl Tryd.underlying127 rfl rfl) ?_
    refine OpsJ.yld rfl rfl rfl (Yld.assign rfl rfl) ?_
    refine OpsJ.nil ?_
    refine ExJ.thenN ?_
    refine CodeJ.ret ?_
    refine ExJ.thenR ?_
    exact ExJ.ret1 Tryd.results46 rfl ⟨.inr (.inr ⟨rfl, _, rfl⟩), p, c, rfl⟩ fun w hI => hI.pick (is := [3, 1, 2, 6]) (by decide) rfl
  | ok ys m1 =>
    obtain ⟨hpok, hblen⟩ := hbody ⟨ys, m1, hp⟩
    have hys := packN_len hp
    have hm1 : ∀ x ∈ m1, x.2 < 65536 := by
      have := packN_small (b.buf.length - b.start) r.isSome (cut255 x.name) b.m hb.small
      rw [hp] at this
      exact this
    have hrel : (b.buf ++ ys ++ rh10 (16) x.cls x.ttl x.len).length - b.start = b.rel + ys.length + 10 := by
      simp only [List.length_append, rh10_len, Bd.rel]
      omega
    cases hq : txtPk (b.rel + ys.length + 10) r.isSome x m1 with
    | err m2 =>
      have heff : (txtAdderQ Q).eff x r.isSome b = ({ b with m := m2 }, 3) := by simp only [txtAdderQ, recAdder, recF, hp, hq]
      simp only [txtPk] at hq
      rw [heff]
      refine CodeJ.seq ?_
      refine CodeJ.region ?_
      refine OpsJ.op rfl ?_
      refine OpJ.box rfl rfl rfl rfl fun hd hhd => ?_
      refine OpsJ.op rfl ?_
      refine OpJ.box rfl rfl rfl rfl fun rb hrb => ?_
      refine OpsJ.yld rfl rfl rfl (Yld.assign rfl rfl) ?_
      refine OpsJ.nil ?_
      refine ExJ.thenN ?_
      refine CodeJ.seq ?_
      refine CodeJ.seq ?_
      refine CodeJ.region ?_
      refine OpsJ.yld rfl rfl rfl (Yld.move rfl rfl) ?_
      refine OpsJ.op rfl ?_
      refine OpJ.call (checkRes_ok b bb p c r h3 h5) has_60 rfl rfl rfl rfl rfl [2, 3, 4] [0, 1, 5] (by decide) rfl rfl (fun _ _ => trivial) ?_
      rintro _ _ ⟨rfl, rfl⟩
      refine OpsJ.yld rfl rfl rfl (Yld.assign rfl rfl) ?_
      refine OpsJ.nil ?_
      refine ExJ.thenN ?_
      refine CodeJ.seq ?_
      refine CodeJ.region ?_
      refine OpsJ.yld rfl rfl rfl (Yld.move rfl rfl) ?_
      refine OpsJ.yld rfl rfl rfl (Yld.ifaceNeNil rfl Tryd.underlying67 rfl rfl) ?_
      refine OpsJ.nil ?_
      refine ExJ.thenN ?_
      refine CodeJ.condF rfl ?_
      refine CodeJ.skip ?_
      refine ExJ.thenN ?_
      refine CodeJ.seq ?_
      refine CodeJ.region ?_
      refine OpsJ.op rfl ?_
      refine OpJ.call (txtType_spec _) has_85 rfl rfl rfl rfl rfl [] [0, 1, 2, 3, 4, 5] (by decide) rfl rfl (fun _ _ => trivial) ?_
      rintro _ _ ⟨rfl, rfl⟩
      refine OpsJ.yld rfl rfl rfl (Yld.fieldAddr fa_65_1 rfl rfl) ?_
      refine OpsJ.op rfl ?_
      refine OpJ.store1 (i := 4) rfl rfl rfl rfl rfl sz_62 rfl (by show (0 + 256 + 1).ble (rhCs (cut255 x.name) x.typ x.cls x.ttl x.len).toArray.size = true; rw [List.size_toArray, hrl]; rfl) ?_
      refine OpsJ.congrH (congrArg (fun z => List.set _ 4 (Res.blk hd z _)) (rh_setT (cut255 x.name) (by omega) x.typ x.cls x.ttl x.len (16))) ?_
      refine OpsJ.nil ?_
      refine ExJ.thenN ?_
      refine CodeJ.seq ?_
      refine CodeJ.any (fuel := 20) (listed := #[false, false, false, false, false, false, false, false, false, false, false, false, false, false, false, false, false, false, false, false]) [0, 3, 4, 5] rfl follows_mixed rfl rfl ?_
      refine AnyJ.take (fuel := 19) (listed' := #[true, false, false, false, false, false, false, false, false, false, false, false, false, false, false, false, false, false, false, false]) 0 rfl (by kernel_rfl) (by kernel_rfl) (by kernel_rfl) rfl rfl rfl rfl (Yld.move rfl rfl) (fun w hI => hI.pick (is := [0, 3, 4, 5]) (by decide) rfl) ?_
      refine AnyJ.take (fuel := 18) (listed' := #[true, true, false, false, false, false, false, false, false, false, false, false, false, false, false, false, false, false, false, false]) 1 rfl (by kernel_rfl) (by kernel_rfl) (by kernel_rfl) rfl rfl rfl rfl (Yld.nilCheck rfl rfl) (fun w hI => hI.pick (is := [0, 3, 4, 5]) (by decide) rfl) ?_
      refine AnyJ.take (fuel := 17) (listed' := #[true, true, true, false, false, false, false, false, false, false, false, false, false, false, false, false, false, false, false, false]) 2 rfl (by kernel_rfl) (by kernel_rfl) (by kernel_rfl) rfl rfl rfl rfl (Yld.fieldAddr fa_108_0 rfl rfl) (fun w hI => hI.pick (is := [0, 3, 4, 5]) (by decide) rfl) ?_
      refine AnyJ.take (fuel := 16) (listed' := #[true, true, true, true, false, false, false, false, false, false, false, false, false, false, false, false, false, false, false, false]) 3 rfl (by kernel_rfl) (by kernel_rfl) (by kernel_rfl) rfl rfl rfl rfl (Yld.load1 rfl Tryd.underlying26 rfl rfl (fun w hI => Inv.cell1 hI (i := 0) rfl rfl)) (fun w hI => hI.pick (is := [0, 3, 4, 5]) (by decide) rfl) ?_
      refine AnyJ.take (fuel := 15) (listed' := #[true, true, true, true, true, false, false, false, false, false, false, false, false, false, false, false, false, false, false, false]) 4 rfl (by kernel_rfl) (by kernel_rfl) (by kernel_rfl) rfl rfl rfl rfl (Yld.move rfl rfl) (fun w hI => hI.pick (is := [0, 3, 4, 5]) (by decide) rfl) ?_
      refine AnyJ.take (fuel := 14) (listed' := #[true, true, true, true, true, true, false, false, false, false, false, false, false, false, false, false, false, false, false, false]) 5 rfl (by kernel_rfl) (by kernel_rfl) (by kernel_rfl) rfl rfl rfl rfl (Yld.nilCheck rfl rfl) (fun w hI => hI.pick (is := [0, 3, 4, 5]) (by decide) rfl) ?_
      refine AnyJ.take (fuel := 13) (listed' := #[true, true, true, true, true, true, true, false, false, false, false, false, false, false, false, false, false, false, false, false]) 6 rfl (by kernel_rfl) (by kernel_rfl) (by kernel_rfl) rfl rfl rfl rfl (Yld.fieldAddr fa_108_4 rfl rfl) (fun w hI => hI.pick (is := [0, 3, 4, 5]) (by decide) rfl) ?_
      refine AnyJ.take (fuel := 12) (listed' := #[true, true, true, true, true, true, true, true, false, false, false, false, false, false, false, false, false, false, false, false]) 7 rfl (by kernel_rfl) (by kernel_rfl) (by kernel_rfl) rfl rfl rfl rfl (Yld.load1 rfl Tryd.underlying106 rfl rfl (fun w hI => Inv.cell1 hI (i := 0) rfl rfl)) (fun w hI => hI.pick (is := [0, 3, 4, 5]) (by decide) rfl) ?_
      refine AnyJ.take (fuel := 11) (listed' := #[true, true, true, true, true, true, true, true, true, false, false, false, false, false, false, false, false, false, false, false]) 8 rfl (by kernel_rfl) (by kernel_rfl) (by kernel_rfl) rfl rfl rfl rfl (Yld.move rfl rfl) (fun w hI => hI.pick (is := [0, 3, 4, 5]) (by decide) rfl) ?_
      refine AnyJ.take (fuel := 10) (listed' := #[true, true, true, true, true, true, true, true, true, true, false, false, false, false, false, false, false, false, false, false]) 9 rfl (by kernel_rfl) (by kernel_rfl) (by kernel_rfl) rfl rfl rfl rfl (Yld.nilCheck rfl rfl) (fun w hI => hI.pick (is := [0, 3, 4, 5]) (by decide) rfl) ?_
      refine AnyJ.take (fuel := 9) (listed' := #[true, true, true, true, true, true, true, true, true, true, true, false, false, false, false, false, false, false, false, false]) 10 rfl (by kernel_rfl) (by kernel_rfl) (by kernel_rfl) rfl rfl rfl rfl (Yld.fieldAddr fa_108_3 rfl rfl) (fun w hI => hI.pick (is := [0, 3, 4, 5]) (by decide) rfl) ?_
      refine AnyJ.take (fuel := 8) (listed' := #[true, true, true, true, true, true, true, true, true, true, true, true, false, false, false, false, false, false, false, false]) 11 rfl (by kernel_rfl) (by kernel_rfl) (by kernel_rfl) rfl rfl rfl rfl (Yld.load1 rfl Tryd.underlying3 rfl rfl (fun w hI => Inv.cell1 hI (i := 0) rfl rfl)) (fun w hI => hI.pick (is := [0, 3, 4, 5]) (by decide) rfl) ?_
      refine AnyJ.one (fuel := 7) 12 (by kernel_rfl) ?_
      refine StepJ.op (listed' := #[true, true, true, true, true, true, true, true, true, true, true, true, true, false, false, false, false, false, false, false]) rfl rfl rfl ?_
      refine OpJ.call (rhPack_spec G (cut255 x.name) hpn (16) x.cls x.ttl x.len httl hd b.start (.slice p b.buf.length c) b.buf b.buf p c r b.m (by omega) hbig hb.small) has_62 rfl rfl rfl rfl rfl [1, 2] [0, 3, 4, 5] (by decide) rfl rfl (fun w hI => ⟨Inv.whole hI (i := 4) rfl, hI.apart (i := 4) rfl (is := [1, 2]) (by decide) rfl hd (by simp [Res.ats]), hge.call hI (is := [1, 2]) rfl⟩) ?_
      rintro _ _ hpost
      rw [hp] at hpost
      obtain ⟨p34, c34, rfl, rfl⟩ := hpost
      refine ⟨fun w hI => hI.pick (is := [2, 3, 4, 5]) (by decide) rfl, ?_⟩
      refine AnyJ.take (fuel := 6) (listed' := #[true, true, true, true, true, true, true, true, true, true, true, true, true, true, false, false, false, false, false, false]) 13 rfl (by kernel_rfl) (by kernel_rfl) (by kernel_rfl) rfl rfl rfl rfl (Yld.move rfl rfl) (fun w hI => hI.pick (is := [2, 3, 4, 5]) (by decide) rfl) ?_
      refine AnyJ.take (fuel := 5) (listed' := #[true, true, true, true, true, true, true, true, true, true, true, true, true, true, true, false, false, false, false, false]) 14 rfl (by kernel_rfl) (by kernel_rfl) (by kernel_rfl) rfl rfl rfl rfl (Yld.extract rfl rfl rfl) (fun w hI => hI.pick (is := [2, 3, 4, 5]) (by decide) rfl) ?_
      refine AnyJ.take (fuel := 4) (listed' := #[true, true, true, true, true, true, true, true, true, true, true, true, true, true, true, true, false, false, false, false]) 15 rfl (by kernel_rfl) (by kernel_rfl) (by kernel_rfl) rfl rfl rfl rfl (Yld.extract rfl rfl rfl) (fun w hI => hI.pick (is := [2, 3, 4, 5]) (by decide) rfl) ?_
      refine AnyJ.take (fuel := 3) (listed' := #[true, true, true, true, true, true, true, true, true, true, true, true, true, true, true, true, true, false, false, false]) 16 rfl (by kernel_rfl) (by kernel_rfl) (by kernel_rfl) rfl rfl rfl rfl (Yld.extract rfl rfl rfl) (fun w hI => hI.pick (is := [2, 3, 4, 5]) (by decide) rfl) ?_
      refine AnyJ.take (fuel := 2) (listed' := #[true, true, true, true, true, true, true, true, true, true, true, true, true, true, true, true, true, true, false, false]) 17 rfl (by kernel_rfl) (by kernel_rfl) (by kernel_rfl) rfl rfl rfl rfl (Yld.assign rfl rfl) (fun w hI => hI.pick (is := [2, 3, 4, 5]) (by decide) rfl) ?_
      refine AnyJ.take (fuel := 1) (listed' := #[true, true, true, true, true, true, true, true, true, true, true, true, true, true, true, true, true, true, true, false]) 18 rfl (by kernel_rfl) (by kernel_rfl) (by kernel_rfl) rfl rfl rfl rfl (Yld.assign rfl rfl) (fun w hI => hI.pick (is := [2, 3, 4, 5]) (by decide) rfl) ?_
      refine AnyJ.take (fuel := 0) (listed' := #[true, true, true, true, true, true, true, true, true, true, true, true, true, true, true, true, true, true, true, true]) 19 rfl (by kernel_rfl) (by kernel_rfl) (by kernel_rfl) rfl rfl rfl rfl (Yld.assign rfl rfl) (fun w hI => hI.pick (is := [2, 3, 4, 5]) (by decide) rfl) ?_
      refine AnyJ.done (by kernel_rfl) ?_
      refine ExJ.thenN ?_
      refine CodeJ.seq ?_
      refine CodeJ.seq ?_
      refine CodeJ.region ?_
      refine OpsJ.yld rfl rfl rfl (Yld.move rfl rfl) ?_
      refine OpsJ.yld rfl rfl rfl (Yld.ifaceNeNil rfl Tryd.underlying67 rfl rfl) ?_
      refine OpsJ.nil ?_
      refine ExJ.thenN ?_
      refine CodeJ.condF rfl ?_
      refine CodeJ.skip ?_
      refine ExJ.thenN ?_
      refine CodeJ.seq ?_
      refine CodeJ.region ?_
      refine OpsJ.yld rfl rfl rfl (Yld.move rfl rfl) ?_
      refine OpsJ.yld rfl rfl rfl (Yld.lenSlice rfl rfl rfl Tryd.underlying26 rfl) ?_
      refine OpsJ.yld rfl rfl rfl (Yld.assign rfl rfl) ?_
      refine OpsJ.nil ?_
      refine ExJ.thenN ?_
      refine CodeJ.seq ?_
      refine CodeJ.seq ?_
      refine CodeJ.any (fuel := 15) (listed := #[false, false, false, false, false, false, false, false, false, false, false, false, false, false, false]) [2, 3, 4] rfl follows_mixed rfl rfl ?_
      refine AnyJ.take (fuel := 14) (listed' := #[true, false, false, false, false, false, false, false, false, false, false, false, false, false, false]) 0 rfl (by kernel_rfl) (by kernel_rfl) (by kernel_rfl) rfl rfl rfl rfl (Yld.move rfl rfl) (fun w hI => hI.pick (is := [2, 3, 4]) (by decide) rfl) ?_
      refine AnyJ.take (fuel := 13) (listed' := #[true, true, false, false, false, false, false, false, false, false, false, false, false, false, false]) 1 rfl (by kernel_rfl) (by kernel_rfl) (by kernel_rfl) rfl rfl rfl rfl (Yld.move rfl rfl) (fun w hI => hI.pick (is := [2, 3, 4]) (by decide) rfl) ?_
      refine AnyJ.take (fuel := 12) (listed' := #[true, true, true, false, false, false, false, false, false, false, false, false, false, false, false]) 2 rfl (by kernel_rfl) (by kernel_rfl) (by kernel_rfl) rfl rfl rfl rfl (Yld.nilCheck rfl rfl) (fun w hI => hI.pick (is := [2, 3, 4]) (by decide) rfl) ?_
      refine AnyJ.take (fuel := 11) (listed' := #[true, true, true, true, false, false, false, false, false, false, false, false, false, false, false]) 3 rfl (by kernel_rfl) (by kernel_rfl) (by kernel_rfl) rfl rfl rfl rfl (Yld.fieldAddr fa_108_4 rfl rfl) (fun w hI => hI.pick (is := [2, 3, 4]) (by decide) rfl) ?_
      refine AnyJ.take (fuel := 10) (listed' := #[true, true, true, true, true, false, false, false, false, false, false, false, false, false, false]) 4 rfl (by kernel_rfl) (by kernel_rfl) (by kernel_rfl) rfl rfl rfl rfl (Yld.load1 rfl Tryd.underlying106 rfl rfl (fun w hI => Inv.cell1 hI (i := 0) rfl rfl)) (fun w hI => hI.pick (is := [2, 3, 4]) (by decide) rfl) ?_
      refine AnyJ.take (fuel := 9) (listed' := #[true, true, true, true, true, true, false, false, false, false, false, false, false, false, false]) 5 rfl (by kernel_rfl) (by kernel_rfl) (by kernel_rfl) rfl rfl rfl rfl (Yld.move rfl rfl) (fun w hI => hI.pick (is := [2, 3, 4]) (by decide) rfl) ?_
      refine AnyJ.take (fuel := 8) (listed' := #[true, true, true, true, true, true, true, false, false, false, false, false, false, false, false]) 6 rfl (by kernel_rfl) (by kernel_rfl) (by kernel_rfl) rfl rfl rfl rfl (Yld.nilCheck rfl rfl) (fun w hI => hI.pick (is := [2, 3, 4]) (by decide) rfl) ?_
      refine AnyJ.take (fuel := 7) (listed' := #[true, true, true, true, true, true, true, true, false, false, false, false, false, false, false]) 7 rfl (by kernel_rfl) (by kernel_rfl) (by kernel_rfl) rfl rfl rfl rfl (Yld.fieldAddr fa_108_3 rfl rfl) (fun w hI => hI.pick (is := [2, 3, 4]) (by decide) rfl) ?_
      refine AnyJ.take (fuel := 6) (listed' := #[true, true, true, true, true, true, true, true, true, false, false, false, false, false, false]) 8 rfl (by kernel_rfl) (by kernel_rfl) (by kernel_rfl) rfl rfl rfl rfl (Yld.load1 rfl Tryd.underlying3 rfl rfl (fun w hI => Inv.cell1 hI (i := 0) rfl rfl)) (fun w hI => hI.pick (is := [2, 3, 4]) (by decide) rfl) ?_
      refine AnyJ.one (fuel := 5) 9 (by kernel_rfl) ?_
      refine StepJ.op (listed' := #[true, true, true, true, true, true, true, true, true, true, false, false, false, false, false]) rfl rfl rfl ?_
      refine OpJ.call (txtPack_spec G x.texts (hQ x hpok.1) hpok.2 pv cv q bsq hqq hqb rb b.start (.slice p b.buf.length c) b.buf (b.buf ++ ys ++ rh10 (16) x.cls x.ttl x.len) p34 c34 r m1 (by simp; omega) (by simp [rh10_len]; omega) hm1) has_86 rfl rfl rfl rfl rfl [0, 1, 5] [2, 3, 4] (by decide) rfl rfl (fun w hI => ⟨Inv.whole hI (i := 3) rfl, hI.apart (i := 3) rfl (is := [0, 1, 5]) (by decide) rfl rb (by simp [Res.ats]), hge.call hI (is := [0, 1, 5]) rfl, hI.roGet (i := 5) rfl⟩) ?_
      rintro _ _ hpost
      obtain ⟨H0, hpost, rfl⟩ := hpost
      rw [hrel] at hpost
      rw [hq] at hpost
      obtain ⟨u56, t56, e56, rfl, rfl⟩ := hpost
      refine ⟨fun w hI => hI.pick (is := [3, 4, 5]) (by decide) rfl, ?_⟩
      refine AnyJ.take (fuel := 4) (listed' := #[true, true, true, true, true, true, true, true, true, true, true, false, false, false, false]) 10 rfl (by kernel_rfl) (by kernel_rfl) (by kernel_rfl) rfl rfl rfl rfl (Yld.move rfl rfl) (fun w hI => hI.pick (is := [3, 4, 5]) (by decide) rfl) ?_
      refine AnyJ.take (fuel := 3) (listed' := #[true, true, true, true, true, true, true, true, true, true, true, true, false, false, false]) 11 rfl (by kernel_rfl) (by kernel_rfl) (by kernel_rfl) rfl rfl rfl rfl (Yld.extract rfl rfl rfl) (fun w hI => hI.pick (is := [3, 4, 5]) (by decide) rfl) ?_
      refine AnyJ.take (fuel := 2) (listed' := #[true, true, true, true, true, true, true, true, true, true, true, true, true, false, false]) 12 rfl (by kernel_rfl) (by kernel_rfl) (by kernel_rfl) rfl rfl rfl rfl (Yld.extract rfl rfl rfl) (fun w hI => hI.pick (is := [3, 4, 5]) (by decide) rfl) ?_
      refine AnyJ.take (fuel := 1) (listed' := #[true, true, true, true, true, true, true, true, true, true, true, true, true, true, false]) 13 rfl (by kernel_rfl) (by kernel_rfl) (by kernel_rfl) rfl rfl rfl rfl (Yld.assign rfl rfl) (fun w hI => hI.pick (is := [3, 4, 5]) (by decide) rfl) ?_
      refine AnyJ.take (fuel := 0) (listed' := #[true, true, true, true, true, true, true, true, true, true, true, true, true, true, true]) 14 rfl (by kernel_rfl) (by kernel_rfl) (by kernel_rfl) rfl rfl rfl rfl (Yld.assign rfl rfl) (fun w hI => hI.pick (is := [3, 4, 5]) (by decide) rfl) ?_
      refine AnyJ.done (by kernel_rfl) ?_
      refine ExJ.thenN ?_
      refine CodeJ.seq ?_
      refine CodeJ.region ?_
      refine OpsJ.yld rfl rfl rfl (Yld.move rfl rfl) ?_
      refine OpsJ.yld rfl rfl rfl (Yld.ifaceNeNil rfl Tryd.underlying67 rfl rfl) ?_
      refine OpsJ.nil ?_
      refine ExJ.thenN ?_
      refine CodeJ.condT rfl ?_
      refine CodeJ.seq ?_
      refine CodeJ.region ?_
      refine OpsJ.yld rfl rfl rfl (Yld.move rfl rfl) ?_
      refine OpsJ.yld rfl rfl rfl (Yld.build places_129 zero_129 rfl rfl rfl) ?_
      refine OpsJ.op rfl ?_
      refine OpJ.box rfl rfl rfl rfl fun ne hne => ?_
      refine OpsJ.yld rfl rfl rfl (Yld.makeInterface rfl Tryd.underlying127 rfl rfl) ?_
      refine OpsJ.yld rfl rfl rfl (Yld.assign rfl rfl) ?_
      refine OpsJ.nil ?_
      refine ExJ.thenN ?_
      refine CodeJ.ret ?_
      refine ExJ.thenR ?_
      exact ExJ.ret1 Tryd.results46 rfl ⟨.inr (.inr ⟨rfl, _, rfl⟩), p, c, rfl⟩ fun w hI => hI.pick (is := [4, 1, 2, 3]) (by decide) rfl
    | ok zs m2 =>
      have hzl := hblen _ _ _ _ hq
      have heff : (txtAdderQ Q).eff x r.isSome b = (({ b with buf := b.buf ++ ys ++ rh10 (16) x.cls x.ttl zs.length ++ zs, m := m2 } : Bd).incr, 0) := by simp only [txtAdderQ, recAdder, recF, hp, hq]
      simp only [txtPk] at hq
      rw [heff]
      refine CodeJ.seq ?_
      refine CodeJ.region ?_
      refine OpsJ.op rfl ?_
      refine OpJ.box rfl rfl rfl rfl fun hd hhd => ?_
      refine OpsJ.op rfl ?_
      refine OpJ.box rfl rfl rfl rfl fun rb hrb => ?_
      refine OpsJ.yld rfl rfl rfl (Yld.assign rfl rfl) ?_
      refine OpsJ.nil ?_
      refine ExJ.thenN ?_
      refine CodeJ.seq ?_
      refine CodeJ.seq ?_
      refine CodeJ.region ?_
      refine OpsJ.yld rfl rfl rfl (Yld.move rfl rfl) ?_
      refine OpsJ.op rfl ?_
      refine OpJ.call (checkRes_ok b bb p c r h3 h5) has_60 rfl rfl rfl rfl rfl [2, 3, 4] [0, 1, 5] (by decide) rfl rfl (fun _ _ => trivial) ?_
      rintro _ _ ⟨rfl, rfl⟩
      refine OpsJ.yld rfl rfl rfl (Yld.assign rfl rfl) ?_
      refine OpsJ.nil ?_
      refine ExJ.thenN ?_
      refine CodeJ.seq ?_
      refine CodeJ.region ?_
      refine OpsJ.yld rfl rfl rfl (Yld.move rfl rfl) ?_
      refine OpsJ.yld rfl rfl rfl (Yld.ifaceNeNil rfl Tryd.underlying67 rfl rfl) ?_
      refine OpsJ.nil ?_
      refine ExJ.thenN ?_
      refine CodeJ.condF rfl ?_
      refine CodeJ.skip ?_
      refine ExJ.thenN ?_
      refine CodeJ.seq ?_
      refine CodeJ.region ?_
      refine OpsJ.op rfl ?_
      refine OpJ.call (txtType_spec _) has_85 rfl rfl rfl rfl rfl [] [0, 1, 2, 3, 4, 5] (by decide) rfl rfl (fun _ _ => trivial) ?_
      rintro _ _ ⟨rfl, rfl⟩
      refine OpsJ.yld rfl rfl rfl (Yld.fieldAddr fa_65_1 rfl rfl) ?_
      refine OpsJ.op rfl ?_
      refine OpJ.store1 (i := 4) rfl rfl rfl rfl rfl sz_62 rfl (by show (0 + 256 + 1).ble (rhCs (cut255 x.name) x.typ x.cls x.ttl x.len).toArray.size = true; rw [List.size_toArray, hrl]; rfl) ?_
      refine OpsJ.congrH (congrArg (fun z => List.set _ 4 (Res.blk hd z _)) (rh_setT (cut255 x.name) (by omega) x.typ x.cls x.ttl x.len (16))) ?_
      refine OpsJ.nil ?_
      refine ExJ.thenN ?_
      refine CodeJ.seq ?_
      refine CodeJ.any (fuel := 20) (listed := #[false, false, false, false, false, false, false, false, false, false, false, false, false, false, false, false, false, false, false, false]) [0, 3, 4, 5] rfl follows_mixed rfl rfl ?_
      refine AnyJ.take (fuel := 19) (listed' := #[true, false, false, false, false, false, false, false, false, false, false, false, false, false, false, false, false, false, false, false]) 0 rfl (by kernel_rfl) (by kernel_rfl) (by kernel_rfl) rfl rfl rfl rfl (Yld.move rfl rfl) (fun w hI => hI.pick (is := [0, 3, 4, 5]) (by decide) rfl) ?_
      refine AnyJ.take (fuel := 18) (listed' := #[true, true, false, false, false, false, false, false, false, false, false, false, false, false, false, false, false, false, false, false]) 1 rfl (by kernel_rfl) (by kernel_rfl) (by kernel_rfl) rfl rfl rfl rfl (Yld.nilCheck rfl rfl) (fun w hI => hI.pick (is := [0, 3, 4, 5]) (by decide) rfl) ?_
      refine AnyJ.take (fuel := 17) (listed' := #[true, true, true, false, false, false, false, false, false, false, false, false, false, false, false, false, false, false, false, false]) 2 rfl (by kernel_rfl) (by kernel_rfl) (by kernel_rfl) rfl rfl rfl rfl (Yld.fieldAddr fa_108_0 rfl rfl) (fun w hI => hI.pick (is := [0, 3, 4, 5]) (by decide) rfl) ?_
      refine AnyJ.take (fuel := 16) (listed' := #[true, true, true, true, false, false, false, false, false, false, false, false, false, false, false, false, false, false, false, false]) 3 rfl (by kernel_rfl) (by kernel_rfl) (by kernel_rfl) rfl rfl rfl rfl (Yld.load1 rfl Tryd.underlying26 rfl rfl (fun w hI => Inv.cell1 hI (i := 0) rfl rfl)) (fun w hI => hI.pick (is := [0, 3, 4, 5]) (by decide) rfl) ?_
      refine AnyJ.take (fuel := 15) (listed' := #[true, true, true, true, true, false, false, false, false, false, false, false, false, false, false, false, false, false, false, false]) 4 rfl (by kernel_rfl) (by kernel_rfl) (by kernel_rfl) rfl rfl rfl rfl (Yld.move rfl rfl) (fun w hI => hI.pick (is := [0, 3, 4, 5]) (by decide) rfl) ?_
      refine AnyJ.take (fuel := 14) (listed' := #[true, true, true, true, true, true, false, false, false, false, false, false, false, false, false, false, false, false, false, false]) 5 rfl (by kernel_rfl) (by kernel_rfl) (by kernel_rfl) rfl rfl rfl rfl (Yld.nilCheck rfl rfl) (fun w hI => hI.pick (is := [0, 3, 4, 5]) (by decide) rfl) ?_
      refine AnyJ.take (fuel := 13) (listed' := #[true, true, true, true, true, true, true, false, false, false, false, false, false, false, false, false, false, false, false, false]) 6 rfl (by kernel_rfl) (by kernel_rfl) (by kernel_rfl) rfl rfl rfl rfl (Yld.fieldAddr fa_108_4 rfl rfl) (fun w hI => hI.pick (is := [0, 3, 4, 5]) (by decide) rfl) ?_
      refine AnyJ.take (fuel := 12) (listed' := #[true, true, true, true, true, true, true, true, false, false, false, false, false, false, false, false, false, false, false, false]) 7 rfl (by kernel_rfl) (by kernel_rfl) (by kernel_rfl) rfl rfl rfl rfl (Yld.load1 rfl Tryd.underlying106 rfl rfl (fun w hI => Inv.cell1 hI (i := 0) rfl rfl)) (fun w hI => hI.pick (is := [0, 3, 4, 5]) (by decide) rfl) ?_
      refine AnyJ.take (fuel := 11) (listed' := #[true, true, true, true, true, true, true, true, true, false, false, false, false, false, false, false, false, false, false, false]) 8 rfl (by kernel_rfl) (by kernel_rfl) (by kernel_rfl) rfl rfl rfl rfl (Yld.move rfl rfl) (fun w hI => hI.pick (is := [0, 3, 4, 5]) (by decide) rfl) ?_
      refine AnyJ.take (fuel := 10) (listed' := #[true, true, true, true, true, true, true, true, true, true, false, false, false, false, false, false, false, false, false, false]) 9 rfl (by kernel_rfl) (by kernel_rfl) (by kernel_rfl) rfl rfl rfl rfl (Yld.nilCheck rfl rfl) (fun w hI => hI.pick (is := [0, 3, 4, 5]) (by decide) rfl) ?_
      refine AnyJ.take (fuel := 9) (listed' := #[true, true, true, true, true, true, true, true, true, true, true, false, false, false, false, false, false, false, false, false]) 10 rfl (by kernel_rfl) (by kernel_rfl) (by kernel_rfl) rfl rfl rfl rfl (Yld.fieldAddr fa_108_3 rfl rfl) (fun w hI => hI.pick (is := [0, 3, 4, 5]) (by decide) rfl) ?_
      refine AnyJ.take (fuel := 8) (listed' := #[true, true, true, true, true, true, true, true, true, true, true, true, false, false, false, false, false, false, false, false]) 11 rfl (by kernel_rfl) (by kernel_rfl) (by kernel_rfl) rfl rfl rfl rfl (Yld.load1 rfl Tryd.underlying3 rfl rfl (fun w hI => Inv.cell1 hI (i := 0) rfl rfl)) (fun w hI => hI.pick (is := [0, 3, 4, 5]) (by decide) rfl) ?_
      refine AnyJ.one (fuel := 7) 12 (by kernel_rfl) ?_
      refine StepJ.op (listed' := #[true, true, true, true, true, true, true, true, true, true, true, true, true, false, false, false, false, false, false, false]) rfl rfl rfl ?_
      refine OpJ.call (rhPack_spec G (cut255 x.name) hpn (16) x.cls x.ttl x.len httl hd b.start (.slice p b.buf.length c) b.buf b.buf p c r b.m (by omega) hbig hb.small) has_62 rfl rfl rfl rfl rfl [1, 2] [0, 3, 4, 5] (by decide) rfl rfl (fun w hI => ⟨Inv.whole hI (i := 4) rfl, hI.apart (i := 4) rfl (is := [1, 2]) (by decide) rfl hd (by simp [Res.ats]), hge.call hI (is := [1, 2]) rfl⟩) ?_
      rintro _ _ hpost
      rw [hp] at hpost
      obtain ⟨p34, c34, rfl, rfl⟩ := hpost
      refine ⟨fun w hI => hI.pick (is := [2, 3, 4, 5]) (by decide) rfl, ?_⟩
      refine AnyJ.take (fuel := 6) (listed' := #[true, true, true, true, true, true, true, true, true, true, true, true, true, true, false, false, false, false, false, false]) 13 rfl (by kernel_rfl) (by kernel_rfl) (by kernel_rfl) rfl rfl rfl rfl (Yld.move rfl rfl) (fun w hI => hI.pick (is := [2, 3, 4, 5]) (by decide) rfl) ?_
      refine AnyJ.take (fuel := 5) (listed' := #[true, true, true, true, true, true, true, true, true, true, true, true, true, true, true, false, false, false, false, false]) 14 rfl (by kernel_rfl) (by kernel_rfl) (by kernel_rfl) rfl rfl rfl rfl (Yld.extract rfl rfl rfl) (fun w hI => hI.pick (is := [2, 3, 4, 5]) (by decide) rfl) ?_
      refine AnyJ.take (fuel := 4) (listed' := #[true, true, true, true, true, true, true, true, true, true, true, true, true, true, true, true, false, false, false, false]) 15 rfl (by kernel_rfl) (by kernel_rfl) (by kernel_rfl) rfl rfl rfl rfl (Yld.extract rfl rfl rfl) (fun w hI => hI.pick (is := [2, 3, 4, 5]) (by decide) rfl) ?_
      refine AnyJ.take (fuel := 3) (listed' := #[true, true, true, true, true, true, true, true, true, true, true, true, true, true, true, true, true, false, false, false]) 16 rfl (by kernel_rfl) (by kernel_rfl) (by kernel_rfl) rfl rfl rfl rfl (Yld.extract rfl rfl rfl) (fun w hI => hI.pick (is := [2, 3, 4, 5]) (by decide) rfl) ?_
      refine AnyJ.take (fuel := 2) (listed' := #[true, true, true, true, true, true, true, true, true, true, true, true, true, true, true, true, true, true, false, false]) 17 rfl (by kernel_rfl) (by kernel_rfl) (by kernel_rfl) rfl rfl rfl rfl (Yld.assign rfl rfl) (fun w hI => hI.pick (is := [2, 3, 4, 5]) (by decide) rfl) ?_
      refine AnyJ.take (fuel := 1) (listed' := #[true, true, true, true, true, true, true, true, true, true, true, true, true, true, true, true, true, true, true, false]) 18 rfl (by kernel_rfl) (by kernel_rfl) (by kernel_rfl) rfl rfl rfl rfl (Yld.assign rfl rfl) (fun w hI => hI.pick (is := [2, 3, 4, 5]) (by decide) rfl) ?_
      refine AnyJ.take (fuel := 0) (listed' := #[true, true, true, true, true, true, true, true, true, true, true, true, true, true, true, true, true, true, true, true]) 19 rfl (by kernel_rfl) (by kernel_rfl) (by kernel_rfl) rfl rfl rfl rfl (Yld.assign rfl rfl) (fun w hI => hI.pick (is := [2, 3, 4, 5]) (by decide) rfl) ?_
      refine AnyJ.done (by kernel_rfl) ?_
      refine ExJ.thenN ?_
      refine CodeJ.seq ?_
      refine CodeJ.seq ?_
      refine CodeJ.region ?_
      refine OpsJ.yld rfl rfl rfl (Yld.move rfl rfl) ?_
      refine OpsJ.yld rfl rfl rfl (Yld.ifaceNeNil rfl Tryd.underlying67 rfl rfl) ?_
      refine OpsJ.nil ?_
      refine ExJ.thenN ?_
      refine CodeJ.condF rfl ?_
      refine CodeJ.skip ?_
      refine ExJ.thenN ?_
      refine CodeJ.seq ?_
      refine CodeJ.region ?_
      refine OpsJ.yld rfl rfl rfl (Yld.move rfl rfl) ?_
      refine OpsJ.yld rfl rfl rfl (Yld.lenSlice rfl rfl rfl Tryd.underlying26 rfl) ?_
      refine OpsJ.yld rfl rfl rfl (Yld.assign rfl rfl) ?_
      refine OpsJ.nil ?_
      refine ExJ.thenN ?_
      refine CodeJ.seq ?_
      refine CodeJ.seq ?_
      refine CodeJ.any (fuel := 15) (listed := #[false, false, false, false, false, false, false, false, false, false, false, false, false, false, false]) [2, 3, 4] rfl follows_mixed rfl rfl ?_
      refine AnyJ.take (fuel := 14) (listed' := #[true, false, false, false, false, false, false, false, false, false, false, false, false, false, false]) 0 rfl (by kernel_rfl) (by kernel_rfl) (by kernel_rfl) rfl rfl rfl rfl (Yld.move rfl rfl) (fun w hI => hI.pick (is := [2, 3, 4]) (by decide) rfl) ?_
      refine AnyJ.take (fuel := 13) (listed' := #[true, true, false, false, false, false, false, false, false, false, false, false, false, false, false]) 1 rfl (by kernel_rfl) (by kernel_rfl) (by kernel_rfl) rfl rfl rfl rfl (Yld.move rfl rfl) (fun w hI => hI.pick (is := [2, 3, 4]) (by decide) rfl) ?_
      refine AnyJ.take (fuel := 12) (listed' := #[true, true, true, false, false, false, false, false, false, false, false, false, false, false, false]) 2 rfl (by kernel_rfl) (by kernel_rfl) (by kernel_rfl) rfl rfl rfl rfl (Yld.nilCheck rfl rfl) (fun w hI => hI.pick (is := [2, 3, 4]) (by decide) rfl) ?_
      refine AnyJ.take (fuel := 11) (listed' := #[true, true, true, true, false, false, false, false, false, false, false, false, false, false, false]) 3 rfl (by kernel_rfl) (by kernel_rfl) (by kernel_rfl) rfl rfl rfl rfl (Yld.fieldAddr fa_108_4 rfl rfl) (fun w hI => hI.pick (is := [2, 3, 4]) (by decide) rfl) ?_
      refine AnyJ.take (fuel := 10) (listed' := #[true, true, true, true, true, false, false, false, false, false, false, false, false, false, false]) 4 rfl (by kernel_rfl) (by kernel_rfl) (by kernel_rfl) rfl rfl rfl rfl (Yld.load1 rfl Tryd.underlying106 rfl rfl (fun w hI => Inv.cell1 hI (i := 0) rfl rfl)) (fun w hI => hI.pick (is := [2, 3, 4]) (by decide) rfl) ?_
      refine AnyJ.take (fuel := 9) (listed' := #[true, true, true, true, true, true, false, false, false, false, false, false, false, false, false]) 5 rfl (by kernel_rfl) (by kernel_rfl) (by kernel_rfl) rfl rfl rfl rfl (Yld.move rfl rfl) (fun w hI => hI.pick (is := [2, 3, 4]) (by decide) rfl) ?_
      refine AnyJ.take (fuel := 8) (listed' := #[true, true, true, true, true, true, true, false, false, false, false, false, false, false, false]) 6 rfl (by kernel_rfl) (by kernel_rfl) (by kernel_rfl) rfl rfl rfl rfl (Yld.nilCheck rfl rfl) (fun w hI => hI.pick (is := [2, 3, 4]) (by decide) rfl) ?_
      refine AnyJ.take (fuel := 7) (listed' := #[true, true, true, true, true, true, true, true, false, false, false, false, false, false, false]) 7 rfl (by kernel_rfl) (by kernel_rfl) (by kernel_rfl) rfl rfl rfl rfl (Yld.fieldAddr fa_108_3 rfl rfl) (fun w hI => hI.pick (is := [2, 3, 4]) (by decide) rfl) ?_
      refine AnyJ.take (fuel := 6) (listed' := #[true, true, true, true, true, true, true, true, true, false, false, false, false, false, false]) 8 rfl (by kernel_rfl) (by kernel_rfl) (by kernel_rfl) rfl rfl rfl rfl (Yld.load1 rfl Tryd.underlying3 rfl rfl (fun w hI => Inv.cell1 hI (i := 0) rfl rfl)) (fun w hI => hI.pick (is := [2, 3, 4]) (by decide) rfl) ?_
      refine AnyJ.one (fuel := 5) 9 (by kernel_rfl) ?_
      refine StepJ.op (listed' := #[true, true, true, true, true, true, true, true, true, true, false, false, false, false, false]) rfl rfl rfl ?_
      refine OpJ.call (txtPack_spec G x.texts (hQ x hpok.1) hpok.2 pv cv q bsq hqq hqb rb b.start (.slice p b.buf.length c) b.buf (b.buf ++ ys ++ rh10 (16) x.cls x.ttl x.len) p34 c34 r m1 (by simp; omega) (by simp [rh10_len]; omega) hm1) has_86 rfl rfl rfl rfl rfl [0, 1, 5] [2, 3, 4] (by decide) rfl rfl (fun w hI => ⟨Inv.whole hI (i := 3) rfl, hI.apart (i := 3) rfl (is := [0, 1, 5]) (by decide) rfl rb (by simp [Res.ats]), hge.call hI (is := [0, 1, 5]) rfl, hI.roGet (i := 5) rfl⟩) ?_
      rintro _ _ hpost
      obtain ⟨H0, hpost, rfl⟩ := hpost
      rw [hrel] at hpost
      rw [hq] at hpost
      obtain ⟨p56, c56, rfl, rfl⟩ := hpost
      refine ⟨fun w hI => hI.pick (is := [3, 4, 5]) (by decide) rfl, ?_⟩
      refine AnyJ.take (fuel := 4) (listed' := #[true, true, true, true, true, true, true, true, true, true, true, false, false, false, false]) 10 rfl (by kernel_rfl) (by kernel_rfl) (by kernel_rfl) rfl rfl rfl rfl (Yld.move rfl rfl) (fun w hI => hI.pick (is := [3, 4, 5]) (by decide) rfl) ?_
      refine AnyJ.take (fuel := 3) (listed' := #[true, true, true, true, true, true, true, true, true, true, true, true, false, false, false]) 11 rfl (by kernel_rfl) (by kernel_rfl) (by kernel_rfl) rfl rfl rfl rfl (Yld.extract rfl rfl rfl) (fun w hI => hI.pick (is := [3, 4, 5]) (by decide) rfl) ?_
      refine AnyJ.take (fuel := 2) (listed' := #[true, true, true, true, true, true, true, true, true, true, true, true, true, false, false]) 12 rfl (by kernel_rfl) (by kernel_rfl) (by kernel_rfl) rfl rfl rfl rfl (Yld.extract rfl rfl rfl) (fun w hI => hI.pick (is := [3, 4, 5]) (by decide) rfl) ?_
      refine AnyJ.take (fuel := 1) (listed' := #[true, true, true, true, true, true, true, true, true, true, true, true, true, true, false]) 13 rfl (by kernel_rfl) (by kernel_rfl) (by kernel_rfl) rfl rfl rfl rfl (Yld.assign rfl rfl) (fun w hI => hI.pick (is := [3, 4, 5]) (by decide) rfl) ?_
      refine AnyJ.take (fuel := 0) (listed' := #[true, true, true, true, true, true, true, true, true, true, true, true, true, true, true]) 14 rfl (by kernel_rfl) (by kernel_rfl) (by kernel_rfl) rfl rfl rfl rfl (Yld.assign rfl rfl) (fun w hI => hI.pick (is := [3, 4, 5]) (by decide) rfl) ?_
      refine AnyJ.done (by kernel_rfl) ?_
      refine ExJ.thenN ?_
      refine CodeJ.seq ?_
      refine CodeJ.region ?_
      refine OpsJ.yld rfl rfl rfl (Yld.move rfl rfl) ?_
      refine OpsJ.yld rfl rfl rfl (Yld.ifaceNeNil rfl Tryd.underlying67 rfl rfl) ?_
      refine OpsJ.nil ?_
      refine ExJ.thenN ?_
      refine CodeJ.condF rfl ?_
      refine CodeJ.skip ?_
      refine ExJ.thenN ?_
      refine CodeJ.seq ?_
      refine CodeJ.seq ?_
      refine CodeJ.turnH (fun w hI => hI.sl2 (i := 0) rfl) ?_
      obtain ⟨A, hA⟩ : ∃ A, A = b.buf ++ ys ++ be16 (16) ++ be16 x.cls ++ b4 x.ttl := ⟨_, rfl⟩
      have hA1 : b.buf ++ ys ++ rh10 (16) x.cls x.ttl x.len ++ zs = A ++ be16 x.len ++ zs := by simp [hA, rh10]
      have hA2 : b.buf.length + ys.length + 8 = A.length := by simp [hA, be16_len, b4_len]; omega
      have hA3 : (b.buf ++ ys ++ rh10 (16) x.cls x.ttl x.len).length = A.length + 2 := by simp [hA, rh10_len, be16_len, b4_len]; omega
      have hA4 : b.buf ++ ys ++ rh10 (16) x.cls x.ttl zs.length ++ zs = A ++ be16 zs.length ++ zs := by simp [hA, rh10]
      have hA5 : (A ++ be16 x.len ++ zs).length = (A ++ be16 zs.length ++ zs).length := by simp [be16_len]
      rw [hA4]
      simp only [hA1, hA2, hA3]
      refine CodeJ.region ?_
      refine OpsJ.yld rfl rfl rfl (Yld.move rfl rfl) ?_
      refine OpsJ.yld rfl rfl rfl (Yld.move rfl rfl) ?_
      refine OpsJ.yld rfl rfl rfl (Yld.move rfl rfl) ?_
      refine OpsJ.op rfl ?_
      refine OpJ.call (fixLen_spec hd _ (by rw [List.size_toArray]; exact rhCs_len _ (by omega) _ _ _ _) A zs x.len p56 c56 hzl (by simp only [List.length_append, be16_len]; omega)) has_64 rfl rfl rfl rfl rfl [5, 0] [1, 2, 3, 4] (by decide) rfl rfl (fun _ _ => trivial) ?_
      rintro _ _ ⟨rfl, cs68, rfl⟩
      simp only [hA5]
      refine OpsJ.yld rfl rfl rfl (Yld.assign rfl rfl) ?_
      refine OpsJ.nil ?_
      refine ExJ.thenN ?_
      refine CodeJ.seq ?_
      refine CodeJ.region ?_
      refine OpsJ.yld rfl rfl rfl (Yld.move rfl rfl) ?_
      refine OpsJ.yld rfl rfl rfl (Yld.ifaceNeNil rfl Tryd.underlying67 rfl rfl) ?_
      refine OpsJ.nil ?_
      refine ExJ.thenN ?_
      refine CodeJ.condF rfl ?_
      refine CodeJ.skip ?_
      refine ExJ.thenN ?_
      refine CodeJ.seq ?_
      refine CodeJ.seq ?_
      refine CodeJ.region ?_
      refine OpsJ.yld rfl rfl rfl (Yld.move rfl rfl) ?_
      refine OpsJ.op rfl ?_
      refine OpJ.call (incr_spec G b bb p c r h3 h5 hcnt) has_65 rfl rfl rfl rfl rfl [4] [0, 1, 2, 3, 5] (by decide) rfl rfl (fun w hI => hge.call hI (is := [4]) rfl) ?_
      rintro _ _ ⟨rfl, rfl⟩
      refine OpsJ.yld rfl rfl rfl (Yld.assign rfl rfl) ?_
      refine OpsJ.nil ?_
      refine ExJ.thenN ?_
      refine CodeJ.seq ?_
      refine CodeJ.region ?_
      refine OpsJ.yld rfl rfl rfl (Yld.move rfl rfl) ?_
      refine OpsJ.yld rfl rfl rfl (Yld.ifaceNeNil rfl Tryd.underlying67 rfl rfl) ?_
      refine OpsJ.nil ?_
      refine ExJ.thenN ?_
      refine CodeJ.condF rfl ?_
      refine CodeJ.skip ?_
      refine ExJ.thenN ?_
      refine CodeJ.seq ?_
      refine CodeJ.region ?_
      refine OpsJ.yld rfl rfl rfl (Yld.move rfl rfl) ?_
      refine OpsJ.yld rfl rfl rfl (Yld.move rfl rfl) ?_
      refine OpsJ.yld rfl rfl rfl (Yld.nilCheck rfl rfl) ?_
      refine OpsJ.yld rfl rfl rfl (Yld.fieldAddr fa_108_0 rfl rfl) ?_
      refine OpsJ.op rfl ?_
      refine OpJ.store1 (i := 0) rfl rfl rfl rfl rfl sz_26 rfl rfl ?_
      refine OpsJ.nil ?_
      refine ExJ.thenN ?_
      refine CodeJ.seq ?_
      refine CodeJ.region ?_
      refine OpsJ.yld rfl rfl rfl (Yld.assign rfl rfl) ?_
      refine OpsJ.nil ?_
      refine ExJ.thenN ?_
      refine CodeJ.ret ?_
      exact ExJ.ret1 Tryd.results46 rfl ⟨.inl ⟨rfl, rfl⟩, p56, c56, rfl⟩ fun w hI => hI.pick (is := [0, 2, 3, 4]) (by decide) rfl

theorem txt_meets (Q : RecD → Prop) (G : GEnv) (hQ : ∀ x, Q x → shortT x.texts = true ∨ G.more.contains 11 = true) : (txtAdderQ Q).MeetsG G 45 := by
  intro x on b bb p c r hok hb hr
  refine Spec.of Tryd.func45 rfl Tryd.ntmps45 rfl fun w0 hR => ?_
  obtain ⟨hge, w1, hrec, hkeep, hnew⟩ := hR
  have hwf : x.wf := hok.2.2.2.2.1
  have hrl : (rhCs (cut255 x.name) x.typ x.cls x.ttl x.len).length = 260 := rhCs_len _ (cut255_len x.name) _ _ _ _
  refine CodeJ.seq ?_
  refine CodeJ.region ?_
  refine OpsJ.op rfl ?_
  refine OpJ.box rfl rfl rfl rfl fun hd hhd => ?_
  refine OpsJ.op rfl ?_
  refine OpJ.box rfl rfl rfl rfl fun rc hrc => ?_
  refine OpsJ.yld rfl rfl rfl (Yld.assign rfl rfl) ?_
  refine OpsJ.nil ?_
  refine ExJ.thenN ?_
  refine CodeJ.seq ?_
  refine CodeJ.any (fuel := 6) (listed := #[false, false, false, false, false, false]) [0, 1] rfl follows_mixed rfl rfl ?_
  refine AnyJ.take (fuel := 5) (listed' := #[true, false, false, false, false, false]) 0 rfl (by kernel_rfl) (by kernel_rfl) (by kernel_rfl) rfl rfl rfl rfl (Yld.move rfl rfl) (fun w hI => hI.pick (is := [0, 1]) (by decide) rfl) ?_
  refine AnyJ.take (fuel := 4) (listed' := #[true, true, false, false, false, false]) 1 rfl (by kernel_rfl) (by kernel_rfl) (by kernel_rfl) rfl rfl rfl rfl (Yld.loadN (vs := rhCs (cut255 x.name) x.typ x.cls x.ttl x.len) rfl Tryd.underlying65 rfl (by rw [hrl]; exact sz_65) rfl (fun w hI => Inv.whole hI (i := 1) rfl)) (fun w hI => hI.pick (is := [0, 1]) (by decide) rfl) ?_
  refine AnyJ.take (fuel := 3) (listed' := #[true, true, true, false, false, false]) 2 rfl (by kernel_rfl) (by kernel_rfl) (by kernel_rfl) rfl rfl rfl rfl (Yld.loadN (vs := x.cells) rfl Tryd.underlying30 rfl sz_30 rfl (fun w hI => Inv.whole hI (i := 0) rfl)) (fun w hI => hI.pick (is := [0, 1]) (by decide) rfl) ?_
  refine AnyJ.one (fuel := 2) 3 (by kernel_rfl) ?_
  refine StepJ.op (listed' := #[true, true, true, true, false, false]) rfl rfl rfl ?_
  refine OpJ.call (txtOf_spec x hwf) has_47 rfl rfl rfl rfl rfl [] [0, 1, 2, 3, 4] (by decide) rfl rfl (fun w hI => hI.recOk hrec hkeep hnew) ?_
  rintro _ _ ⟨pv, cv, q, bsq, hqq, rfl, rfl, hqb⟩
  refine ⟨fun w hI => hI.pick (is := [1, 2]) (by decide) rfl, ?_⟩
  refine AnyJ.one (fuel := 1) 4 (by kernel_rfl) ?_
  refine StepJ.op (listed' := #[true, true, true, true, true, false]) rfl rfl rfl ?_
  refine OpJ.call (txtResource_spec Q G hQ x on b bb p c r pv cv q bsq hqq hqb hok hb hr) has_46 rfl rfl rfl rfl rfl [3, 4, 5, 0] [1, 2] (by decide) rfl rfl (fun w hI => hge.call hI (is := [3, 4, 5, 0]) rfl) ?_
  rintro _ _ ⟨he11, p11, c11, rfl⟩
  refine ⟨fun w hI => hI.pick (is := [4, 5]) (by decide) rfl, ?_⟩
  refine AnyJ.take (fuel := 0) (listed' := #[true, true, true, true, true, true]) 5 rfl (by kernel_rfl) (by kernel_rfl) (by kernel_rfl) rfl rfl rfl rfl (Yld.assign rfl rfl) (fun w hI => hI.pick (is := [4, 5]) (by decide) rfl) ?_
  refine AnyJ.done (by kernel_rfl) ?_
  refine ExJ.thenN ?_
  refine CodeJ.ret ?_
  exact ExJ.ret1 Tryd.results45 rfl ⟨he11, p11, c11, rfl⟩ fun w hI => hI.pick (is := [0, 1, 2]) (by decide) rfl

theorem buildTXT_specG (Q : RecD → Prop) (G : GEnv) (hQ : ∀ x, Q x → shortT x.texts = true ∨ G.more.contains 11 = true) (h : Hd) (hw : h.wf) (pre : List UInt8) (bufV stepsV : Value) (ss : List StepD) (hn : ss.length ≤ 1099511627776) (hpre : pre.length ≤ 140737488355328) (hok : RunOk (txtAdderQ Q) ss false (newB pre h)) :
    Spec Tryd.prog 25 [bufV, .agg (hdCs h).toArray, stepsV] [] (RunIn G bufV pre stepsV ss) (RunPost (runF (txtAdderQ Q) ss false (newB pre h)).1.fin (runF (txtAdderQ Q) ss false (newB pre h)).2) := by
  refine Spec.of Tryd.func25 rfl Tryd.ntmps25 rfl fun w0 hR => ?_
  obtain ⟨hge, hbuf, hrow, hrec⟩ := hR
  refine CodeJ.seq ?_
  refine CodeJ.region ?_
  refine OpsJ.op rfl ?_
  refine OpJ.box rfl rfl rfl rfl fun hd hhd => ?_
  refine OpsJ.op rfl ?_
  refine OpJ.alloc rfl rfl rfl zero_50 fun res hres => ?_
  refine OpsJ.nil ?_
  refine ExJ.thenN ?_
  refine CodeJ.seq ?_
  refine CodeJ.region ?_
  refine OpsJ.yld rfl rfl rfl (Yld.move rfl rfl) ?_
  refine OpsJ.yld rfl rfl rfl (Yld.loadN (vs := hdCs h) rfl Tryd.underlying24 rfl sz_24 rfl (fun w hI => Inv.whole hI (i := 1) rfl)) ?_
  refine OpsJ.yld rfl rfl rfl (Yld.move rfl rfl) ?_
  refine OpsJ.op rfl ?_
  refine OpJ.call (run_specG (txtAdderQ Q) 45 has_45 G (txt_meets Q G hQ) h hw pre bufV stepsV ss hn hpre hok) has_26 rfl rfl rfl rfl rfl [] [0, 1] (by decide) rfl rfl (fun w hI => ⟨hge.call hI (is := []) rfl, hbuf.keep hI.keep (by simp [fp]), hrow.keep hI.keep (by simp [fp]), fun s hs => (hrec s hs).keep0 hI.keep⟩) ?_
  rintro _ _ ⟨p1, c1, p2, c2, rfl, rfl⟩
  refine OpsJ.op rfl ?_
  refine OpJ.storeW (i := 2) rfl rfl rfl rfl sz_50 rfl rfl rfl ?_
  refine OpsJ.nil ?_
  refine ExJ.thenN ?_
  refine CodeJ.ret ?_
  exact ExJ.retC (vs := [.slice p1 _ c1, .slice p2 _ c2, .int .i64 0]) Tryd.results25 rfl Tryd.underlying50 rfl sz_50 (fun w hI => Inv.cells hI (i := 2) rfl rfl (Nat.le_of_ble_eq_true rfl)) ⟨p1, c1, p2, c2, rfl, rfl⟩ fun w hI => hI.pick (is := [0, 1]) (by decide) rfl
def txtAdder : Adder := txtAdderQ (fun x => shortT x.texts = true)
theorem buildTXT_spec (G : GEnv) (h : Hd) (hw : h.wf) (pre : List UInt8) (bufV stepsV : Value) (ss : List StepD) (hn : ss.length ≤ 1099511627776) (hpre : pre.length ≤ 140737488355328) (hok : RunOk txtAdder ss false (newB pre h)) :
    Spec Tryd.prog 25 [bufV, .agg (hdCs h).toArray, stepsV] [] (RunIn G bufV pre stepsV ss) (RunPost (runF txtAdder ss false (newB pre h)).1.fin (runF txtAdder ss false (newB pre h)).2) :=
  buildTXT_specG _ G (fun _ h => .inl h) h hw pre bufV stepsV ss hn hpre hok
end Go.Proofs.YtefncaiooanbeaaDoor
