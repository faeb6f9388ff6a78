/-
  Contracts of the package: names.
-/
import Derived.Test.YtdiememgbnplkaaDoorSpecB
import Derived.Test.YtdiememgbnplkaaDoorName
namespace Go.Proofs.YtdiememgbnplkaaDoor
open Go
set_option maxRecDepth 100000

/-- the program's error variables hold errors; none of them lies among the blocks S -/
structure GE (G : Nat → Addr) (w : World) (S : List Nat) : Prop where
  far : ∀ b ∈ S, 10 ≤ b
  at_ : ∀ g, g < 10 → Cells w g 0 [.iface 147 (.pointer (some (G g)))]
theorem GE.out {G : Nat → Addr} {w : World} {S : List Nat} (h : GE G w S) (g : Nat) (hg : g < 10) : g ∉ S := fun hs => by have := h.far g hs; omega
theorem GE.size {G : Nat → Addr} {w : World} {S : List Nat} (h : GE G w S) : 10 ≤ w.heap.size := by
  have := (h.at_ (10 - 1) (by decide)).lt
  omega
/-- it goes on to a call -/
theorem GE.call {G : Nat → Addr} {w0 w : World} {S : List Nat} {H Hp : List Res} (h : GE G w0 S) (hI : Inv w0 S H w) {is : List Nat} (hp : pick H is = some Hp) : GE G w (fp Hp) := by
  refine ⟨fun b hb => ?_, fun g hg => hI.old (h.at_ g hg) (h.out g hg)⟩
  obtain ⟨r, hr, hbr⟩ := List.mem_flatMap.1 hb
  obtain ⟨i, _, hi⟩ := pick_mem hp r hr
  rcases hI.rng r (List.mem_of_getElem? hi) b hbr with h1 | h1
  · exact h.far b h1
  · exact Nat.le_trans h.size h1
/-- a block is none of those that are handed to a call -/
theorem Inv.apart {w0 w : World} {S : List Nat} {H Hp : List Res} (hI : Inv w0 S H w) {i : Nat} {r : Res} (hi : H[i]? = some r) {is : List Nat} (hn : (i :: is).Nodup) (hp : Proofs.YtdiememgbnplkaaDoor.pick H is = some Hp) : ∀ b ∈ r.ats, b ∉ fp Hp := fun b hb hb' => by
  obtain ⟨s, hs, hbs⟩ := List.mem_flatMap.1 hb'
  obtain ⟨j, hj, hj'⟩ := pick_mem hp s hs
  have hij : i ≠ j := fun e => (List.nodup_cons.1 hn).1 (e ▸ hj)
  have pw := List.pairwise_iff_getElem.1 hI.dj
  have il := (List.getElem?_eq_some_iff.1 hi)
  have jl := (List.getElem?_eq_some_iff.1 hj')
  rcases Nat.lt_or_ge i j with h1 | h1
  · have := pw i j il.1 jl.1 h1
    rw [il.2, jl.2] at this
    exact this b hb hbs
  · have := pw j i jl.1 il.1 (by omega)
    rw [il.2, jl.2] at this
    exact this b hbs hb

/-- what packing returns -/
def PackPost (T : TypeId) (v : Value) (bs bs' : List UInt8) (r : Option Nat) : PkRes → Value → List Res → Prop
  | .ok ys m, x, H' => ∃ p c, x = .tuple #[.slice p (bs' ++ ys).length c, .nilIface] ∧ H' = [appB T v bs (.slice p (bs' ++ ys).length c) (bs' ++ ys), .mp r (kvV m)]
  | .err m, x, H' => ∃ u t e, x = .tuple #[u, .iface t e] ∧ H' = [ownB T v bs, .mp r (kvV m)]

theorem i64_sub (x y : Nat) (h : y ≤ x) (hx : x ≤ 9223372036854775807) : IntKind.i64.wrap ((x : Int) - (y : Int)) = ((x - y : Nat) : Int) := by
  rw [← i64_wrap (x - y) (by omega)]
  congr 1
  omega
theorem u8_sub1 (x : Nat) (h : 1 ≤ x) (hx : x ≤ 255) : IntKind.u8.wrap ((x : Int) - 1) = ((x - 1 : Nat) : Int) := by
  have : (x : Int) - 1 = ((x - 1 : Nat) : Int) := by omega
  rw [this]
  exact IntWalk.u8_in _ (by omega)
theorem take_drop_snoc (l : List UInt8) (b j : Nat) (x : UInt8) (h : l[j]? = some x) (hb : b ≤ j) : (l.take (j + 1)).drop b = (l.take j).drop b ++ [x] := by
  have hj := (List.getElem?_eq_some_iff.1 h).1
  rw [take_snoc _ _ _ h, List.drop_append_of_le_length (by simp; omega)]
theorem packN_pk (base : Nat) (on : Bool) (s : List UInt8) (m : List (List UInt8 × Nat)) (h : s ≠ [46]) : packN base on s m = pk base on s [] [] m := by simp [packN, h]
theorem ptr_hi (p : Nat) (hp : p < 65536) : IntKind.u8.wrap (IntKind.u16.wrap ((BitVec.ofInt IntKind.u16.bits ((p / 256 : Nat) : Int) ||| BitVec.ofInt IntKind.u16.bits 192).toNat : Int)) = ((UInt8.ofNat (p / 256 ||| 192)).toNat : Int) := by
  have hb : IntKind.u16.bits = 16 := rfl
  have hlt : p / 256 ||| 192 < 65536 := or_lt _ _ (by omega) (by decide)
  have h1 : (((p / 256 : Nat) : Int) % (2 ^ 16 : Nat)).toNat = p / 256 := by omega
  have h2 : ((192 : Int) % (2 ^ 16 : Nat)).toNat = 192 := by decide
  rw [u16_wrap, BitVec.toNat_or, BitVec.toNat_ofInt, BitVec.toNat_ofInt, hb, h1, h2, Nat.mod_eq_of_lt hlt, u8_wrap]
theorem strV_eq (s : ByteArray) : Value.string s = strV s.data.toList := by
  simp [strV]

theorem lookup_mem {α β : Type} [BEq α] [LawfulBEq α] {l : List (α × β)} {a : α} {b : β} (h : l.lookup a = some b) : (a, b) ∈ l := by
  induction l with
  | nil => simp at h
  | cons p r ih =>
    obtain ⟨k, v⟩ := p
    simp only [List.lookup] at h
    split at h
    · rename_i he
      simp at h
      subst h
      have := eq_of_beq he
      subst this
      simp
    · exact List.mem_cons_of_mem _ (ih h)
theorem mapT : MapT Tryd.prog 87 9 22 := ⟨Tryd.underlying87, Tryd.underlying9, by kernel_rfl⟩

theorem namePack_spec (G : Nat → Addr) (l : List UInt8) (hl1 : 1 ≤ l.length) (hl : l.length ≤ 254) (hlast : l[l.length - 1]? = some 46) (bq o off : Nat) (v : Value) (bs bs' : List UInt8) (p : Option Addr) (c : Nat) (r : Option Nat) (m : List (List UInt8 × Nat)) (hoff : off ≤ bs'.length) (hbig : bs'.length ≤ 158329674399744) (hm : ∀ x ∈ m, x.2 < 65536) :
    Spec Tryd.prog 63 [.pointer (some ⟨bq, o, none⟩), .slice p bs'.length c, .map r, .int .i64 off] [appB 5 v bs (.slice p bs'.length c) bs', .mp r (kvV m)]
      (fun w => Cells w bq o (nameCs l) ∧ bq ∉ fp [appB 5 v bs (.slice p bs'.length c) bs', .mp r (kvV m)] ∧ GE G w (fp [appB 5 v bs (.slice p bs'.length c) bs', .mp r (kvV m)]))
      (PackPost 5 v bs bs' r (packN (bs'.length - off) r.isSome l m)) := by
  refine Spec.of Tryd.func63 rfl Tryd.ntmps63 rfl fun w0 hR => ?_
  obtain ⟨hcs, hbq, hge⟩ := hR
  have he8 := hge.at_ 8 (by decide)
  have hn8 := hge.out 8 (by decide)
  have he9 := hge.at_ 9 (by decide)
  have hn9 := hge.out 9 (by decide)
  generalize hS : fp [appB 5 v bs (.slice p bs'.length c) bs', .mp r (kvV m)] = S at *
  have hcs0 : Cells w0 bq (o + 0) (nameCs l) := hcs
  have hlenC : Cells w0 bq (o + 255) [.int .u8 l.length] := by
    have := hcs.one (nameCs_size l (by omega))
    simpa using this
  have hbyte : ∀ i x, l[i]? = some x → Cells w0 bq (o + 0 + i * 1) [.int .u8 x.toNat] := fun i x hx => hcs0.one (nameCs_get l i x hx)
  have hu8 : IntKind.u8.wrap (l.length : Int) = (l.length : Int) := IntWalk.u8_in _ (by omega)
  refine CodeJ.seq ?_
  refine CodeJ.region ?_
  refine OpsJ.yld rfl rfl rfl (Yld.assign rfl rfl) ?_
  refine OpsJ.yld rfl rfl rfl (Yld.assign rfl rfl) ?_
  refine OpsJ.nil ?_
  refine ExJ.thenN ?_
  refine CodeJ.seq ?_
  refine CodeJ.region ?_
  refine OpsJ.yld rfl rfl rfl (Yld.move rfl rfl) ?_
  refine OpsJ.yld rfl rfl rfl (Yld.assign rfl rfl) ?_
  refine OpsJ.nil ?_
  refine ExJ.thenN ?_
  refine CodeJ.seq ?_
  refine CodeJ.seq ?_
  refine CodeJ.region ?_
  refine OpsJ.yld rfl rfl rfl (Yld.move rfl rfl) ?_
  refine OpsJ.yld rfl rfl rfl (Yld.nilCheck rfl rfl) ?_
  refine OpsJ.yld rfl rfl rfl (Yld.fieldAddr fa_103_1 rfl rfl) ?_
  refine OpsJ.yld rfl rfl rfl (Yld.load1 rfl Tryd.underlying5 rfl rfl (fun w hI => hI.old hlenC hbq)) ?_
  refine OpsJ.yld rfl rfl rfl (Yld.intBin rfl rfl rfl rfl) ?_
  refine OpsJ.nil ?_
  refine ExJ.thenN ?_
  refine CodeJ.condP rfl (fun c23 => ?_) (fun c23 => ?_)
  · exact absurd c23 (by omega)
  · refine CodeJ.skip ?_
    refine ExJ.thenN ?_
    refine CodeJ.seq ?_
    refine CodeJ.seq ?_
    refine CodeJ.any (fuel := 18) (listed := #[false, false, false, false, false, false, false, false, false, false, false, false, false, false, false, false, false, false]) [0, 1] rfl follows_mixed rfl rfl ?_
    refine AnyJ.take (fuel := 17) (listed' := #[true, false, false, false, false, false, false, false, false, false, false, false, false, false, false, false, false, false]) 0 rfl (by kernel_rfl) (by kernel_rfl) (by kernel_rfl) rfl rfl rfl rfl (Yld.move rfl rfl) (fun w hI => hI.pick (is := [0, 1]) (by decide) rfl) ?_
    refine AnyJ.take (fuel := 16) (listed' := #[true, true, false, false, false, false, false, false, false, false, false, false, false, false, false, false, false, false]) 1 rfl (by kernel_rfl) (by kernel_rfl) (by kernel_rfl) rfl rfl rfl rfl (Yld.nilCheck rfl rfl) (fun w hI => hI.pick (is := [0, 1]) (by decide) rfl) ?_
    refine AnyJ.take (fuel := 15) (listed' := #[true, true, true, false, false, false, false, false, false, false, false, false, false, false, false, false, false, false]) 2 rfl (by kernel_rfl) (by kernel_rfl) (by kernel_rfl) rfl rfl rfl rfl (Yld.fieldAddr fa_103_1 rfl rfl) (fun w hI => hI.pick (is := [0, 1]) (by decide) rfl) ?_
    refine AnyJ.take (fuel := 14) (listed' := #[true, true, true, true, false, false, false, false, false, false, false, false, false, false, false, false, false, false]) 3 rfl (by kernel_rfl) (by kernel_rfl) (by kernel_rfl) rfl rfl rfl rfl (Yld.load1 rfl Tryd.underlying5 rfl rfl (fun w hI => hI.old hlenC hbq)) (fun w hI => hI.pick (is := [0, 1]) (by decide) rfl) ?_
    refine AnyJ.take (fuel := 13) (listed' := #[true, true, true, true, true, false, false, false, false, false, false, false, false, false, false, false, false, false]) 4 rfl (by kernel_rfl) (by kernel_rfl) (by kernel_rfl) rfl rfl rfl rfl (Yld.intBin rfl rfl rfl rfl) (fun w hI => hI.pick (is := [0, 1]) (by decide) rfl) ?_
    refine AnyJ.take (fuel := 12) (listed' := #[true, true, true, true, true, true, false, false, false, false, false, false, false, false, false, false, false, false]) 5 rfl (by kernel_rfl) (by kernel_rfl) (by kernel_rfl) rfl rfl rfl rfl (Yld.move rfl rfl) (fun w hI => hI.pick (is := [0, 1]) (by decide) rfl) ?_
    refine AnyJ.splitB (s := 30) rfl (fun g30 => ?_) (fun g30 => ?_)
    · have : (l.length : Int) = 0 := by simpa using g30
      omega
    · refine AnyJ.takeT (fuel := 11) (listed' := #[true, true, true, true, true, true, true, false, false, false, false, false, false, false, false, false, false, false]) 6 rfl (by kernel_rfl) (by kernel_rfl) (by kernel_rfl) rfl rfl rfl rfl rfl rfl (Yld.move rfl rfl) (fun w hI => hI.pick (is := [0, 1]) (by decide) rfl) ?_
      refine AnyJ.takeT (fuel := 10) (listed' := #[true, true, true, true, true, true, true, true, false, false, false, false, false, false, false, false, false, false]) 7 rfl (by kernel_rfl) (by kernel_rfl) (by kernel_rfl) rfl rfl rfl rfl rfl rfl (Yld.move rfl rfl) (fun w hI => hI.pick (is := [0, 1]) (by decide) rfl) ?_
      refine AnyJ.takeT (fuel := 9) (listed' := #[true, true, true, true, true, true, true, true, true, false, false, false, false, false, false, false, false, false]) 8 rfl (by kernel_rfl) (by kernel_rfl) (by kernel_rfl) rfl rfl rfl rfl rfl rfl (Yld.nilCheck rfl rfl) (fun w hI => hI.pick (is := [0, 1]) (by decide) rfl) ?_
      refine AnyJ.takeT (fuel := 8) (listed' := #[true, true, true, true, true, true, true, true, true, true, false, false, false, false, false, false, false, false]) 9 rfl (by kernel_rfl) (by kernel_rfl) (by kernel_rfl) rfl rfl rfl rfl rfl rfl (Yld.fieldAddr fa_103_1 rfl rfl) (fun w hI => hI.pick (is := [0, 1]) (by decide) rfl) ?_
      refine AnyJ.takeT (fuel := 7) (listed' := #[true, true, true, true, true, true, true, true, true, true, true, false, false, false, false, false, false, false]) 10 rfl (by kernel_rfl) (by kernel_rfl) (by kernel_rfl) rfl rfl rfl rfl rfl rfl (Yld.load1 rfl Tryd.underlying5 rfl rfl (fun w hI => hI.old hlenC hbq)) (fun w hI => hI.pick (is := [0, 1]) (by decide) rfl) ?_
      refine AnyJ.takeT (fuel := 6) (listed' := #[true, true, true, true, true, true, true, true, true, true, true, true, false, false, false, false, false, false]) 11 rfl (by kernel_rfl) (by kernel_rfl) (by kernel_rfl) rfl rfl rfl rfl rfl rfl (Yld.intBin rfl rfl rfl rfl) (fun w hI => hI.pick (is := [0, 1]) (by decide) rfl) ?_
      rw [u8_sub1 l.length hl1 (by omega)]
      refine AnyJ.takeT (fuel := 5) (listed' := #[true, true, true, true, true, true, true, true, true, true, true, true, true, false, false, false, false, false]) 12 rfl (by kernel_rfl) (by kernel_rfl) (by kernel_rfl) rfl rfl rfl rfl rfl rfl (Yld.nilCheck rfl rfl) (fun w hI => hI.pick (is := [0, 1]) (by decide) rfl) ?_
      refine AnyJ.takeT (fuel := 4) (listed' := #[true, true, true, true, true, true, true, true, true, true, true, true, true, true, false, false, false, false]) 13 rfl (by kernel_rfl) (by kernel_rfl) (by kernel_rfl) rfl rfl rfl rfl rfl rfl (Yld.fieldAddr fa_103_0 rfl rfl) (fun w hI => hI.pick (is := [0, 1]) (by decide) rfl) ?_
      refine AnyJ.takeT (fuel := 3) (listed' := #[true, true, true, true, true, true, true, true, true, true, true, true, true, true, true, false, false, false]) 14 rfl (by kernel_rfl) (by kernel_rfl) (by kernel_rfl) rfl rfl rfl rfl rfl rfl (Yld.indexAddrArr rfl Tryd.underlying101 sz_5 rfl rfl (by omega)) (fun w hI => hI.pick (is := [0, 1]) (by decide) rfl) ?_
      refine AnyJ.takeT (fuel := 2) (listed' := #[true, true, true, true, true, true, true, true, true, true, true, true, true, true, true, true, false, false]) 15 rfl (by kernel_rfl) (by kernel_rfl) (by kernel_rfl) rfl rfl rfl rfl rfl rfl (Yld.load1 rfl Tryd.underlying5 rfl rfl (fun w hI => hI.old (hbyte _ _ hlast) hbq)) (fun w hI => hI.pick (is := [0, 1]) (by decide) rfl) ?_
      refine AnyJ.takeT (fuel := 1) (listed' := #[true, true, true, true, true, true, true, true, true, true, true, true, true, true, true, true, true, false]) 16 rfl (by kernel_rfl) (by kernel_rfl) (by kernel_rfl) rfl rfl rfl rfl rfl rfl (Yld.intBin rfl rfl rfl rfl) (fun w hI => hI.pick (is := [0, 1]) (by decide) rfl) ?_
      refine AnyJ.take (fuel := 0) (listed' := #[true, true, true, true, true, true, true, true, true, true, true, true, true, true, true, true, true, true]) 17 rfl (by kernel_rfl) (by kernel_rfl) (by kernel_rfl) rfl rfl rfl rfl (Yld.pickF rfl rfl rfl) (fun w hI => hI.pick (is := [0, 1]) (by decide) rfl) ?_
      refine AnyJ.done (by kernel_rfl) ?_
      refine ExJ.thenN ?_
      refine CodeJ.cond rfl (fun c42 => ?_) (fun c42 => ?_)
      · exact absurd c42 (by decide)
      · refine CodeJ.skip ?_
        refine ExJ.thenN ?_
        refine CodeJ.cutP (fun L H => l ≠ [46] ∧ L = [(0, .pointer (some ⟨bq, o, none⟩)), (1, .slice p bs'.length c), (2, .map r), (3, .int .i64 off), (10, .slice p bs'.length c)] ∧ H = [appB 5 v bs (.slice p bs'.length c) bs', .mp r (kvV m)]) ?_ ?_
        · refine CodeJ.seq ?_
          refine CodeJ.region ?_
          refine OpsJ.yld rfl rfl rfl (Yld.move rfl rfl) ?_
          refine OpsJ.yld rfl rfl rfl (Yld.nilCheck rfl rfl) ?_
          refine OpsJ.yld rfl rfl rfl (Yld.fieldAddr fa_103_0 rfl rfl) ?_
          obtain ⟨x0, hx0⟩ : ∃ x, l[0]? = some x := ⟨l[0], List.getElem?_eq_getElem (by omega)⟩
          refine OpsJ.yld rfl rfl rfl (Yld.indexAddrArr (i := 0) rfl Tryd.underlying101 sz_5 rfl rfl (by omega)) ?_
          refine OpsJ.yld rfl rfl rfl (Yld.load1 rfl Tryd.underlying5 rfl rfl (fun w hI => hI.old (hbyte _ _ hx0) hbq)) ?_
          refine OpsJ.yld rfl rfl rfl (Yld.intBin rfl rfl rfl rfl) ?_
          refine OpsJ.yld rfl rfl rfl (Yld.move rfl rfl) ?_
          refine OpsJ.splitB (s := 51) rfl (fun g51 => ?_) (fun g51 => ?_)
          · have hx46 : x0 = 46 := (dotE x0).1 g51
            refine OpsJ.opT rfl rfl rfl ?_
            refine OpJ.yld rfl rfl (Yld.move rfl rfl) ?_
            refine OpsJ.opT rfl rfl rfl ?_
            refine OpJ.yld rfl rfl (Yld.nilCheck rfl rfl) ?_
            refine OpsJ.opT rfl rfl rfl ?_
            refine OpJ.yld rfl rfl (Yld.fieldAddr fa_103_1 rfl rfl) ?_
            refine OpsJ.opT rfl rfl rfl ?_
            refine OpJ.yld rfl rfl (Yld.load1 rfl Tryd.underlying5 rfl rfl (fun w hI => hI.old hlenC hbq)) ?_
            refine OpsJ.opT rfl rfl rfl ?_
            refine OpJ.yld rfl rfl (Yld.intBin rfl rfl rfl rfl) ?_
            refine OpsJ.yld rfl rfl rfl (Yld.pickT rfl rfl rfl) ?_
            refine OpsJ.nil ?_
            refine ExJ.thenN ?_
            refine CodeJ.cond rfl (fun c57 => ?_) (fun c57 => ?_)
            · have hone : l.length = 1 := by
                have : (l.length : Int) = 1 := by simpa using c57
                omega
              have he46 : l = [46] := by
                obtain ⟨y, rfl⟩ := List.length_eq_one_iff.1 hone
                simp at hx0
                rw [hx0, hx46]
              refine CodeJ.seq ?_
              refine CodeJ.region ?_
              refine OpsJ.yld rfl rfl rfl (Yld.move rfl rfl) ?_
              refine OpsJ.op rfl ?_
              refine OpJ.buildSlice (xs := [.const (Go.Value.int Go.IntKind.u8 0)]) elt_29 rfl rfl rfl rfl rfl rfl (by rfl) (by decide) fun one hone => ?_
              refine OpsJ.op rfl ?_
              refine OpJ.appendB (i := 1) (news := [0]) elt_29 rfl rfl rfl rfl rfl rfl (fun w hI => Bytes.src (Inv.bytes (k := 0) rfl w hI) Tryd.underlying29) (by simp; omega) fun p60 c60 => ?_
              refine OpsJ.yld rfl rfl rfl (Yld.assign rfl rfl) ?_
              refine OpsJ.yld rfl rfl rfl (Yld.assign rfl rfl) ?_
              refine OpsJ.nil ?_
              refine ExJ.thenN ?_
              refine CodeJ.ret ?_
              refine ExJ.thenR ?_
              refine ExJ.ret2 Tryd.results63 rfl rfl ?_ fun w hI => hI.pick (is := [1, 2]) (by decide) rfl
              simp only [packN, he46, if_true, PackPost]
              exact ⟨_, _, rfl, rfl⟩
            · have hne : l ≠ [46] := fun h => by
                subst h
                simp at c57
              refine CodeJ.skip ?_
              exact ExJ.meetP ⟨hne, rfl, rfl⟩ ⟨rfl, rfl, rfl, rfl, rfl, trivial⟩ fun w hI => hI
          · have hne : l ≠ [46] := fun h => by
              subst h
              simp at hx0
              exact (dotE' x0).1 g51 hx0.symm
            refine OpsJ.opF rfl rfl rfl rfl rfl rfl ?_
            refine OpsJ.opF rfl rfl rfl rfl rfl rfl ?_
            refine OpsJ.opF rfl rfl rfl rfl rfl rfl ?_
            refine OpsJ.opF rfl rfl rfl rfl rfl rfl ?_
            refine OpsJ.opF rfl rfl rfl rfl rfl rfl ?_
            refine OpsJ.yld rfl rfl rfl (Yld.pickF rfl rfl rfl) ?_
            refine OpsJ.nil ?_
            refine ExJ.thenN ?_
            refine CodeJ.condF rfl ?_
            refine CodeJ.skip ?_
            exact ExJ.meetP ⟨hne, rfl, rfl⟩ ⟨rfl, rfl, rfl, rfl, rfl, trivial⟩ fun w hI => hI
        · rintro _ _ ⟨hne, rfl, rfl⟩
          refine CodeJ.seq ?_
          refine CodeJ.region ?_
          refine OpsJ.yld rfl rfl rfl (Yld.assign rfl rfl) ?_
          refine OpsJ.nil ?_
          refine ExJ.thenN ?_
          refine CodeJ.seq ?_
          refine CodeJ.seq ?_
          refine CodeJ.region ?_
          refine OpsJ.yld rfl rfl rfl (Yld.assign rfl rfl) ?_
          refine OpsJ.yld rfl rfl rfl (Yld.assign rfl rfl) ?_
          refine OpsJ.nil ?_
          refine ExJ.thenN ?_
          refine CodeJ.block ?_
          refine CodeJ.loopP (fun L H n => ∃ (i : Nat) (lab ys : List UInt8) (m' : List (List UInt8 × Nat)) (p' : Option Addr) (c' : Nat) (nas : ByteArray), i ≤ l.length ∧ pk (bs'.length - off) r.isSome l [] [] m = pk (bs'.length - off) r.isSome (l.drop i) lab ys m' ∧ lab = (l.take i).drop (i - lab.length) ∧ lab.length ≤ i ∧ (lab = [] ↔ (i = 0 ∨ l[i - 1]? = some 46)) ∧ (nas = ByteArray.empty ∨ nas = ⟨l.toArray⟩) ∧ ys.length + lab.length ≤ 2 * i ∧ (∀ x ∈ m', x.2 < 65536) ∧
          L = [(0, .pointer (some ⟨bq, o, none⟩)), (1, .slice p' (bs' ++ ys).length c'), (2, .map r), (3, .int .i64 off), (10, .slice p bs'.length c), (11, .string nas), (12, .int .i64 i), (13, .int .i64 (i - lab.length : Nat))] ∧
          H = [appB 5 v bs (.slice p' (bs' ++ ys).length c') (bs' ++ ys), .mp r (kvV m')] ∧ n = l.length - i) ⟨0, [], [], m, p, c, ByteArray.empty, by omega, rfl, rfl, by simp, by simp, .inl rfl, by simp, hm, rfl, rfl, rfl⟩ ⟨rfl, by simp only [List.append_nil]; rfl, rfl, rfl, rfl, rfl, rfl, rfl, trivial⟩ (fun w hI => by simp only [List.append_nil]; exact hI) ?_
          rintro _ _ _ ⟨i, lab, ys, m', p', c', nas, hi, hpk, hlab, hlabl, hlab0, hnas, hysl, hm', rfl, rfl, rfl⟩
          refine CodeJ.seq ?_
          refine CodeJ.seq ?_
          refine CodeJ.region ?_
          refine OpsJ.yld rfl rfl rfl (Yld.move rfl rfl) ?_
          refine OpsJ.yld rfl rfl rfl (Yld.move rfl rfl) ?_
          refine OpsJ.yld rfl rfl rfl (Yld.nilCheck rfl rfl) ?_
          refine OpsJ.yld rfl rfl rfl (Yld.fieldAddr fa_103_1 rfl rfl) ?_
          refine OpsJ.yld rfl rfl rfl (Yld.load1 rfl Tryd.underlying5 rfl rfl (fun w hI => hI.old hlenC hbq)) ?_
          refine OpsJ.yld rfl rfl rfl (Yld.convInt rfl Tryd.underlying5 Tryd.underlying3 rfl) ?_
          rw [i64_wrap l.length (by omega)]
          refine OpsJ.yld rfl rfl rfl (Yld.intBin rfl rfl rfl rfl) ?_
          refine OpsJ.nil ?_
          refine ExJ.thenN ?_
          refine CodeJ.condP rfl (fun c67 => ?_) (fun c67 => ?_)
          · have hi' : i < l.length := by omega
            obtain ⟨x, hx⟩ : ∃ x, l[i]? = some x := ⟨l[i], List.getElem?_eq_getElem hi'⟩
            have hdrop : l.drop i = x :: l.drop (i + 1) := by
              rw [List.drop_eq_getElem_cons hi']
              congr 1
              exact (List.getElem?_eq_some_iff.1 hx).2
            rw [hdrop, pk] at hpk
            have hbl : (bs' ++ ys).length = bs'.length + ys.length := List.length_append
            refine CodeJ.skip ?_
            refine ExJ.thenN ?_
            refine CodeJ.seq ?_
            refine CodeJ.block ?_
            refine CodeJ.seq ?_
            refine CodeJ.seq ?_
            refine CodeJ.region ?_
            refine OpsJ.yld rfl rfl rfl (Yld.move rfl rfl) ?_
            refine OpsJ.yld rfl rfl rfl (Yld.move rfl rfl) ?_
            refine OpsJ.yld rfl rfl rfl (Yld.nilCheck rfl rfl) ?_
            refine OpsJ.yld rfl rfl rfl (Yld.fieldAddr fa_103_0 rfl rfl) ?_
            refine OpsJ.yld rfl rfl rfl (Yld.indexAddrArr rfl Tryd.underlying101 sz_5 rfl rfl (by omega)) ?_
            refine OpsJ.yld rfl rfl rfl (Yld.load1 rfl Tryd.underlying5 rfl rfl (fun w hI => hI.old (hbyte _ _ hx) hbq)) ?_
            refine OpsJ.yld rfl rfl rfl (Yld.intBin rfl rfl rfl rfl) ?_
            refine OpsJ.nil ?_
            refine ExJ.thenN ?_
            refine CodeJ.cond rfl (fun c76 => ?_) (fun c76 => ?_)
            · have hdot : x = 46 := (dotE x).1 c76
              rw [if_pos hdot] at hpk
              have hil : i - (i - lab.length) = lab.length := by omega
              refine CodeJ.seq ?_
              refine CodeJ.seq ?_
              refine CodeJ.region ?_
              refine OpsJ.yld rfl rfl rfl (Yld.move rfl rfl) ?_
              refine OpsJ.yld rfl rfl rfl (Yld.move rfl rfl) ?_
              refine OpsJ.yld rfl rfl rfl (Yld.intBin rfl rfl rfl rfl) ?_
              rw [i64_sub _ _ (by omega) (by omega), hil]
              refine OpsJ.yld rfl rfl rfl (Yld.intBin rfl rfl rfl rfl) ?_
              refine OpsJ.nil ?_
              refine ExJ.thenN ?_
              refine CodeJ.condP rfl (fun c80 => ?_) (fun c80 => ?_)
              · have hbad : lab.length ≥ 64 := by omega
                rw [if_pos hbad] at hpk
                refine CodeJ.seq ?_
                refine CodeJ.any (fuel := 4) (listed := #[false, false, false, false]) [0, 1] rfl follows_mixed rfl rfl ?_
                refine AnyJ.take (fuel := 3) (listed' := #[true, false, false, false]) 0 rfl (by kernel_rfl) (by kernel_rfl) (by kernel_rfl) rfl rfl rfl rfl (Yld.move rfl rfl) (fun w hI => hI.pick (is := [0, 1]) (by decide) rfl) ?_
                refine AnyJ.take (fuel := 2) (listed' := #[true, true, false, false]) 1 rfl (by kernel_rfl) (by kernel_rfl) (by kernel_rfl) rfl rfl rfl rfl (Yld.load1 rfl Tryd.underlying98 rfl rfl (fun w hI => hI.old (he8) (hn8))) (fun w hI => hI.pick (is := [0, 1]) (by decide) rfl) ?_
                refine AnyJ.take (fuel := 1) (listed' := #[true, true, true, false]) 2 rfl (by kernel_rfl) (by kernel_rfl) (by kernel_rfl) rfl rfl rfl rfl (Yld.assign rfl rfl) (fun w hI => hI.pick (is := [0, 1]) (by decide) rfl) ?_
                refine AnyJ.take (fuel := 0) (listed' := #[true, true, true, true]) 3 rfl (by kernel_rfl) (by kernel_rfl) (by kernel_rfl) rfl rfl rfl rfl (Yld.assign rfl rfl) (fun w hI => hI.pick (is := [0, 1]) (by decide) rfl) ?_
                refine AnyJ.done (by kernel_rfl) ?_
                refine ExJ.thenN ?_
                refine CodeJ.ret ?_
                refine ExJ.thenR ?_
                refine ExJ.thenR ?_
                refine ExJ.blockR ?_
                refine ExJ.thenR ?_
                refine ExJ.thenR ?_
                refine ExJ.blockR ?_
                refine ExJ.thenR ?_
                refine ExJ.ret2 Tryd.results63 rfl rfl ?_ fun w hI => (hI.sl1 (i := 0) rfl)
                rw [packN_pk _ _ _ _ hne, hpk]
                exact ⟨_, _, _, rfl, rfl⟩
              · have hbad : ¬ lab.length ≥ 64 := by omega
                rw [if_neg hbad] at hpk
                refine CodeJ.skip ?_
                refine ExJ.thenN ?_
                refine CodeJ.seq ?_
                refine CodeJ.seq ?_
                refine CodeJ.region ?_
                refine OpsJ.yld rfl rfl rfl (Yld.move rfl rfl) ?_
                refine OpsJ.yld rfl rfl rfl (Yld.move rfl rfl) ?_
                refine OpsJ.yld rfl rfl rfl (Yld.intBin rfl rfl rfl rfl) ?_
                rw [i64_sub _ _ (by omega) (by omega), hil]
                refine OpsJ.yld rfl rfl rfl (Yld.intBin rfl rfl rfl rfl) ?_
                refine OpsJ.nil ?_
                refine ExJ.thenN ?_
                refine CodeJ.cond rfl (fun c86 => ?_) (fun c86 => ?_)
                · have hz : lab.length = 0 := by
                    have : (lab.length : Int) = 0 := by simpa using c86
                    omega
                  rw [if_pos hz] at hpk
                  refine CodeJ.seq ?_
                  refine CodeJ.any (fuel := 4) (listed := #[false, false, false, false]) [0, 1] rfl follows_mixed rfl rfl ?_
                  refine AnyJ.take (fuel := 3) (listed' := #[true, false, false, false]) 0 rfl (by kernel_rfl) (by kernel_rfl) (by kernel_rfl) rfl rfl rfl rfl (Yld.move rfl rfl) (fun w hI => hI.pick (is := [0, 1]) (by decide) rfl) ?_
                  refine AnyJ.take (fuel := 2) (listed' := #[true, true, false, false]) 1 rfl (by kernel_rfl) (by kernel_rfl) (by kernel_rfl) rfl rfl rfl rfl (Yld.load1 rfl Tryd.underlying98 rfl rfl (fun w hI => hI.old (he9) (hn9))) (fun w hI => hI.pick (is := [0, 1]) (by decide) rfl) ?_
                  refine AnyJ.take (fuel := 1) (listed' := #[true, true, true, false]) 2 rfl (by kernel_rfl) (by kernel_rfl) (by kernel_rfl) rfl rfl rfl rfl (Yld.assign rfl rfl) (fun w hI => hI.pick (is := [0, 1]) (by decide) rfl) ?_
                  refine AnyJ.take (fuel := 0) (listed' := #[true, true, true, true]) 3 rfl (by kernel_rfl) (by kernel_rfl) (by kernel_rfl) rfl rfl rfl rfl (Yld.assign rfl rfl) (fun w hI => hI.pick (is := [0, 1]) (by decide) rfl) ?_
                  refine AnyJ.done (by kernel_rfl) ?_
                  refine ExJ.thenN ?_
                  refine CodeJ.ret ?_
                  refine ExJ.thenR ?_
                  refine ExJ.thenR ?_
                  refine ExJ.blockR ?_
                  refine ExJ.thenR ?_
                  refine ExJ.thenR ?_
                  refine ExJ.blockR ?_
                  refine ExJ.thenR ?_
                  refine ExJ.ret2 Tryd.results63 rfl rfl ?_ fun w hI => (hI.sl1 (i := 0) rfl)
                  rw [packN_pk _ _ _ _ hne, hpk]
                  exact ⟨_, _, _, rfl, rfl⟩
                · have hz : ¬ lab.length = 0 := by
                    intro h
                    simp [h] at c86
                  rw [if_neg hz] at hpk
                  refine CodeJ.skip ?_
                  refine ExJ.thenN ?_
                  refine CodeJ.seq ?_
                  refine CodeJ.region ?_
                  refine OpsJ.yld rfl rfl rfl (Yld.move rfl rfl) ?_
                  refine OpsJ.yld rfl rfl rfl (Yld.move rfl rfl) ?_
                  refine OpsJ.yld rfl rfl rfl (Yld.move rfl rfl) ?_
                  refine OpsJ.yld rfl rfl rfl (Yld.intBin rfl rfl rfl rfl) ?_
                  rw [i64_sub _ _ (by omega) (by omega), hil]
                  refine OpsJ.yld rfl rfl rfl (Yld.convInt rfl Tryd.underlying3 Tryd.underlying5 rfl) ?_
                  rw [u8_wrap]
                  refine OpsJ.op rfl ?_
                  refine OpJ.buildSlice (xs := [.tmp 93]) elt_29 rfl rfl rfl rfl rfl rfl (by rfl) (by decide) fun one hone => ?_
                  refine OpsJ.op rfl ?_
                  refine OpJ.appendB (i := 1) (news := [UInt8.ofNat lab.length]) elt_29 rfl rfl rfl rfl rfl rfl (fun w hI => Bytes.src (Inv.bytes (k := 0) rfl w hI) Tryd.underlying29) (by simp; omega) fun p95 c95 => ?_
                  have e0 : bs' ++ (ys ++ [UInt8.ofNat lab.length] ++ (l.take (i - lab.length)).drop (i - lab.length)) = bs' ++ ys ++ [UInt8.ofNat lab.length] := by
                    rw [List.drop_of_length_le (List.length_take_le _ _)]
                    simp
                  refine OpsJ.yld rfl rfl rfl (Yld.assign rfl rfl) ?_
                  refine OpsJ.nil ?_
                  refine ExJ.thenN ?_
                  refine CodeJ.seq ?_
                  refine CodeJ.seq ?_
                  refine CodeJ.region ?_
                  refine OpsJ.yld rfl rfl rfl (Yld.move rfl rfl) ?_
                  refine OpsJ.yld rfl rfl rfl (Yld.assign rfl rfl) ?_
                  refine OpsJ.nil ?_
                  refine ExJ.thenN ?_
                  refine CodeJ.block ?_
                  refine CodeJ.loopP (fun L H n => ∃ (j : Nat) (p2 : Option Addr) (c2 : Nat), i - lab.length ≤ j ∧ j ≤ i ∧
                  L = [(0, .pointer (some ⟨bq, o, none⟩)), (1, .slice p2 (bs' ++ (ys ++ [UInt8.ofNat lab.length] ++ (l.take j).drop (i - lab.length))).length c2), (2, .map r), (3, .int .i64 off), (10, .slice p bs'.length c), (11, .string nas), (12, .int .i64 i), (14, .int .i64 j)] ∧
                  H = [appB 5 v bs (.slice p2 (bs' ++ (ys ++ [UInt8.ofNat lab.length] ++ (l.take j).drop (i - lab.length))).length c2) (bs' ++ (ys ++ [UInt8.ofNat lab.length] ++ (l.take j).drop (i - lab.length))), .mp r (kvV m')] ∧ n = i - j) ⟨i - lab.length, p95, c95, by omega, by omega, rfl, rfl, rfl⟩ ⟨rfl, by rw [e0]; rfl, rfl, rfl, rfl, rfl, rfl, rfl, trivial⟩ (fun w hI => by rw [e0]; exact hI.pick (is := [1, 2]) (by decide) rfl) ?_
                  rintro _ _ _ ⟨j, p2, c2, hj1, hj2, rfl, rfl, rfl⟩
                  refine CodeJ.seq ?_
                  refine CodeJ.seq ?_
                  refine CodeJ.region ?_
                  refine OpsJ.yld rfl rfl rfl (Yld.move rfl rfl) ?_
                  refine OpsJ.yld rfl rfl rfl (Yld.move rfl rfl) ?_
                  refine OpsJ.yld rfl rfl rfl (Yld.intBin rfl rfl rfl rfl) ?_
                  refine OpsJ.nil ?_
                  refine ExJ.thenN ?_
                  refine CodeJ.condP rfl (fun c99 => ?_) (fun c99 => ?_)
                  · have hj' : j < i := by omega
                    obtain ⟨y, hy⟩ : ∃ y, l[j]? = some y := ⟨l[j], List.getElem?_eq_getElem (by omega)⟩
                    have hnx : bs' ++ (ys ++ [UInt8.ofNat lab.length] ++ (l.take (j + 1)).drop (i - lab.length)) = bs' ++ (ys ++ [UInt8.ofNat lab.length] ++ (l.take j).drop (i - lab.length)) ++ [y] := by
                      rw [take_drop_snoc l _ j y hy hj1]
                      simp
                    refine CodeJ.skip ?_
                    refine ExJ.thenN ?_
                    refine CodeJ.seq ?_
                    refine CodeJ.block ?_
                    refine CodeJ.region ?_
                    refine OpsJ.yld rfl rfl rfl (Yld.move rfl rfl) ?_
                    refine OpsJ.yld rfl rfl rfl (Yld.move rfl rfl) ?_
                    refine OpsJ.yld rfl rfl rfl (Yld.move rfl rfl) ?_
                    refine OpsJ.yld rfl rfl rfl (Yld.nilCheck rfl rfl) ?_
                    refine OpsJ.yld rfl rfl rfl (Yld.fieldAddr fa_103_0 rfl rfl) ?_
                    refine OpsJ.yld rfl rfl rfl (Yld.indexAddrArr rfl Tryd.underlying101 sz_5 rfl rfl (by omega)) ?_
                    refine OpsJ.yld rfl rfl rfl (Yld.load1 rfl Tryd.underlying5 rfl rfl (fun w hI => hI.old (hbyte _ _ hy) hbq)) ?_
                    refine OpsJ.op rfl ?_
                    refine OpJ.buildSlice (xs := [.tmp 108]) elt_29 rfl rfl rfl rfl rfl rfl (by rfl) (by decide) fun one hone => ?_
                    refine OpsJ.op rfl ?_
                    refine OpJ.appendB (i := 1) (news := [y]) elt_29 rfl rfl rfl rfl rfl rfl (fun w hI => Bytes.src (Inv.bytes (k := 0) rfl w hI) Tryd.underlying29) (by simp; omega) fun p110 c110 => ?_
                    refine OpsJ.yld rfl rfl rfl (Yld.assign rfl rfl) ?_
                    refine OpsJ.nil ?_
                    refine ExJ.blockN ?_
                    refine ExJ.thenN ?_
                    refine CodeJ.region ?_
                    refine OpsJ.yld rfl rfl rfl (Yld.move rfl rfl) ?_
                    refine OpsJ.yld rfl rfl rfl (Yld.intBin rfl rfl rfl rfl) ?_
                    rw [i64_succ j (by omega)]
                    refine OpsJ.yld rfl rfl rfl (Yld.assign rfl rfl) ?_
                    refine OpsJ.nil ?_
                    exact ExJ.againP ⟨j + 1, p110, c110, by omega, by omega, rfl, rfl, rfl⟩ (by omega) ⟨rfl, by rw [hnx]; rfl, rfl, rfl, rfl, rfl, rfl, rfl, trivial⟩ fun w hI => by rw [hnx]; exact hI.pick (is := [1, 2]) (by decide) rfl
                  · obtain rfl : i = j := by omega
                    rw [← hlab]
                    refine CodeJ.exit ?_
                    refine ExJ.thenX ?_
                    refine ExJ.thenX ?_
                    refine ExJ.blockHit ?_
                    refine ExJ.thenN ?_
                    refine CodeJ.seq ?_
                    refine CodeJ.region ?_
                    refine OpsJ.yld rfl rfl rfl (Yld.move rfl rfl) ?_
                    refine OpsJ.yld rfl rfl rfl (Yld.intBin rfl rfl rfl rfl) ?_
                    rw [i64_succ _ (by omega)]
                    refine OpsJ.yld rfl rfl rfl (Yld.assign rfl rfl) ?_
                    refine OpsJ.nil ?_
                    refine ExJ.thenN ?_
                    refine CodeJ.exit ?_
                    refine ExJ.thenX ?_
                    refine ExJ.blockHit ?_
                    refine ExJ.thenN ?_
                    refine CodeJ.region ?_
                    refine OpsJ.yld rfl rfl rfl (Yld.move rfl rfl) ?_
                    refine OpsJ.yld rfl rfl rfl (Yld.intBin rfl rfl rfl rfl) ?_
                    rw [i64_succ _ (by omega)]
                    refine OpsJ.yld rfl rfl rfl (Yld.assign rfl rfl) ?_
                    refine OpsJ.nil ?_
                    exact ExJ.againP ⟨i + 1, [], ys ++ [UInt8.ofNat lab.length] ++ lab, m', p2, c2, nas, by omega, hpk, by simp, by simp, by simp [hx, hdot], hnas, by simp; omega, hm', rfl, rfl, rfl⟩ (by omega) ⟨rfl, rfl, rfl, rfl, rfl, rfl, rfl, rfl, trivial⟩ fun w hI => hI
            · have hdot : ¬ x = 46 := (dotE' x).1 c76
              rw [if_neg hdot] at hpk
              have hb0 : i + 1 - (lab ++ [x]).length = i - lab.length := by simp
              have hlab' : lab ++ [x] = (l.take (i + 1)).drop (i + 1 - (lab ++ [x]).length) := by
                rw [hb0, take_drop_snoc l _ i x hx (by omega), ← hlab]
              have hiff' : lab ++ [x] = [] ↔ (i + 1 = 0 ∨ l[i + 1 - 1]? = some 46) := by simp [hx, hdot]
              have hsuf : Cells w0 bq (o + 0 + i) (bytesV (l.drop i)) := by
                refine hcs0.part (k := i) ?_ ?_
                · rw [nameCs, List.drop_append_of_le_length (by rw [bytesV_len]; omega)]
                  have : (bytesV l).drop i = bytesV (l.drop i) := by simp [bytesV]
                  rw [this, List.take_left' rfl]
                · rw [nameCs_len l (by omega), bytesV_len]
                  simp
                  omega
              have hall : Cells w0 bq (o + 0) (bytesV l) := by
                refine Cells.part (k := 0) hcs0 ?_ ?_
                · rw [List.drop_zero, nameCs, List.take_left' rfl]
                · rw [nameCs_len l (by omega), bytesV_len]
                  omega
              refine CodeJ.skip ?_
              refine ExJ.thenN ?_
              refine CodeJ.seq ?_
              refine CodeJ.region ?_
              refine OpsJ.yld rfl rfl rfl (Yld.move rfl rfl) ?_
              refine OpsJ.yld rfl rfl rfl (Yld.intBin rfl rfl rfl rfl) ?_
              refine OpsJ.yld rfl rfl rfl (Yld.move rfl rfl) ?_
              refine OpsJ.splitB (s := 115) rfl (fun g115 => ?_) (fun g115 => ?_)
              · have hi0 : i = 0 := by
                  have : (i : Int) = 0 := by simpa using g115
                  omega
                have hnil : lab = [] := hlab0.2 (.inl hi0)
                refine OpsJ.opF rfl rfl rfl rfl rfl rfl ?_
                refine OpsJ.opF rfl rfl rfl rfl rfl rfl ?_
                refine OpsJ.opF rfl rfl rfl rfl rfl rfl ?_
                refine OpsJ.opF rfl rfl rfl rfl rfl rfl ?_
                refine OpsJ.opF rfl rfl rfl rfl rfl rfl ?_
                refine OpsJ.opF rfl rfl rfl rfl rfl rfl ?_
                refine OpsJ.opF rfl rfl rfl rfl rfl rfl ?_
                refine OpsJ.opF rfl rfl rfl rfl rfl rfl ?_
                refine OpsJ.yld rfl rfl rfl (Yld.pickT rfl rfl rfl) ?_
                refine OpsJ.yld rfl rfl rfl (Yld.move rfl rfl) ?_
                refine OpsJ.opT rfl rfl rfl ?_
                refine OpJ.yld rfl rfl (Yld.move rfl rfl) ?_
                refine OpsJ.opT rfl rfl rfl ?_
                refine OpJ.yld rfl rfl (Yld.mapNeNil rfl Tryd.underlying87 rfl) ?_
                refine OpsJ.yld rfl rfl rfl (Yld.pickT rfl rfl rfl) ?_
                refine OpsJ.nil ?_
                refine ExJ.thenN ?_
                refine CodeJ.cond rfl (fun c128 => ?_) (fun c128 => ?_)
                · obtain ⟨bm, rfl⟩ := Option.isSome_iff_exists.1 c128
                  rw [if_pos ⟨hnil, rfl⟩, ← hdrop] at hpk
                  refine CodeJ.seq ?_
                  refine CodeJ.seq ?_
                  refine CodeJ.any (fuel := 17) (listed := #[false, false, false, false, false, false, false, false, false, false, false, false, false, false, false, false, false]) [0, 1] rfl follows_mixed rfl rfl ?_
                  refine AnyJ.take (fuel := 16) (listed' := #[true, false, false, false, false, false, false, false, false, false, false, false, false, false, false, false, false]) 0 rfl (by kernel_rfl) (by kernel_rfl) (by kernel_rfl) rfl rfl rfl rfl (Yld.move rfl rfl) (fun w hI => hI.pick (is := [0, 1]) (by decide) rfl) ?_
                  refine AnyJ.take (fuel := 15) (listed' := #[true, true, false, false, false, false, false, false, false, false, false, false, false, false, false, false, false]) 1 rfl (by kernel_rfl) (by kernel_rfl) (by kernel_rfl) rfl rfl rfl rfl (Yld.move rfl rfl) (fun w hI => hI.pick (is := [0, 1]) (by decide) rfl) ?_
                  refine AnyJ.take (fuel := 14) (listed' := #[true, true, true, false, false, false, false, false, false, false, false, false, false, false, false, false, false]) 2 rfl (by kernel_rfl) (by kernel_rfl) (by kernel_rfl) rfl rfl rfl rfl (Yld.nilCheck rfl rfl) (fun w hI => hI.pick (is := [0, 1]) (by decide) rfl) ?_
                  refine AnyJ.take (fuel := 13) (listed' := #[true, true, true, true, false, false, false, false, false, false, false, false, false, false, false, false, false]) 3 rfl (by kernel_rfl) (by kernel_rfl) (by kernel_rfl) rfl rfl rfl rfl (Yld.fieldAddr fa_103_0 rfl rfl) (fun w hI => hI.pick (is := [0, 1]) (by decide) rfl) ?_
                  refine AnyJ.take (fuel := 12) (listed' := #[true, true, true, true, true, false, false, false, false, false, false, false, false, false, false, false, false]) 4 rfl (by kernel_rfl) (by kernel_rfl) (by kernel_rfl) rfl rfl rfl rfl (Yld.move rfl rfl) (fun w hI => hI.pick (is := [0, 1]) (by decide) rfl) ?_
                  refine AnyJ.take (fuel := 11) (listed' := #[true, true, true, true, true, true, false, false, false, false, false, false, false, false, false, false, false]) 5 rfl (by kernel_rfl) (by kernel_rfl) (by kernel_rfl) rfl rfl rfl rfl (Yld.move rfl rfl) (fun w hI => hI.pick (is := [0, 1]) (by decide) rfl) ?_
                  refine AnyJ.take (fuel := 10) (listed' := #[true, true, true, true, true, true, true, false, false, false, false, false, false, false, false, false, false]) 6 rfl (by kernel_rfl) (by kernel_rfl) (by kernel_rfl) rfl rfl rfl rfl (Yld.nilCheck rfl rfl) (fun w hI => hI.pick (is := [0, 1]) (by decide) rfl) ?_
                  refine AnyJ.take (fuel := 9) (listed' := #[true, true, true, true, true, true, true, true, false, false, false, false, false, false, false, false, false]) 7 rfl (by kernel_rfl) (by kernel_rfl) (by kernel_rfl) rfl rfl rfl rfl (Yld.fieldAddr fa_103_1 rfl rfl) (fun w hI => hI.pick (is := [0, 1]) (by decide) rfl) ?_
                  refine AnyJ.take (fuel := 8) (listed' := #[true, true, true, true, true, true, true, true, true, false, false, false, false, false, false, false, false]) 8 rfl (by kernel_rfl) (by kernel_rfl) (by kernel_rfl) rfl rfl rfl rfl (Yld.load1 rfl Tryd.underlying5 rfl rfl (fun w hI => hI.old hlenC hbq)) (fun w hI => hI.pick (is := [0, 1]) (by decide) rfl) ?_
                  refine AnyJ.take (fuel := 7) (listed' := #[true, true, true, true, true, true, true, true, true, true, false, false, false, false, false, false, false]) 9 rfl (by kernel_rfl) (by kernel_rfl) (by kernel_rfl) rfl rfl rfl rfl (Yld.sliceArr rfl Tryd.underlying101 sz_5 rfl rfl rfl hi (by omega) (by omega)) (fun w hI => hI.pick (is := [0, 1]) (by decide) rfl) ?_
                  refine AnyJ.take (fuel := 6) (listed' := #[true, true, true, true, true, true, true, true, true, true, true, false, false, false, false, false, false]) 10 rfl (by kernel_rfl) (by kernel_rfl) (by kernel_rfl) rfl rfl rfl rfl (Yld.bytesStr (bs := l.drop i) (by simp) rfl Tryd.underlying29 Tryd.underlying5 Tryd.underlying9 rfl (fun w hI => hI.old hsuf hbq)) (fun w hI => hI.pick (is := [0, 1]) (by decide) rfl) ?_
                  refine AnyJ.take (fuel := 5) (listed' := #[true, true, true, true, true, true, true, true, true, true, true, true, false, false, false, false, false]) 11 rfl (by kernel_rfl) (by kernel_rfl) (by kernel_rfl) rfl rfl rfl rfl (Yld.lookupOk mapT rfl rfl rfl (fun w hI => hI.hs _ (List.mem_of_getElem? (i := 1) rfl))) (fun w hI => hI.pick (is := [0, 1]) (by decide) rfl) ?_
                  refine AnyJ.take (fuel := 4) (listed' := #[true, true, true, true, true, true, true, true, true, true, true, true, true, false, false, false, false]) 12 rfl (by kernel_rfl) (by kernel_rfl) (by kernel_rfl) rfl rfl rfl rfl (Yld.move rfl rfl) (fun w hI => hI.pick (is := [0, 1]) (by decide) rfl) ?_
                  refine AnyJ.take (fuel := 3) (listed' := #[true, true, true, true, true, true, true, true, true, true, true, true, true, true, false, false, false]) 13 rfl (by kernel_rfl) (by kernel_rfl) (by kernel_rfl) rfl rfl rfl rfl (Yld.extract rfl rfl rfl) (fun w hI => hI.pick (is := [0, 1]) (by decide) rfl) ?_
                  refine AnyJ.take (fuel := 2) (listed' := #[true, true, true, true, true, true, true, true, true, true, true, true, true, true, true, false, false]) 14 rfl (by kernel_rfl) (by kernel_rfl) (by kernel_rfl) rfl rfl rfl rfl (Yld.extract rfl rfl rfl) (fun w hI => hI.pick (is := [0, 1]) (by decide) rfl) ?_
                  refine AnyJ.take (fuel := 1) (listed' := #[true, true, true, true, true, true, true, true, true, true, true, true, true, true, true, true, false]) 15 rfl (by kernel_rfl) (by kernel_rfl) (by kernel_rfl) rfl rfl rfl rfl (Yld.assign rfl rfl) (fun w hI => hI.pick (is := [0, 1]) (by decide) rfl) ?_
                  refine AnyJ.take (fuel := 0) (listed' := #[true, true, true, true, true, true, true, true, true, true, true, true, true, true, true, true, true]) 16 rfl (by kernel_rfl) (by kernel_rfl) (by kernel_rfl) rfl rfl rfl rfl (Yld.assign rfl rfl) (fun w hI => hI.pick (is := [0, 1]) (by decide) rfl) ?_
                  refine AnyJ.done (by kernel_rfl) ?_
                  refine ExJ.thenN ?_
                  refine CodeJ.seq ?_
                  refine CodeJ.region ?_
                  refine OpsJ.yld rfl rfl rfl (Yld.move rfl rfl) ?_
                  refine OpsJ.nil ?_
                  refine ExJ.thenN ?_
                  refine CodeJ.cond rfl (fun c144 => ?_) (fun c144 => ?_)
                  · obtain ⟨q, hq⟩ := Option.isSome_iff_exists.1 c144
                    rw [hq] at hpk ⊢
                    have hq2 : q < 65536 := by
                      have := lookup_mem hq
                      exact hm' _ this
                    refine CodeJ.seq ?_
                    refine CodeJ.region ?_
                    refine OpsJ.yld rfl rfl rfl (Yld.move rfl rfl) ?_
                    refine OpsJ.yld rfl rfl rfl (Yld.move rfl rfl) ?_
                    refine OpsJ.yld rfl rfl rfl (Yld.shr rfl rfl rfl (by decide)) ?_
                    rw [shr8]
                    refine OpsJ.yld rfl rfl rfl (Yld.intBin rfl rfl rfl rfl) ?_
                    refine OpsJ.yld rfl rfl rfl (Yld.convInt rfl Tryd.underlying22 Tryd.underlying5 rfl) ?_
                    rw [ptr_hi ((some q).getD 0) hq2]
                    refine OpsJ.yld rfl rfl rfl (Yld.move rfl rfl) ?_
                    refine OpsJ.yld rfl rfl rfl (Yld.convInt rfl Tryd.underlying22 Tryd.underlying5 rfl) ?_
                    rw [u8_wrap]
                    refine OpsJ.op rfl ?_
                    refine OpJ.buildSlice (xs := [.tmp 149, .tmp 151]) elt_29 rfl rfl rfl rfl rfl rfl (by rfl) (by decide) fun two htwo => ?_
                    refine OpsJ.op rfl ?_
                    refine OpJ.appendB (i := 1) (news := ptrB q) elt_29 rfl rfl rfl rfl rfl rfl (fun w hI => Bytes.src (Inv.bytes (k := 0) rfl w hI) Tryd.underlying29) (by simp [ptrB]; omega) fun p153 c153 => ?_
                    refine OpsJ.yld rfl rfl rfl (Yld.assign rfl rfl) ?_
                    refine OpsJ.yld rfl rfl rfl (Yld.assign rfl rfl) ?_
                    refine OpsJ.nil ?_
                    refine ExJ.thenN ?_
                    refine CodeJ.ret ?_
                    refine ExJ.thenR ?_
                    refine ExJ.blockR ?_
                    refine ExJ.thenR ?_
                    refine ExJ.thenR ?_
                    refine ExJ.blockR ?_
                    refine ExJ.thenR ?_
                    refine ExJ.ret2 Tryd.results63 rfl rfl ?_ fun w hI => hI.pick (is := [1, 2]) (by decide) rfl
                    rw [packN_pk _ _ _ _ hne, hpk]
                    exact ⟨_, _, by rw [List.append_assoc], by rw [List.append_assoc]⟩
                  · have hq : m'.lookup (l.drop i) = none := by simpa using c144
                    rw [hq] at hpk
                    refine CodeJ.skip ?_
                    refine ExJ.thenN ?_
                    refine CodeJ.seq ?_
                    refine CodeJ.region ?_
                    refine OpsJ.yld rfl rfl rfl (Yld.move rfl rfl) ?_
                    refine OpsJ.yld rfl rfl rfl (Yld.lenSlice rfl rfl rfl Tryd.underlying29 rfl) ?_
                    refine OpsJ.yld rfl rfl rfl (Yld.move rfl rfl) ?_
                    refine OpsJ.yld rfl rfl rfl (Yld.intBin rfl rfl rfl rfl) ?_
                    rw [i64_sub _ _ (by omega) (by omega)]
                    refine OpsJ.yld rfl rfl rfl (Yld.assign rfl rfl) ?_
                    refine OpsJ.nil ?_
                    refine ExJ.thenN ?_
                    refine CodeJ.seq ?_
                    refine CodeJ.region ?_
                    refine OpsJ.yld rfl rfl rfl (Yld.move rfl rfl) ?_
                    refine OpsJ.yld rfl rfl rfl (Yld.intBin rfl rfl rfl rfl) ?_
                    refine OpsJ.nil ?_
                    refine ExJ.thenN ?_
                    refine CodeJ.condP rfl (fun c159 => ?_) (fun c159 => ?_)
                    · have hfit : bs'.length - off + ys.length ≤ 16383 := by omega
                      have hmod : ((bs' ++ ys).length - off) % 65536 = bs'.length - off + ys.length := by omega
                      have hpk0 := hpk
                      simp only [hfit, if_true] at hpk
                      rw [hdrop] at hpk
                      have hm2 : ∀ z ∈ m' ++ [(x :: l.drop (i + 1), bs'.length - off + ys.length)], z.2 < 65536 := fun z hz => by
                        rcases List.mem_append.1 hz with h | h
                        · exact hm' z h
                        · simp at h
                          subst h
                          simp
                          omega
                      refine CodeJ.seq ?_
                      refine CodeJ.seq ?_
                      refine CodeJ.region ?_
                      refine OpsJ.yld rfl rfl rfl (Yld.move rfl rfl) ?_
                      refine OpsJ.yld rfl rfl rfl (Yld.strEq rfl rfl rfl) ?_
                      refine OpsJ.nil ?_
                      refine ExJ.thenN ?_
                      refine CodeJ.cond rfl (fun c161 => ?_) (fun c161 => ?_)
                      · refine CodeJ.any (fuel := 10) (listed := #[false, false, false, false, false, false, false, false, false, false]) [0, 1] rfl follows_mixed rfl rfl ?_
                        refine AnyJ.take (fuel := 9) (listed' := #[true, false, false, false, false, false, false, false, false, false]) 0 rfl (by kernel_rfl) (by kernel_rfl) (by kernel_rfl) rfl rfl rfl rfl (Yld.move rfl rfl) (fun w hI => hI.pick (is := [0, 1]) (by decide) rfl) ?_
                        refine AnyJ.take (fuel := 8) (listed' := #[true, true, false, false, false, false, false, false, false, false]) 1 rfl (by kernel_rfl) (by kernel_rfl) (by kernel_rfl) rfl rfl rfl rfl (Yld.nilCheck rfl rfl) (fun w hI => hI.pick (is := [0, 1]) (by decide) rfl) ?_
                        refine AnyJ.take (fuel := 7) (listed' := #[true, true, true, false, false, false, false, false, false, false]) 2 rfl (by kernel_rfl) (by kernel_rfl) (by kernel_rfl) rfl rfl rfl rfl (Yld.fieldAddr fa_103_0 rfl rfl) (fun w hI => hI.pick (is := [0, 1]) (by decide) rfl) ?_
                        refine AnyJ.take (fuel := 6) (listed' := #[true, true, true, true, false, false, false, false, false, false]) 3 rfl (by kernel_rfl) (by kernel_rfl) (by kernel_rfl) rfl rfl rfl rfl (Yld.move rfl rfl) (fun w hI => hI.pick (is := [0, 1]) (by decide) rfl) ?_
                        refine AnyJ.take (fuel := 5) (listed' := #[true, true, true, true, true, false, false, false, false, false]) 4 rfl (by kernel_rfl) (by kernel_rfl) (by kernel_rfl) rfl rfl rfl rfl (Yld.nilCheck rfl rfl) (fun w hI => hI.pick (is := [0, 1]) (by decide) rfl) ?_
                        refine AnyJ.take (fuel := 4) (listed' := #[true, true, true, true, true, true, false, false, false, false]) 5 rfl (by kernel_rfl) (by kernel_rfl) (by kernel_rfl) rfl rfl rfl rfl (Yld.fieldAddr fa_103_1 rfl rfl) (fun w hI => hI.pick (is := [0, 1]) (by decide) rfl) ?_
                        refine AnyJ.take (fuel := 3) (listed' := #[true, true, true, true, true, true, true, false, false, false]) 6 rfl (by kernel_rfl) (by kernel_rfl) (by kernel_rfl) rfl rfl rfl rfl (Yld.load1 rfl Tryd.underlying5 rfl rfl (fun w hI => hI.old hlenC hbq)) (fun w hI => hI.pick (is := [0, 1]) (by decide) rfl) ?_
                        refine AnyJ.take (fuel := 2) (listed' := #[true, true, true, true, true, true, true, true, false, false]) 7 rfl (by kernel_rfl) (by kernel_rfl) (by kernel_rfl) rfl rfl rfl rfl (Yld.sliceArrTo rfl Tryd.underlying101 sz_5 rfl rfl (by omega)) (fun w hI => hI.pick (is := [0, 1]) (by decide) rfl) ?_
                        refine AnyJ.take (fuel := 1) (listed' := #[true, true, true, true, true, true, true, true, true, false]) 8 rfl (by kernel_rfl) (by kernel_rfl) (by kernel_rfl) rfl rfl rfl rfl (Yld.bytesStr (bs := l) rfl rfl Tryd.underlying29 Tryd.underlying5 Tryd.underlying9 rfl (fun w hI => hI.old hall hbq)) (fun w hI => hI.pick (is := [0, 1]) (by decide) rfl) ?_
                        refine AnyJ.take (fuel := 0) (listed' := #[true, true, true, true, true, true, true, true, true, true]) 9 rfl (by kernel_rfl) (by kernel_rfl) (by kernel_rfl) rfl rfl rfl rfl (Yld.assign rfl rfl) (fun w hI => hI.pick (is := [0, 1]) (by decide) rfl) ?_
                        refine AnyJ.done (by kernel_rfl) ?_
                        refine ExJ.thenN ?_
                        refine CodeJ.region ?_
                        refine OpsJ.yld rfl rfl rfl (Yld.move rfl rfl) ?_
                        refine OpsJ.yld rfl rfl rfl (Yld.move rfl rfl) ?_
                        refine OpsJ.yld rfl rfl rfl (Yld.move rfl rfl) ?_
                        refine OpsJ.yld rfl rfl rfl (Yld.sliceStr (s := ⟨l.toArray⟩) rfl Tryd.underlying9 rfl rfl hi) ?_
                        refine OpsJ.yld rfl rfl rfl (Yld.move rfl rfl) ?_
                        refine OpsJ.yld rfl rfl rfl (Yld.convInt rfl Tryd.underlying3 Tryd.underlying22 rfl) ?_
                        rw [u16_wrap]
                        refine OpsJ.op rfl ?_
                        refine OpJ.mapNew (i := 1) (k := l.drop i) mapT rfl rfl rfl rfl rfl rfl hq ?_
                        refine OpsJ.nil ?_
                        refine ExJ.blockN ?_
                        refine ExJ.thenN ?_
                        refine CodeJ.region ?_
                        refine OpsJ.yld rfl rfl rfl (Yld.move rfl rfl) ?_
                        refine OpsJ.yld rfl rfl rfl (Yld.intBin rfl rfl rfl rfl) ?_
                        rw [i64_succ _ (by omega)]
                        refine OpsJ.yld rfl rfl rfl (Yld.assign rfl rfl) ?_
                        refine OpsJ.nil ?_
                        exact ExJ.againP ⟨i + 1, lab ++ [x], ys, m' ++ [(x :: l.drop (i + 1), bs'.length - off + ys.length)], p', c', ⟨l.toArray⟩, by omega, hpk, hlab', by simp; omega, hiff', .inr rfl, by simp; omega, hm2, rfl, rfl, rfl⟩ (by omega) ⟨rfl, rfl, rfl, rfl, rfl, rfl, rfl, by rw [hb0]; rfl, trivial⟩ fun w hI => by rw [← hdrop, ← hmod]; exact hI
                      · obtain rfl : nas = ⟨l.toArray⟩ := by
                          rcases hnas with h | h
                          · subst h
                            simp [toList_eq] at c161
                          · exact h
                        refine CodeJ.skip ?_
                        refine ExJ.thenN ?_
                        refine CodeJ.region ?_
                        refine OpsJ.yld rfl rfl rfl (Yld.move rfl rfl) ?_
                        refine OpsJ.yld rfl rfl rfl (Yld.move rfl rfl) ?_
                        refine OpsJ.yld rfl rfl rfl (Yld.move rfl rfl) ?_
                        refine OpsJ.yld rfl rfl rfl (Yld.sliceStr (s := ⟨l.toArray⟩) rfl Tryd.underlying9 rfl rfl hi) ?_
                        refine OpsJ.yld rfl rfl rfl (Yld.move rfl rfl) ?_
                        refine OpsJ.yld rfl rfl rfl (Yld.convInt rfl Tryd.underlying3 Tryd.underlying22 rfl) ?_
                        rw [u16_wrap]
                        refine OpsJ.op rfl ?_
                        refine OpJ.mapNew (i := 1) (k := l.drop i) mapT rfl rfl rfl rfl rfl rfl hq ?_
                        refine OpsJ.nil ?_
                        refine ExJ.blockN ?_
                        refine ExJ.thenN ?_
                        refine CodeJ.region ?_
                        refine OpsJ.yld rfl rfl rfl (Yld.move rfl rfl) ?_
                        refine OpsJ.yld rfl rfl rfl (Yld.intBin rfl rfl rfl rfl) ?_
                        rw [i64_succ _ (by omega)]
                        refine OpsJ.yld rfl rfl rfl (Yld.assign rfl rfl) ?_
                        refine OpsJ.nil ?_
                        exact ExJ.againP ⟨i + 1, lab ++ [x], ys, m' ++ [(x :: l.drop (i + 1), bs'.length - off + ys.length)], p', c', ⟨l.toArray⟩, by omega, hpk, hlab', by simp; omega, hiff', .inr rfl, by simp; omega, hm2, rfl, rfl, rfl⟩ (by omega) ⟨rfl, rfl, rfl, rfl, rfl, rfl, rfl, by rw [hb0]; rfl, trivial⟩ fun w hI => by rw [← hdrop, ← hmod]; exact hI
                    · have hfit : ¬ bs'.length - off + ys.length ≤ 16383 := by omega
                      simp only [hfit, if_false] at hpk
                      refine CodeJ.skip ?_
                      refine ExJ.blockN ?_
                      refine ExJ.thenN ?_
                      refine CodeJ.region ?_
                      refine OpsJ.yld rfl rfl rfl (Yld.move rfl rfl) ?_
                      refine OpsJ.yld rfl rfl rfl (Yld.intBin rfl rfl rfl rfl) ?_
                      rw [i64_succ _ (by omega)]
                      refine OpsJ.yld rfl rfl rfl (Yld.assign rfl rfl) ?_
                      refine OpsJ.nil ?_
                      exact ExJ.againP ⟨i + 1, lab ++ [x], ys, m', p', c', nas, by omega, hpk, hlab', by simp; omega, hiff', hnas, by simp; omega, hm', rfl, rfl, rfl⟩ (by omega) ⟨rfl, rfl, rfl, rfl, rfl, rfl, rfl, by rw [hb0]; rfl, trivial⟩ fun w hI => hI
                · rw [if_neg (fun h => by rw [c128] at h; exact absurd h.2 (by decide))] at hpk
                  refine CodeJ.skip ?_
                  refine ExJ.blockN ?_
                  refine ExJ.thenN ?_
                  refine CodeJ.region ?_
                  refine OpsJ.yld rfl rfl rfl (Yld.move rfl rfl) ?_
                  refine OpsJ.yld rfl rfl rfl (Yld.intBin rfl rfl rfl rfl) ?_
                  rw [i64_succ _ (by omega)]
                  refine OpsJ.yld rfl rfl rfl (Yld.assign rfl rfl) ?_
                  refine OpsJ.nil ?_
                  exact ExJ.againP ⟨i + 1, lab ++ [x], ys, m', p', c', nas, by omega, hpk, hlab', by simp; omega, hiff', hnas, by simp; omega, hm', rfl, rfl, rfl⟩ (by omega) ⟨rfl, rfl, rfl, rfl, rfl, rfl, rfl, by rw [hb0]; rfl, trivial⟩ fun w hI => hI
              · have hi0 : ¬ i = 0 := by
                  intro h
                  simp [h] at g115
                obtain ⟨y, hy⟩ : ∃ y, l[i - 1]? = some y := ⟨l[i - 1], List.getElem?_eq_getElem (by omega)⟩
                have hsub1 : IntKind.i64.wrap ((i : Int) - 1) = ((i - 1 : Nat) : Int) := i64_sub i 1 (by omega) (by omega)
                refine OpsJ.opT rfl rfl rfl ?_
                refine OpJ.yld rfl rfl (Yld.move rfl rfl) ?_
                refine OpsJ.opT rfl rfl rfl ?_
                refine OpJ.yld rfl rfl (Yld.move rfl rfl) ?_
                refine OpsJ.opT rfl rfl rfl ?_
                refine OpJ.yld rfl rfl (Yld.intBin rfl rfl rfl rfl) ?_
                rw [hsub1]
                refine OpsJ.opT rfl rfl rfl ?_
                refine OpJ.yld rfl rfl (Yld.nilCheck rfl rfl) ?_
                refine OpsJ.opT rfl rfl rfl ?_
                refine OpJ.yld rfl rfl (Yld.fieldAddr fa_103_0 rfl rfl) ?_
                refine OpsJ.opT rfl rfl rfl ?_
                refine OpJ.yld rfl rfl (Yld.indexAddrArr rfl Tryd.underlying101 sz_5 rfl rfl (by omega)) ?_
                refine OpsJ.opT rfl rfl rfl ?_
                refine OpJ.yld rfl rfl (Yld.load1 rfl Tryd.underlying5 rfl rfl (fun w hI => hI.old (hbyte _ _ hy) hbq)) ?_
                refine OpsJ.opT rfl rfl rfl ?_
                refine OpJ.yld rfl rfl (Yld.intBin rfl rfl rfl rfl) ?_
                refine OpsJ.yld rfl rfl rfl (Yld.pickF rfl rfl rfl) ?_
                refine OpsJ.yld rfl rfl rfl (Yld.move rfl rfl) ?_
                refine OpsJ.splitB (s := 125) rfl (fun g125 => ?_) (fun g125 => ?_)
                · have hnil : lab = [] := hlab0.2 (.inr (by rw [hy, (dotE y).1 g125]))
                  refine OpsJ.opT rfl rfl rfl ?_
                  refine OpJ.yld rfl rfl (Yld.move rfl rfl) ?_
                  refine OpsJ.opT rfl rfl rfl ?_
                  refine OpJ.yld rfl rfl (Yld.mapNeNil rfl Tryd.underlying87 rfl) ?_
                  refine OpsJ.yld rfl rfl rfl (Yld.pickT rfl rfl rfl) ?_
                  refine OpsJ.nil ?_
                  refine ExJ.thenN ?_
                  refine CodeJ.cond rfl (fun c128 => ?_) (fun c128 => ?_)
                  · obtain ⟨bm, rfl⟩ := Option.isSome_iff_exists.1 c128
                    rw [if_pos ⟨hnil, rfl⟩, ← hdrop] at hpk
                    refine CodeJ.seq ?_
                    refine CodeJ.seq ?_
                    refine CodeJ.any (fuel := 17) (listed := #[false, false, false, false, false, false, false, false, false, false, false, false, false, false, false, false, false]) [0, 1] rfl follows_mixed rfl rfl ?_
                    refine AnyJ.take (fuel := 16) (listed' := #[true, false, false, false, false, false, false, false, false, false, false, false, false, false, false, false, false]) 0 rfl (by kernel_rfl) (by kernel_rfl) (by kernel_rfl) rfl rfl rfl rfl (Yld.move rfl rfl) (fun w hI => hI.pick (is := [0, 1]) (by decide) rfl) ?_
                    refine AnyJ.take (fuel := 15) (listed' := #[true, true, false, false, false, false, false, false, false, false, false, false, false, false, false, false, false]) 1 rfl (by kernel_rfl) (by kernel_rfl) (by kernel_rfl) rfl rfl rfl rfl (Yld.move rfl rfl) (fun w hI => hI.pick (is := [0, 1]) (by decide) rfl) ?_
                    refine AnyJ.take (fuel := 14) (listed' := #[true, true, true, false, false, false, false, false, false, false, false, false, false, false, false, false, false]) 2 rfl (by kernel_rfl) (by kernel_rfl) (by kernel_rfl) rfl rfl rfl rfl (Yld.nilCheck rfl rfl) (fun w hI => hI.pick (is := [0, 1]) (by decide) rfl) ?_
                    refine AnyJ.take (fuel := 13) (listed' := #[true, true, true, true, false, false, false, false, false, false, false, false, false, false, false, false, false]) 3 rfl (by kernel_rfl) (by kernel_rfl) (by kernel_rfl) rfl rfl rfl rfl (Yld.fieldAddr fa_103_0 rfl rfl) (fun w hI => hI.pick (is := [0, 1]) (by decide) rfl) ?_
                    refine AnyJ.take (fuel := 12) (listed' := #[true, true, true, true, true, false, false, false, false, false, false, false, false, false, false, false, false]) 4 rfl (by kernel_rfl) (by kernel_rfl) (by kernel_rfl) rfl rfl rfl rfl (Yld.move rfl rfl) (fun w hI => hI.pick (is := [0, 1]) (by decide) rfl) ?_
                    refine AnyJ.take (fuel := 11) (listed' := #[true, true, true, true, true, true, false, false, false, false, false, false, false, false, false, false, false]) 5 rfl (by kernel_rfl) (by kernel_rfl) (by kernel_rfl) rfl rfl rfl rfl (Yld.move rfl rfl) (fun w hI => hI.pick (is := [0, 1]) (by decide) rfl) ?_
                    refine AnyJ.take (fuel := 10) (listed' := #[true, true, true, true, true, true, true, false, false, false, false, false, false, false, false, false, false]) 6 rfl (by kernel_rfl) (by kernel_rfl) (by kernel_rfl) rfl rfl rfl rfl (Yld.nilCheck rfl rfl) (fun w hI => hI.pick (is := [0, 1]) (by decide) rfl) ?_
                    refine AnyJ.take (fuel := 9) (listed' := #[true, true, true, true, true, true, true, true, false, false, false, false, false, false, false, false, false]) 7 rfl (by kernel_rfl) (by kernel_rfl) (by kernel_rfl) rfl rfl rfl rfl (Yld.fieldAddr fa_103_1 rfl rfl) (fun w hI => hI.pick (is := [0, 1]) (by decide) rfl) ?_
                    refine AnyJ.take (fuel := 8) (listed' := #[true, true, true, true, true, true, true, true, true, false, false, false, false, false, false, false, false]) 8 rfl (by kernel_rfl) (by kernel_rfl) (by kernel_rfl) rfl rfl rfl rfl (Yld.load1 rfl Tryd.underlying5 rfl rfl (fun w hI => hI.old hlenC hbq)) (fun w hI => hI.pick (is := [0, 1]) (by decide) rfl) ?_
                    refine AnyJ.take (fuel := 7) (listed' := #[true, true, true, true, true, true, true, true, true, true, false, false, false, false, false, false, false]) 9 rfl (by kernel_rfl) (by kernel_rfl) (by kernel_rfl) rfl rfl rfl rfl (Yld.sliceArr rfl Tryd.underlying101 sz_5 rfl rfl rfl hi (by omega) (by omega)) (fun w hI => hI.pick (is := [0, 1]) (by decide) rfl) ?_
                    refine AnyJ.take (fuel := 6) (listed' := #[true, true, true, true, true, true, true, true, true, true, true, false, false, false, false, false, false]) 10 rfl (by kernel_rfl) (by kernel_rfl) (by kernel_rfl) rfl rfl rfl rfl (Yld.bytesStr (bs := l.drop i) (by simp) rfl Tryd.underlying29 Tryd.underlying5 Tryd.underlying9 rfl (fun w hI => hI.old hsuf hbq)) (fun w hI => hI.pick (is := [0, 1]) (by decide) rfl) ?_
                    refine AnyJ.take (fuel := 5) (listed' := #[true, true, true, true, true, true, true, true, true, true, true, true, false, false, false, false, false]) 11 rfl (by kernel_rfl) (by kernel_rfl) (by kernel_rfl) rfl rfl rfl rfl (Yld.lookupOk mapT rfl rfl rfl (fun w hI => hI.hs _ (List.mem_of_getElem? (i := 1) rfl))) (fun w hI => hI.pick (is := [0, 1]) (by decide) rfl) ?_
                    refine AnyJ.take (fuel := 4) (listed' := #[true, true, true, true, true, true, true, true, true, true, true, true, true, false, false, false, false]) 12 rfl (by kernel_rfl) (by kernel_rfl) (by kernel_rfl) rfl rfl rfl rfl (Yld.move rfl rfl) (fun w hI => hI.pick (is := [0, 1]) (by decide) rfl) ?_
                    refine AnyJ.take (fuel := 3) (listed' := #[true, true, true, true, true, true, true, true, true, true, true, true, true, true, false, false, false]) 13 rfl (by kernel_rfl) (by kernel_rfl) (by kernel_rfl) rfl rfl rfl rfl (Yld.extract rfl rfl rfl) (fun w hI => hI.pick (is := [0, 1]) (by decide) rfl) ?_
                    refine AnyJ.take (fuel := 2) (listed' := #[true, true, true, true, true, true, true, true, true, true, true, true, true, true, true, false, false]) 14 rfl (by kernel_rfl) (by kernel_rfl) (by kernel_rfl) rfl rfl rfl rfl (Yld.extract rfl rfl rfl) (fun w hI => hI.pick (is := [0, 1]) (by decide) rfl) ?_
                    refine AnyJ.take (fuel := 1) (listed' := #[true, true, true, true, true, true, true, true, true, true, true, true, true, true, true, true, false]) 15 rfl (by kernel_rfl) (by kernel_rfl) (by kernel_rfl) rfl rfl rfl rfl (Yld.assign rfl rfl) (fun w hI => hI.pick (is := [0, 1]) (by decide) rfl) ?_
                    refine AnyJ.take (fuel := 0) (listed' := #[true, true, true, true, true, true, true, true, true, true, true, true, true, true, true, true, true]) 16 rfl (by kernel_rfl) (by kernel_rfl) (by kernel_rfl) rfl rfl rfl rfl (Yld.assign rfl rfl) (fun w hI => hI.pick (is := [0, 1]) (by decide) rfl) ?_
                    refine AnyJ.done (by kernel_rfl) ?_
                    refine ExJ.thenN ?_
                    refine CodeJ.seq ?_
                    refine CodeJ.region ?_
                    refine OpsJ.yld rfl rfl rfl (Yld.move rfl rfl) ?_
                    refine OpsJ.nil ?_
                    refine ExJ.thenN ?_
                    refine CodeJ.cond rfl (fun c144 => ?_) (fun c144 => ?_)
                    · obtain ⟨q, hq⟩ := Option.isSome_iff_exists.1 c144
                      rw [hq] at hpk ⊢
                      have hq2 : q < 65536 := by
                        have := lookup_mem hq
                        exact hm' _ this
                      refine CodeJ.seq ?_
                      refine CodeJ.region ?_
                      refine OpsJ.yld rfl rfl rfl (Yld.move rfl rfl) ?_
                      refine OpsJ.yld rfl rfl rfl (Yld.move rfl rfl) ?_
                      refine OpsJ.yld rfl rfl rfl (Yld.shr rfl rfl rfl (by decide)) ?_
                      rw [shr8]
                      refine OpsJ.yld rfl rfl rfl (Yld.intBin rfl rfl rfl rfl) ?_
                      refine OpsJ.yld rfl rfl rfl (Yld.convInt rfl Tryd.underlying22 Tryd.underlying5 rfl) ?_
                      rw [ptr_hi ((some q).getD 0) hq2]
                      refine OpsJ.yld rfl rfl rfl (Yld.move rfl rfl) ?_
                      refine OpsJ.yld rfl rfl rfl (Yld.convInt rfl Tryd.underlying22 Tryd.underlying5 rfl) ?_
                      rw [u8_wrap]
                      refine OpsJ.op rfl ?_
                      refine OpJ.buildSlice (xs := [.tmp 149, .tmp 151]) elt_29 rfl rfl rfl rfl rfl rfl (by rfl) (by decide) fun two htwo => ?_
                      refine OpsJ.op rfl ?_
                      refine OpJ.appendB (i := 1) (news := ptrB q) elt_29 rfl rfl rfl rfl rfl rfl (fun w hI => Bytes.src (Inv.bytes (k := 0) rfl w hI) Tryd.underlying29) (by simp [ptrB]; omega) fun p153 c153 => ?_
                      refine OpsJ.yld rfl rfl rfl (Yld.assign rfl rfl) ?_
                      refine OpsJ.yld rfl rfl rfl (Yld.assign rfl rfl) ?_
                      refine OpsJ.nil ?_
                      refine ExJ.thenN ?_
                      refine CodeJ.ret ?_
                      refine ExJ.thenR ?_
                      refine ExJ.blockR ?_
                      refine ExJ.thenR ?_
                      refine ExJ.thenR ?_
                      refine ExJ.blockR ?_
                      refine ExJ.thenR ?_
                      refine ExJ.ret2 Tryd.results63 rfl rfl ?_ fun w hI => hI.pick (is := [1, 2]) (by decide) rfl
                      rw [packN_pk _ _ _ _ hne, hpk]
                      exact ⟨_, _, by rw [List.append_assoc], by rw [List.append_assoc]⟩
                    · have hq : m'.lookup (l.drop i) = none := by simpa using c144
                      rw [hq] at hpk
                      refine CodeJ.skip ?_
                      refine ExJ.thenN ?_
                      refine CodeJ.seq ?_
                      refine CodeJ.region ?_
                      refine OpsJ.yld rfl rfl rfl (Yld.move rfl rfl) ?_
                      refine OpsJ.yld rfl rfl rfl (Yld.lenSlice rfl rfl rfl Tryd.underlying29 rfl) ?_
                      refine OpsJ.yld rfl rfl rfl (Yld.move rfl rfl) ?_
                      refine OpsJ.yld rfl rfl rfl (Yld.intBin rfl rfl rfl rfl) ?_
                      rw [i64_sub _ _ (by omega) (by omega)]
                      refine OpsJ.yld rfl rfl rfl (Yld.assign rfl rfl) ?_
                      refine OpsJ.nil ?_
                      refine ExJ.thenN ?_
                      refine CodeJ.seq ?_
                      refine CodeJ.region ?_
                      refine OpsJ.yld rfl rfl rfl (Yld.move rfl rfl) ?_
                      refine OpsJ.yld rfl rfl rfl (Yld.intBin rfl rfl rfl rfl) ?_
                      refine OpsJ.nil ?_
                      refine ExJ.thenN ?_
                      refine CodeJ.condP rfl (fun c159 => ?_) (fun c159 => ?_)
                      · have hfit : bs'.length - off + ys.length ≤ 16383 := by omega
                        have hmod : ((bs' ++ ys).length - off) % 65536 = bs'.length - off + ys.length := by omega
                        have hpk0 := hpk
                        simp only [hfit, if_true] at hpk
                        rw [hdrop] at hpk
                        have hm2 : ∀ z ∈ m' ++ [(x :: l.drop (i + 1), bs'.length - off + ys.length)], z.2 < 65536 := fun z hz => by
                          rcases List.mem_append.1 hz with h | h
                          · exact hm' z h
                          · simp at h
                            subst h
                            simp
                            omega
                        refine CodeJ.seq ?_
                        refine CodeJ.seq ?_
                        refine CodeJ.region ?_
                        refine OpsJ.yld rfl rfl rfl (Yld.move rfl rfl) ?_
                        refine OpsJ.yld rfl rfl rfl (Yld.strEq rfl rfl rfl) ?_
                        refine OpsJ.nil ?_
                        refine ExJ.thenN ?_
                        refine CodeJ.cond rfl (fun c161 => ?_) (fun c161 => ?_)
                        · refine CodeJ.any (fuel := 10) (listed := #[false, false, false, false, false, false, false, false, false, false]) [0, 1] rfl follows_mixed rfl rfl ?_
                          refine AnyJ.take (fuel := 9) (listed' := #[true, false, false, false, false, false, false, false, false, false]) 0 rfl (by kernel_rfl) (by kernel_rfl) (by kernel_rfl) rfl rfl rfl rfl (Yld.move rfl rfl) (fun w hI => hI.pick (is := [0, 1]) (by decide) rfl) ?_
                          refine AnyJ.take (fuel := 8) (listed' := #[true, true, false, false, false, false, false, false, false, false]) 1 rfl (by kernel_rfl) (by kernel_rfl) (by kernel_rfl) rfl rfl rfl rfl (Yld.nilCheck rfl rfl) (fun w hI => hI.pick (is := [0, 1]) (by decide) rfl) ?_
                          refine AnyJ.take (fuel := 7) (listed' := #[true, true, true, false, false, false, false, false, false, false]) 2 rfl (by kernel_rfl) (by kernel_rfl) (by kernel_rfl) rfl rfl rfl rfl (Yld.fieldAddr fa_103_0 rfl rfl) (fun w hI => hI.pick (is := [0, 1]) (by decide) rfl) ?_
                          refine AnyJ.take (fuel := 6) (listed' := #[true, true, true, true, false, false, false, false, false, false]) 3 rfl (by kernel_rfl) (by kernel_rfl) (by kernel_rfl) rfl rfl rfl rfl (Yld.move rfl rfl) (fun w hI => hI.pick (is := [0, 1]) (by decide) rfl) ?_
                          refine AnyJ.take (fuel := 5) (listed' := #[true, true, true, true, true, false, false, false, false, false]) 4 rfl (by kernel_rfl) (by kernel_rfl) (by kernel_rfl) rfl rfl rfl rfl (Yld.nilCheck rfl rfl) (fun w hI => hI.pick (is := [0, 1]) (by decide) rfl) ?_
                          refine AnyJ.take (fuel := 4) (listed' := #[true, true, true, true, true, true, false, false, false, false]) 5 rfl (by kernel_rfl) (by kernel_rfl) (by kernel_rfl) rfl rfl rfl rfl (Yld.fieldAddr fa_103_1 rfl rfl) (fun w hI => hI.pick (is := [0, 1]) (by decide) rfl) ?_
                          refine AnyJ.take (fuel := 3) (listed' := #[true, true, true, true, true, true, true, false, false, false]) 6 rfl (by kernel_rfl) (by kernel_rfl) (by kernel_rfl) rfl rfl rfl rfl (Yld.load1 rfl Tryd.underlying5 rfl rfl (fun w hI => hI.old hlenC hbq)) (fun w hI => hI.pick (is := [0, 1]) (by decide) rfl) ?_
                          refine AnyJ.take (fuel := 2) (listed' := #[true, true, true, true, true, true, true, true, false, false]) 7 rfl (by kernel_rfl) (by kernel_rfl) (by kernel_rfl) rfl rfl rfl rfl (Yld.sliceArrTo rfl Tryd.underlying101 sz_5 rfl rfl (by omega)) (fun w hI => hI.pick (is := [0, 1]) (by decide) rfl) ?_
                          refine AnyJ.take (fuel := 1) (listed' := #[true, true, true, true, true, true, true, true, true, false]) 8 rfl (by kernel_rfl) (by kernel_rfl) (by kernel_rfl) rfl rfl rfl rfl (Yld.bytesStr (bs := l) rfl rfl Tryd.underlying29 Tryd.underlying5 Tryd.underlying9 rfl (fun w hI => hI.old hall hbq)) (fun w hI => hI.pick (is := [0, 1]) (by decide) rfl) ?_
                          refine AnyJ.take (fuel := 0) (listed' := #[true, true, true, true, true, true, true, true, true, true]) 9 rfl (by kernel_rfl) (by kernel_rfl) (by kernel_rfl) rfl rfl rfl rfl (Yld.assign rfl rfl) (fun w hI => hI.pick (is := [0, 1]) (by decide) rfl) ?_
                          refine AnyJ.done (by kernel_rfl) ?_
                          refine ExJ.thenN ?_
                          refine CodeJ.region ?_
                          refine OpsJ.yld rfl rfl rfl (Yld.move rfl rfl) ?_
                          refine OpsJ.yld rfl rfl rfl (Yld.move rfl rfl) ?_
                          refine OpsJ.yld rfl rfl rfl (Yld.move rfl rfl) ?_
                          refine OpsJ.yld rfl rfl rfl (Yld.sliceStr (s := ⟨l.toArray⟩) rfl Tryd.underlying9 rfl rfl hi) ?_
                          refine OpsJ.yld rfl rfl rfl (Yld.move rfl rfl) ?_
                          refine OpsJ.yld rfl rfl rfl (Yld.convInt rfl Tryd.underlying3 Tryd.underlying22 rfl) ?_
                          rw [u16_wrap]
                          refine OpsJ.op rfl ?_
                          refine OpJ.mapNew (i := 1) (k := l.drop i) mapT rfl rfl rfl rfl rfl rfl hq ?_
                          refine OpsJ.nil ?_
                          refine ExJ.blockN ?_
                          refine ExJ.thenN ?_
                          refine CodeJ.region ?_
                          refine OpsJ.yld rfl rfl rfl (Yld.move rfl rfl) ?_
                          refine OpsJ.yld rfl rfl rfl (Yld.intBin rfl rfl rfl rfl) ?_
                          rw [i64_succ _ (by omega)]
                          refine OpsJ.yld rfl rfl rfl (Yld.assign rfl rfl) ?_
                          refine OpsJ.nil ?_
                          exact ExJ.againP ⟨i + 1, lab ++ [x], ys, m' ++ [(x :: l.drop (i + 1), bs'.length - off + ys.length)], p', c', ⟨l.toArray⟩, by omega, hpk, hlab', by simp; omega, hiff', .inr rfl, by simp; omega, hm2, rfl, rfl, rfl⟩ (by omega) ⟨rfl, rfl, rfl, rfl, rfl, rfl, rfl, by rw [hb0]; rfl, trivial⟩ fun w hI => by rw [← hdrop, ← hmod]; exact hI
                        · obtain rfl : nas = ⟨l.toArray⟩ := by
                            rcases hnas with h | h
                            · subst h
                              simp [toList_eq] at c161
                            · exact h
                          refine CodeJ.skip ?_
                          refine ExJ.thenN ?_
                          refine CodeJ.region ?_
                          refine OpsJ.yld rfl rfl rfl (Yld.move rfl rfl) ?_
                          refine OpsJ.yld rfl rfl rfl (Yld.move rfl rfl) ?_
                          refine OpsJ.yld rfl rfl rfl (Yld.move rfl rfl) ?_
                          refine OpsJ.yld rfl rfl rfl (Yld.sliceStr (s := ⟨l.toArray⟩) rfl Tryd.underlying9 rfl rfl hi) ?_
                          refine OpsJ.yld rfl rfl rfl (Yld.move rfl rfl) ?_
                          refine OpsJ.yld rfl rfl rfl (Yld.convInt rfl Tryd.underlying3 Tryd.underlying22 rfl) ?_
                          rw [u16_wrap]
                          refine OpsJ.op rfl ?_
                          refine OpJ.mapNew (i := 1) (k := l.drop i) mapT rfl rfl rfl rfl rfl rfl hq ?_
                          refine OpsJ.nil ?_
                          refine ExJ.blockN ?_
                          refine ExJ.thenN ?_
                          refine CodeJ.region ?_
                          refine OpsJ.yld rfl rfl rfl (Yld.move rfl rfl) ?_
                          refine OpsJ.yld rfl rfl rfl (Yld.intBin rfl rfl rfl rfl) ?_
                          rw [i64_succ _ (by omega)]
                          refine OpsJ.yld rfl rfl rfl (Yld.assign rfl rfl) ?_
                          refine OpsJ.nil ?_
                          exact ExJ.againP ⟨i + 1, lab ++ [x], ys, m' ++ [(x :: l.drop (i + 1), bs'.length - off + ys.length)], p', c', ⟨l.toArray⟩, by omega, hpk, hlab', by simp; omega, hiff', .inr rfl, by simp; omega, hm2, rfl, rfl, rfl⟩ (by omega) ⟨rfl, rfl, rfl, rfl, rfl, rfl, rfl, by rw [hb0]; rfl, trivial⟩ fun w hI => by rw [← hdrop, ← hmod]; exact hI
                      · have hfit : ¬ bs'.length - off + ys.length ≤ 16383 := by omega
                        simp only [hfit, if_false] at hpk
                        refine CodeJ.skip ?_
                        refine ExJ.blockN ?_
                        refine ExJ.thenN ?_
                        refine CodeJ.region ?_
                        refine OpsJ.yld rfl rfl rfl (Yld.move rfl rfl) ?_
                        refine OpsJ.yld rfl rfl rfl (Yld.intBin rfl rfl rfl rfl) ?_
                        rw [i64_succ _ (by omega)]
                        refine OpsJ.yld rfl rfl rfl (Yld.assign rfl rfl) ?_
                        refine OpsJ.nil ?_
                        exact ExJ.againP ⟨i + 1, lab ++ [x], ys, m', p', c', nas, by omega, hpk, hlab', by simp; omega, hiff', hnas, by simp; omega, hm', rfl, rfl, rfl⟩ (by omega) ⟨rfl, rfl, rfl, rfl, rfl, rfl, rfl, by rw [hb0]; rfl, trivial⟩ fun w hI => hI
                  · rw [if_neg (fun h => by rw [c128] at h; exact absurd h.2 (by decide))] at hpk
                    refine CodeJ.skip ?_
                    refine ExJ.blockN ?_
                    refine ExJ.thenN ?_
                    refine CodeJ.region ?_
                    refine OpsJ.yld rfl rfl rfl (Yld.move rfl rfl) ?_
                    refine OpsJ.yld rfl rfl rfl (Yld.intBin rfl rfl rfl rfl) ?_
                    rw [i64_succ _ (by omega)]
                    refine OpsJ.yld rfl rfl rfl (Yld.assign rfl rfl) ?_
                    refine OpsJ.nil ?_
                    exact ExJ.againP ⟨i + 1, lab ++ [x], ys, m', p', c', nas, by omega, hpk, hlab', by simp; omega, hiff', hnas, by simp; omega, hm', rfl, rfl, rfl⟩ (by omega) ⟨rfl, rfl, rfl, rfl, rfl, rfl, rfl, by rw [hb0]; rfl, trivial⟩ fun w hI => hI
                · have hnn : ¬ lab = [] := fun h => by
                    rcases hlab0.1 h with h1 | h1
                    · exact hi0 h1
                    · rw [hy] at h1
                      exact (dotE' y).1 g125 (by simpa using h1)
                  rw [if_neg (fun h => hnn h.1)] at hpk
                  refine OpsJ.opF rfl rfl rfl rfl rfl rfl ?_
                  refine OpsJ.opF rfl rfl rfl rfl rfl rfl ?_
                  refine OpsJ.yld rfl rfl rfl (Yld.pickF rfl rfl rfl) ?_
                  refine OpsJ.nil ?_
                  refine ExJ.thenN ?_
                  refine CodeJ.condF rfl ?_
                  refine CodeJ.skip ?_
                  refine ExJ.blockN ?_
                  refine ExJ.thenN ?_
                  refine CodeJ.region ?_
                  refine OpsJ.yld rfl rfl rfl (Yld.move rfl rfl) ?_
                  refine OpsJ.yld rfl rfl rfl (Yld.intBin rfl rfl rfl rfl) ?_
                  rw [i64_succ _ (by omega)]
                  refine OpsJ.yld rfl rfl rfl (Yld.assign rfl rfl) ?_
                  refine OpsJ.nil ?_
                  exact ExJ.againP ⟨i + 1, lab ++ [x], ys, m', p', c', nas, by omega, hpk, hlab', by simp; omega, hiff', hnas, by simp; omega, hm', rfl, rfl, rfl⟩ (by omega) ⟨rfl, rfl, rfl, rfl, rfl, rfl, rfl, by rw [hb0]; rfl, trivial⟩ fun w hI => hI
          · obtain rfl : i = l.length := by omega
            rw [List.drop_length, pk] at hpk
            have hbl : (bs' ++ ys).length = bs'.length + ys.length := List.length_append
            refine CodeJ.exit ?_
            refine ExJ.thenX ?_
            refine ExJ.thenX ?_
            refine ExJ.blockHit ?_
            refine ExJ.thenN ?_
            refine CodeJ.seq ?_
            refine CodeJ.region ?_
            refine OpsJ.yld rfl rfl rfl (Yld.move rfl rfl) ?_
            refine OpsJ.op rfl ?_
            refine OpJ.buildSlice (xs := [.const (Go.Value.int Go.IntKind.u8 0)]) elt_29 rfl rfl rfl rfl rfl rfl (by rfl) (by decide) fun one hone => ?_
            refine OpsJ.op rfl ?_
            refine OpJ.appendB (i := 1) (news := [0]) elt_29 rfl rfl rfl rfl rfl rfl (fun w hI => Bytes.src (Inv.bytes (k := 0) rfl w hI) Tryd.underlying29) (by simp; omega) fun p179 c179 => ?_
            refine OpsJ.yld rfl rfl rfl (Yld.assign rfl rfl) ?_
            refine OpsJ.yld rfl rfl rfl (Yld.assign rfl rfl) ?_
            refine OpsJ.nil ?_
            refine ExJ.thenN ?_
            refine CodeJ.ret ?_
            refine ExJ.ret2 Tryd.results63 rfl rfl ?_ fun w hI => hI.pick (is := [1, 2]) (by decide) rfl
            rw [packN_pk _ _ _ _ hne, hpk]
            exact ⟨_, _, by rw [List.append_assoc], by rw [List.append_assoc]⟩
end Go.Proofs.YtdiememgbnplkaaDoor
