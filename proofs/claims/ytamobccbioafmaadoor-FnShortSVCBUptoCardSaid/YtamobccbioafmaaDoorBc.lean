/-
  Contracts of the package: names.
-/
import Derived.Test.YtamobccbioafmaaDoorBb
import Derived.Test.YtamobccbioafmaaDoorBa
namespace Go.Proofs.YtamobccbioafmaaDoor
open Go
set_option maxRecDepth 100000

/-- the error variables that every law's code reads -/
def gBase (g : Nat) : Bool := [0, 1, 9, 10, 11, 5, 3, 4, 2, 12].contains g
/-- where the errors lie, and which other error variables are read -/
structure GEnv where
  adr : Nat → Addr
  more : List Nat
instance : CoeFun GEnv (fun _ => Nat → Addr) := ⟨GEnv.adr⟩
def gAll (G : GEnv) (g : Nat) : Bool := gBase g || G.more.contains g
/-- the program's error variables hold errors; none of them lies among the blocks S -/
structure GE (G : GEnv) (w : World) (S : List Nat) : Prop where
  out' : ∀ g, gAll G g = true → g ∉ S
  at' : ∀ g, gAll G g = true → Cells w g 0 [.iface 183 (.pointer (some (G.adr g)))]
theorem gAll_base {G : GEnv} {g : Nat} (h : gBase g = true) : gAll G g = true := by rw [gAll, h]; rfl
theorem gAll_more {G : GEnv} {g : Nat} (h : G.more.contains g = true) : gAll G g = true := by rw [gAll, h]; exact Bool.or_true _
theorem GE.at_ {G : GEnv} {w : World} {S : List Nat} (h : GE G w S) (g : Nat) (hg : gBase g = true) : Cells w g 0 [.iface 183 (.pointer (some (G.adr g)))] := h.at' g (gAll_base hg)
theorem GE.out {G : GEnv} {w : World} {S : List Nat} (h : GE G w S) (g : Nat) (hg : gBase g = true) : g ∉ S := h.out' g (gAll_base hg)
/-- it goes on to a call -/
theorem GE.call {G : GEnv} {w0 w : World} {S : List Nat} {H Hp : List Res} (h : GE G w0 S) (hI : Inv w0 S H w) {is : List Nat} (hp : pick H is = some Hp) : GE G w (fp Hp) := by
  refine ⟨fun g hg hb => ?_, fun g hg => hI.old (h.at' g hg) (h.out' g hg)⟩
  obtain ⟨r, hr, hbr⟩ := List.mem_flatMap.1 hb
  obtain ⟨i, _, hi⟩ := pick_mem hp r hr
  rcases hI.rng r (List.mem_of_getElem? hi) g hbr with h1 | h1
  · exact h.out' g hg h1
  · have := (h.at' g hg).lt
    omega
/-- a block is none of those that are handed to a call -/
theorem Inv.apart {w0 w : World} {S : List Nat} {H Hp : List Res} (hI : Inv w0 S H w) {i : Nat} {r : Res} (hi : H[i]? = some r) {is : List Nat} (hn : (i :: is).Nodup) (hp : Proofs.YtamobccbioafmaaDoor.pick H is = some Hp) : ∀ b ∈ r.ats, b ∉ fp Hp := fun b hb hb' => by
  obtain ⟨s, hs, hbs⟩ := List.mem_flatMap.1 hb'
  obtain ⟨j, hj, hj'⟩ := pick_mem hp s hs
  have hij : i ≠ j := fun e => (List.nodup_cons.1 hn).1 (e ▸ hj)
  have pw := List.pairwise_iff_getElem.1 hI.dj
  have il := (List.getElem?_eq_some_iff.1 hi)
  have jl := (List.getElem?_eq_some_iff.1 hj')
  rcases Nat.lt_or_ge i j with h1 | h1
  · have := pw i j il.1 jl.1 h1
    rw [il.2, jl.2] at this
    exact this b hb hbs
  · have := pw j i jl.1 il.1 (by omega)
    rw [il.2, jl.2] at this
    exact this b hbs hb

/-- what packing returns -/
def PackPost (T : TypeId) (v : Value) (bs bs' : List UInt8) (r : Option Nat) : PkRes → Value → List Res → Prop
  | .ok ys m, x, H' => ∃ p c, x = .tuple #[.slice p (bs' ++ ys).length c, .nilIface] ∧ H' = [appB T v bs (.slice p (bs' ++ ys).length c) (bs' ++ ys), .mp r (kvV m)]
  | .err m, x, H' => ∃ u t e, x = .tuple #[u, .iface t e] ∧ H' = [ownB T v bs, .mp r (kvV m)]

theorem i64_sub (x y : Nat) (h : y ≤ x) (hx : x ≤ 9223372036854775807) : IntKind.i64.wrap ((x : Int) - (y : Int)) = ((x - y : Nat) : Int) := by
  rw [← i64_wrap (x - y) (by omega)]
  congr 1
  omega
theorem u8_sub1 (x : Nat) (h : 1 ≤ x) (hx : x ≤ 255) : IntKind.u8.wrap ((x : Int) - 1) = ((x - 1 : Nat) : Int) := by
  have : (x : Int) - 1 = ((x - 1 : Nat) : Int) := by omega
  rw [this]
  exact IntWalk.u8_in _ (by omega)
theorem take_drop_snoc (l : List UInt8) (b j : Nat) (x : UInt8) (h : l[j]? = some x) (hb : b ≤ j) : (l.take (j + 1)).drop b = (l.take j).drop b ++ [x] := by
  have hj := (List.getElem?_eq_some_iff.1 h).1
  rw [take_snoc _ _ _ h, List.drop_append_of_le_length (by simp; omega)]
theorem packN_pk (base : Nat) (on : Bool) (s : List UInt8) (m : List (List UInt8 × Nat)) (h : s ≠ [46]) : packN base on s m = pk base on s [] [] m := by simp [packN, h]
theorem ptr_hi (p : Nat) (hp : p < 65536) : IntKind.u8.wrap (IntKind.u16.wrap ((BitVec.ofInt IntKind.u16.bits ((p / 256 : Nat) : Int) ||| BitVec.ofInt IntKind.u16.bits 192).toNat : Int)) = ((UInt8.ofNat (p / 256 ||| 192)).toNat : Int) := by
  have hb : IntKind.u16.bits = 16 := rfl
  have hlt : p / 256 ||| 192 < 65536 := or_lt _ _ (by omega) (by decide)
  have h1 : (((p / 256 : Nat) : Int) % (2 ^ 16 : Nat)).toNat = p / 256 := by omega
  have h2 : ((192 : Int) % (2 ^ 16 : Nat)).toNat = 192 := by decide
  rw [u16_wrap, BitVec.toNat_or, BitVec.toNat_ofInt, BitVec.toNat_ofInt, hb, h1, h2, Nat.mod_eq_of_lt hlt, u8_wrap]
theorem strV_eq (s : ByteArray) : Value.string s = strV s.data.toList := by
  simp [strV]

theorem lookup_mem {α β : Type} [BEq α] [LawfulBEq α] {l : List (α × β)} {a : α} {b : β} (h : l.lookup a = some b) : (a, b) ∈ l := by
  induction l with
  | nil => simp at h
  | cons p r ih =>
    obtain ⟨k, v⟩ := p
    simp only [List.lookup] at h
    split at h
    · rename_i he
      simp at h
      subst h
      have := eq_of_beq he
      subst this
      simp
    · exact List.mem_cons_of_mem _ (ih h)
theorem mapT : MapT Tryd.prog 111 9 22 := ⟨Tryd.underlying111, Tryd.underlying9, by kernel_rfl⟩

theorem namePack_spec (G : GEnv) (l : List UInt8) (hl1 : 1 ≤ l.length) (hl : l.length ≤ 254) (hlast : l[l.length - 1]? = some 46) (bq o off : Nat) (v : Value) (bs bs' : List UInt8) (p : Option Addr) (c : Nat) (r : Option Nat) (m : List (List UInt8 × Nat)) (hoff : off ≤ bs'.length) (hbig : bs'.length ≤ 158329674399744) (hm : ∀ x ∈ m, x.2 < 65536) :
    Spec Tryd.prog 89 [.pointer (some ⟨bq, o, none⟩), .slice p bs'.length c, .map r, .int .i64 off] [appB 5 v bs (.slice p bs'.length c) bs', .mp r (kvV m)]
      (fun w => Cells w bq o (nameCs l) ∧ bq ∉ fp [appB 5 v bs (.slice p bs'.length c) bs', .mp r (kvV m)] ∧ GE G w (fp [appB 5 v bs (.slice p bs'.length c) bs', .mp r (kvV m)]))
      (PackPost 5 v bs bs' r (packN (bs'.length - off) r.isSome l m)) := by
  refine Spec.of Tryd.func89 rfl Tryd.ntmps89 rfl fun w0 hR => ?_
  obtain ⟨hcs, hbq, hge⟩ := hR
  have he11 := hge.at_ 11 (by decide)
  have hn11 := hge.out 11 (by decide)
  have he12 := hge.at_ 12 (by decide)
  have hn12 := hge.out 12 (by decide)
  generalize hS : fp [appB 5 v bs (.slice p bs'.length c) bs', .mp r (kvV m)] = S at *
  have hcs0 : Cells w0 bq (o + 0) (nameCs l) := hcs
  have hlenC : Cells w0 bq (o + 255) [.int .u8 l.length] := by
    have := hcs.one (nameCs_size l (by omega))
    simpa using this
  have hbyte : ∀ i x, l[i]? = some x → Cells w0 bq (o + 0 + i * 1) [.int .u8 x.toNat] := fun i x hx => hcs0.one (nameCs_get l i x hx)
  have hu8 : IntKind.u8.wrap (l.length : Int) = (l.length : Int) := IntWalk.u8_in _ (by omega)
  refine CodeJ.seq ?_
  refine CodeJ.region ?_
  refine OpsJ.yld rfl rfl rfl (Yld.assign rfl rfl) ?_
  refine OpsJ.yld rfl rfl rfl (Yld.assign rfl rfl) ?_
  refine OpsJ.nil ?_
  refine ExJ.thenN ?_
  refine CodeJ.seq ?_
  refine CodeJ.region ?_
  refine OpsJ.yld rfl rfl rfl (Yld.move rfl rfl) ?_
  refine OpsJ.yld rfl rfl rfl (Yld.assign rfl rfl) ?_
  refine OpsJ.nil ?_
  refine ExJ.thenN ?_
  refine CodeJ.seq ?_
  refine CodeJ.seq ?_
  refine CodeJ.region ?_
  refine OpsJ.yld rfl rfl rfl (Yld.move rfl rfl) ?_
  refine OpsJ.yld rfl rfl rfl (Yld.nilCheck rfl rfl) ?_
  refine OpsJ.yld rfl rfl rfl (Yld.fieldAddr fa_63_1 rfl rfl) ?_
  refine OpsJ.yld rfl rfl rfl (Yld.load1 rfl Tryd.underlying5 rfl rfl (fun w hI => hI.old hlenC hbq)) ?_
  refine OpsJ.yld rfl rfl rfl (Yld.intBin rfl rfl rfl rfl) ?_
  refine OpsJ.nil ?_
  refine ExJ.thenN ?_
  refine CodeJ.condP rfl (fun c23 => ?_) (fun c23 => ?_)
  · exact absurd c23 (by omega)
  · refine CodeJ.skip ?_
    refine ExJ.thenN ?_
    refine CodeJ.seq ?_
    refine CodeJ.seq ?_
    refine CodeJ.any (fuel := 18) (listed := #[false, false, false, false, false, false, false, false, false, false, false, false, false, false, false, false, false, false]) [0, 1] rfl follows_mixed rfl rfl ?_
    refine AnyJ.take (fuel := 17) (listed' := #[true, false, false, false, false, false, false, false, false, false, false, false, false, false, false, false, false, false]) 0 rfl (by kernel_rfl) (by kernel_rfl) (by kernel_rfl) rfl rfl rfl rfl (Yld.move rfl rfl) (fun w hI => hI.pick (is := [0, 1]) (by decide) rfl) ?_
    refine AnyJ.take (fuel := 16) (listed' := #[true, true, false, false, false, false, false, false, false, false, false, false, false, false, false, false, false, false]) 1 rfl (by kernel_rfl) (by kernel_rfl) (by kernel_rfl) rfl rfl rfl rfl (Yld.nilCheck rfl rfl) (fun w hI => hI.pick (is := [0, 1]) (by decide) rfl) ?_
    refine AnyJ.take (fuel := 15) (listed' := #[true, true, true, false, false, false, false, false, false, false, false, false, false, false, false, false, false, false]) 2 rfl (by kernel_rfl) (by kernel_rfl) (by kernel_rfl) rfl rfl rfl rfl (Yld.fieldAddr fa_63_1 rfl rfl) (fun w hI => hI.pick (is := [0, 1]) (by decide) rfl) ?_
    refine AnyJ.take (fuel := 14) (listed' := #[true, true, true, true, false, false, false, false, false, false, false, false, false, false, false, false, false, false]) 3 rfl (by kernel_rfl) (by kernel_rfl) (by kernel_rfl) rfl rfl rfl rfl (Yld.load1 rfl Tryd.underlying5 rfl rfl (fun w hI => hI.old hlenC hbq)) (fun w hI => hI.pick (is := [0, 1]) (by decide) rfl) ?_
    refine AnyJ.take (fuel := 13) (listed' := #[true, true, true, true, true, false, false, false, false, false, false, false, false, false, false, false, false, false]) 4 rfl (by kernel_rfl) (by kernel_rfl) (by kernel_rfl) rfl rfl rfl rfl (Yld.intBin rfl rfl rfl rfl) (fun w hI => hI.pick (is := [0, 1]) (by decide) rfl) ?_
    refine AnyJ.take (fuel := 12) (listed' := #[true, true, true, true, true, true, false, false, false, false, false, false, false, false, false, false, false, false]) 5 rfl (by kernel_rfl) (by kernel_rfl) (by kernel_rfl) rfl rfl rfl rfl (Yld.move rfl rfl) (fun w hI => hI.pick (is := [0, 1]) (by decide) rfl) ?_
    refine AnyJ.splitB (s := 30) rfl (fun g30 => ?_) (fun g30 => ?_)
    · have : (l.length : Int) = 0 := by simpa using g30
      omega
    · refine AnyJ.takeT (fuel := 11) (listed' := #[true, true, true, true, true, true, true, false, false, false, false, false, false, false, false, false, false, false]) 6 rfl (by kernel_rfl) (by kernel_rfl) (by kernel_rfl) rfl rfl rfl rfl rfl rfl (Yld.move rfl rfl) (fun w hI => hI.pick (is := [0, 1]) (by decide) rfl) ?_
      refine AnyJ.takeT (fuel := 10) (listed' := #[true, true, true, true, true, true, true, true, false, false, false, false, false, false, false, false, false, false]) 7 rfl (by kernel_rfl) (by kernel_rfl) (by kernel_rfl) rfl rfl rfl rfl rfl rfl (Yld.move rfl rfl) (fun w hI => hI.pick (is := [0, 1]) (by decide) rfl) ?_
      refine AnyJ.takeT (fuel := 9) (listed' := #[true, true, true, true, true, true, true, true, true, false, false, false, false, false, false, false, false, false]) 8 rfl (by kernel_rfl) (by kernel_rfl) (by kernel_rfl) rfl rfl rfl rfl rfl rfl (Yld.nilCheck rfl rfl) (fun w hI => hI.pick (is := [0, 1]) (by decide) rfl) ?_
      refine AnyJ.takeT (fuel := 8) (listed' := #[true, true, true, true, true, true, true, true, true, true, false, false, false, false, false, false, false, false]) 9 rfl (by kernel_rfl) (by kernel_rfl) (by kernel_rfl) rfl rfl rfl rfl rfl rfl (Yld.fieldAddr fa_63_1 rfl rfl) (fun w hI => hI.pick (is := [0, 1]) (by decide) rfl) ?_
      refine AnyJ.takeT (fuel := 7) (listed' := #[true, true, true, true, true, true, true, true, true, true, true, false, false, false, false, false, false, false]) 10 rfl (by kernel_rfl) (by kernel_rfl) (by kernel_rfl) rfl rfl rfl rfl rfl rfl (Yld.load1 rfl Tryd.underlying5 rfl rfl (fun w hI => hI.old hlenC hbq)) (fun w hI => hI.pick (is := [0, 1]) (by decide) rfl) ?_
      refine AnyJ.takeT (fuel := 6) (listed' := #[true, true, true, true, true, true, true, true, true, true, true, true, false, false, false, false, false, false]) 11 rfl (by kernel_rfl) (by kernel_rfl) (by kernel_rfl) rfl rfl rfl rfl rfl rfl (Yld.intBin rfl rfl rfl rfl) (fun w hI => hI.pick (is := [0, 1]) (by decide) rfl) ?_
      rw [u8_sub1 l.length hl1 (by omega)]
      refine AnyJ.takeT (fuel := 5) (listed' := #[true, true, true, true, true, true, true, true, true, true, true, true, true, false, false, false, false, false]) 12 rfl (by kernel_rfl) (by kernel_rfl) (by kernel_rfl) rfl rfl rfl rfl rfl rfl (Yld.nilCheck rfl rfl) (fun w hI => hI.pick (is := [0, 1]) (by decide) rfl) ?_
      refine AnyJ.takeT (fuel := 4) (listed' := #[true, true, true, true, true, true, true, true, true, true, true, true, true, true, false, false, false, false]) 13 rfl (by kernel_rfl) (by kernel_rfl) (by kernel_rfl) rfl rfl rfl rfl rfl rfl (Yld.fieldAddr fa_63_0 rfl rfl) (fun w hI => hI.pick (is := [0, 1]) (by decide) rfl) ?_
      refine AnyJ.takeT (fuel := 3) (listed' := #[true, true, true, true, true, true, true, true, true, true, true, true, true, true, true, false, false, false]) 14 rfl (by kernel_rfl) (by kernel_rfl) (by kernel_rfl) rfl rfl rfl rfl rfl rfl (Yld.indexAddrArr rfl Tryd.underlying61 sz_5 rfl rfl (by omega)) (fun w hI => hI.pick (is := [0, 1]) (by decide) rfl) ?_
      refine AnyJ.takeT (fuel := 2) (listed' := #[true, true, true, true, true, true, true, true, true, true, true, true, true, true, true, true, false, false]) 15 rfl (by kernel_rfl) (by kernel_rfl) (by kernel_rfl) rfl rfl rfl rfl rfl rfl (Yld.load1 rfl Tryd.underlying5 rfl rfl (fun w hI => hI.old (hbyte _ _ hlast) hbq)) (fun w hI => hI.pick (is := [0, 1]) (by decide) rfl) ?_
      refine AnyJ.takeT (fuel := 1) (listed' := #[true, true, true, true, true, true, true, true, true, true, true, true, true, true, true, true, true, false]) 16 rfl (by kernel_rfl) (by kernel_rfl) (by kernel_rfl) rfl rfl rfl rfl rfl rfl (Yld.intBin rfl rfl rfl rfl) (fun w hI => hI.pick (is := [0, 1]) (by decide) rfl) ?_
      refine AnyJ.take (fuel := 0) (listed' := #[true, true, true, true, true, true, true, true, true, true, true, true, true, true, true, true, true, true]) 17 rfl (by kernel_rfl) (by kernel_rfl) (by kernel_rfl) rfl rfl rfl rfl (Yld.pickF rfl rfl rfl) (fun w hI => hI.pick (is := [0, 1]) (by decide) rfl) ?_
      refine AnyJ.done (by kernel_rfl) ?_
      refine ExJ.thenN ?_
      refine CodeJ.cond rfl (fun c42 => ?_) (fun c42 => ?_)
      · exact absurd c42 (by decide)
      · refine CodeJ.skip ?_
        refine ExJ.thenN ?_
        refine CodeJ.cutP (fun L H => l ≠ [46] ∧ L = [(0, .pointer (some ⟨bq, o, none⟩)), (1, .slice p bs'.length c), (2, .map r), (3, .int .i64 off), (10, .slice p bs'.length c)] ∧ H = [appB 5 v bs (.slice p bs'.length c) bs', .mp r (kvV m)]) ?_ ?_
        · refine CodeJ.seq ?_
          refine CodeJ.region ?_
          refine OpsJ.yld rfl rfl rfl (Yld.move rfl rfl) ?_
          refine OpsJ.yld rfl rfl rfl (Yld.nilCheck rfl rfl) ?_
          refine OpsJ.yld rfl rfl rfl (Yld.fieldAddr fa_63_0 rfl rfl) ?_
          obtain ⟨x0, hx0⟩ : ∃ x, l[0]? = some x := ⟨l[0], List.getElem?_eq_getElem (by omega)⟩
          refine OpsJ.yld rfl rfl rfl (Yld.indexAddrArr (i := 0) rfl Tryd.underlying61 sz_5 rfl rfl (by omega)) ?_
          refine OpsJ.yld rfl rfl rfl (Yld.load1 rfl Tryd.underlying5 rfl rfl (fun w hI => hI.old (hbyte _ _ hx0) hbq)) ?_
          refine OpsJ.yld rfl rfl rfl (Yld.intBin rfl rfl rfl rfl) ?_
          refine OpsJ.yld rfl rfl rfl (Yld.move rfl rfl) ?_
          refine OpsJ.splitB (s := 51) rfl (fun g51 => ?_) (fun g51 => ?_)
          · have hx46 : x0 = 46 := (dotE x0).1 g51
            refine OpsJ.opT rfl rfl rfl ?_
            refine OpJ.yld rfl rfl (Yld.move rfl rfl) ?_
            refine OpsJ.opT rfl rfl rfl ?_
            refine OpJ.yld rfl rfl (Yld.nilCheck rfl rfl) ?_
            refine OpsJ.opT rfl rfl rfl ?_
            refine OpJ.yld rfl rfl (Yld.fieldAddr fa_63_1 rfl rfl) ?_
            refine OpsJ.opT rfl rfl rfl ?_
            refine OpJ.yld rfl rfl (Yld.load1 rfl Tryd.underlying5 rfl rfl (fun w hI => hI.old hlenC hbq)) ?_
            refine OpsJ.opT rfl rfl rfl ?_
            refine OpJ.yld rfl rfl (Yld.intBin rfl rfl rfl rfl) ?_
            refine OpsJ.yld rfl rfl rfl (Yld.pickT rfl rfl rfl) ?_
            refine OpsJ.nil ?_
            refine ExJ.thenN ?_
            refine CodeJ.cond rfl (fun c57 => ?_) (fun c57 => ?_)
            · have hone : l.length = 1 := by
                have : (l.length : Int) = 1 := by simpa using c57
                omega
              have he46 : l = [46] := by
                obtain ⟨y, rfl⟩ := List.length_eq_one_iff.1 hone
                simp at hx0
                rw [hx0, hx46]
              refine CodeJ.seq ?_
              refine CodeJ.region ?_
              refine OpsJ.yld rfl rfl rfl (Yld.move rfl rfl) ?_
              refine OpsJ.op rfl ?_
              refine OpJ.buildSlice (xs := [.const (Go.Value.int Go.IntKind.u8 0)]) elt_31 rfl rfl rfl rfl rfl rfl (by rfl) (by decide) fun one hone => ?_
              refine OpsJ.op rfl ?_
              refine OpJ.appendB (i := 1) (news := [0]) elt_31 rfl rfl rfl rfl rfl rfl (fun w hI => Bytes.src (Inv.bytes (k := 0) rfl w hI) Tryd.underlying31) (by simp; omega) fun p60 c60 => ?_
              refine OpsJ.yld rfl rfl rfl (Yld.assign rfl rfl) ?_
              refine OpsJ.yld rfl rfl rfl (Yld.assign rfl rfl) ?_
              refine OpsJ.nil ?_
              refine ExJ.thenN ?_
              refine CodeJ.ret ?_
              refine ExJ.thenR ?_
              refine ExJ.ret2 Tryd.results89 rfl rfl ?_ fun w hI => hI.pick (is := [1, 2]) (by decide) rfl
              simp only [packN, he46, if_true, PackPost]
              exact ⟨_, _, rfl, rfl⟩
            · have hne : l ≠ [46] := fun h => by
                subst h
                simp at c57
              refine CodeJ.skip ?_
              exact ExJ.meetP ⟨hne, rfl, rfl⟩ ⟨rfl, rfl, rfl, rfl, rfl, trivial⟩ fun w hI => hI
          · have hne : l ≠ [46] := fun h => by
              subst h
              simp at hx0
              exact (dotE' x0).1 g51 hx0.symm
            refine OpsJ.opF rfl rfl rfl rfl rfl rfl ?_
            refine OpsJ.opF rfl rfl rfl rfl rfl rfl ?_
            refine OpsJ.opF rfl rfl rfl rfl rfl rfl ?_
            refine OpsJ.opF rfl rfl rfl rfl rfl rfl ?_
            refine OpsJ.opF rfl rfl rfl rfl rfl rfl ?_
            refine OpsJ.yld rfl rfl rfl (Yld.pickF rfl rfl rfl) ?_
            refine OpsJ.nil ?_
            refine ExJ.thenN ?_
            refine CodeJ.condF rfl ?_
            refine CodeJ.skip ?_
            exact ExJ.meetP ⟨hne, rfl, rfl⟩ ⟨rfl, rfl, rfl, rfl, rfl, trivial⟩ fun w hI => hI
        · rintro _ _ ⟨hne, rfl, rfl⟩
          refine CodeJ.seq ?_
          refine CodeJ.region ?_
          refine OpsJ.yld rfl rfl rfl (Yld.assign rfl rfl) ?_
          refine OpsJ.nil ?_
          refine ExJ.thenN ?_
          refine CodeJ.seq ?_
          refine CodeJ.seq ?_
          refine CodeJ.region ?_
          refine OpsJ.yld rfl rfl rfl (Yld.assign rfl rfl) ?_
          refine OpsJ.yld rfl rfl rfl (Yld.assign rfl rfl) ?_
          refine OpsJ.nil ?_
          refine ExJ.thenN ?_
          refine CodeJ.block ?_
          refine CodeJ.loopP (fun L H n => ∃ (i : Nat) (lab ys : List UInt8) (m' : List (List UInt8 × Nat)) (p' : Option Addr) (c' : Nat) (nas : ByteArray), i ≤ l.length ∧ pk (bs'.length - off) r.isSome l [] [] m = pk (bs'.length - off) r.isSome (l.drop i) lab ys m' ∧ lab = (l.take i).drop (i - lab.length) ∧ lab.length ≤ i ∧ (lab = [] ↔ (i = 0 ∨ l[i - 1]? = some 46)) ∧ (nas = ByteArray.empty ∨ nas = ⟨l.toArray⟩) ∧ ys.length + lab.length ≤ 2 * i ∧ (∀ x ∈ m', x.2 < 65536) ∧
          L = [(0, .pointer (some ⟨bq, o, none⟩)), (1, .slice p' (bs' ++ ys).length c'), (2, .map r), (3, .int .i64 off), (10, .slice p bs'.length c), (11, .string nas), (12, .int .i64 i), (13, .int .i64 (i - lab.length : Nat))] ∧
          H = [appB 5 v bs (.slice p' (bs' ++ ys).length c') (bs' ++ ys), .mp r (kvV m')] ∧ n = l.length - i) ⟨0, [], [], m, p, c, ByteArray.empty, by omega, rfl, rfl, by simp, by simp, .inl rfl, by simp, hm, rfl, rfl, rfl⟩ ⟨rfl, by simp only [List.append_nil]; rfl, rfl, rfl, rfl, rfl, rfl, rfl, trivial⟩ (fun w hI => by simp only [List.append_nil]; exact hI) ?_
          rintro _ _ _ ⟨i, lab, ys, m', p', c', nas, hi, hpk, hlab, hlabl, hlab0, hnas, hysl, hm', rfl, rfl, rfl⟩
          refine CodeJ.seq ?_
          refine CodeJ.seq ?_
          refine CodeJ.region ?_
          refine OpsJ.yld rfl rfl rfl (Yld.move rfl rfl) ?_
          refine OpsJ.yld rfl rfl rfl (Yld.move rfl rfl) ?_
          refine OpsJ.yld rfl rfl rfl (Yld.nilCheck rfl rfl) ?_
          refine OpsJ.yld rfl rfl rfl (Yld.fieldAddr fa_63_1 rfl rfl) ?_
          refine OpsJ.yld rfl rfl rfl (Yld.load1 rfl Tryd.underlying5 rfl rfl (fun w hI => hI.old hlenC hbq)) ?_
          refine OpsJ.yld rfl rfl rfl (Yld.convInt rfl Tryd.underlying5 Tryd.underlying3 rfl) ?_
          rw [i64_wrap l.length (by omega)]
          refine OpsJ.yld rfl rfl rfl (Yld.intBin rfl rfl rfl rfl) ?_
          refine OpsJ.nil ?_
          refine ExJ.thenN ?_
          refine CodeJ.condP rfl (fun c67 => ?_) (fun c67 => ?_)
          · have hi' : i < l.length := by omega
            obtain ⟨x, hx⟩ : ∃ x, l[i]? = some x := ⟨l[i], List.getElem?_eq_getElem hi'⟩
            have hdrop : l.drop i = x :: l.drop (i + 1) := by
              rw [List.drop_eq_getElem_cons hi']
              congr 1
              exact (List.getElem?_eq_some_iff.1 hx).2
            rw [hdrop, pk] at hpk
            have hbl : (bs' ++ ys).length = bs'.length + ys.length := List.length_append
            refine CodeJ.skip ?_
            refine ExJ.thenN ?_
            refine CodeJ.seq ?_
            refine CodeJ.block ?_
            refine CodeJ.seq ?_
            refine CodeJ.seq ?_
            refine CodeJ.region ?_
            refine OpsJ.yld rfl rfl rfl (Yld.move rfl rfl) ?_
            refine OpsJ.yld rfl rfl rfl (Yld.move rfl rfl) ?_
            refine OpsJ.yld rfl rfl rfl (Yld.nilCheck rfl rfl) ?_
            refine OpsJ.yld rfl rfl rfl (Yld.fieldAddr fa_63_0 rfl rfl) ?_
            refine OpsJ.yld rfl rfl rfl (Yld.indexAddrArr rfl Tryd.underlying61 sz_5 rfl rfl (by omega)) ?_
            refine OpsJ.yld rfl rfl rfl (Yld.load1 rfl Tryd.underlying5 rfl rfl (fun w hI => hI.old (hbyte _ _ hx) hbq)) ?_
            refine OpsJ.yld rfl rfl rfl (Yld.intBin rfl rfl rfl rfl) ?_
            refine OpsJ.nil ?_
            refine ExJ.thenN ?_
            refine CodeJ.cond rfl (fun c76 => ?_) (fun c76 => ?_)
            · have hdot : x = 46 := (dotE x).1 c76
              rw [if_pos hdot] at hpk
              have hil : i - (i - lab.length) = lab.length := by omega
              refine CodeJ.seq ?_
              refine CodeJ.seq ?_
              refine CodeJ.region ?_
              refine OpsJ.yld rfl rfl rfl (Yld.move rfl rfl) ?_
              refine OpsJ.yld rfl rfl rfl (Yld.move rfl rfl) ?_
              refine OpsJ.yld rfl rfl rfl (Yld.intBin rfl rfl rfl rfl) ?_
              rw [i64_sub _ _ (by omega) (by omega), hil]
              refine OpsJ.yld rfl rfl rfl (Yld.intBin rfl rfl rfl rfl) ?_
              refine OpsJ.nil ?_
              refine ExJ.thenN ?_
              refine CodeJ.condP rfl (fun c80 => ?_) (fun c80 => ?_)
              · have hbad : lab.length ≥ 64 := by omega
                rw [if_pos hbad] at hpk
                refine CodeJ.seq ?_
                refine CodeJ.any (fuel := 4) (listed := #[false, false, false, false]) [0, 1] rfl follows_mixed rfl rfl ?_
                refine AnyJ.take (fuel := 3) (listed' := #[true, false, false, false]) 0 rfl (by kernel_rfl) (by kernel_rfl) (by kernel_rfl) rfl rfl rfl rfl (Yld.move rfl rfl) (fun w hI => hI.pick (is := [0, 1]) (by decide) rfl) ?_
                refine AnyJ.take (fuel := 2) (listed' := #[true, true, false, false]) 1 rfl (by kernel_rfl) (by kernel_rfl) (by kernel_rfl) rfl rfl rfl rfl (Yld.load1 rfl Tryd.underlying69 rfl rfl (fun w hI => hI.old (he11) (hn11))) (fun w hI => hI.pick (is := [0, 1]) (by decide) rfl) ?_
                refine AnyJ.take (fuel := 1) (listed' := #[true, true, true, false]) 2 rfl (by kernel_rfl) (by kernel_rfl) (by kernel_rfl) rfl rfl rfl rfl (Yld.assign rfl rfl) (fun w hI => hI.pick (is := [0, 1]) (by decide) rfl) ?_
                refine AnyJ.take (fuel := 0) (listed' := #[true, true, true, true]) 3 rfl (by kernel_rfl) (by kernel_rfl) (by kernel_rfl) rfl rfl rfl rfl (Yld.assign rfl rfl) (fun w hI => hI.pick (is := [0, 1]) (by decide) rfl) ?_
                refine AnyJ.done (by kernel_rfl) ?_
                refine ExJ.thenN ?_
                refine CodeJ.ret ?_
                refine ExJ.thenR ?_
                refine ExJ.thenR ?_
                refine ExJ.blockR ?_
                refine ExJ.thenR ?_
                refine ExJ.thenR ?_
                refine ExJ.blockR ?_
                refine ExJ.thenR ?_
                refine ExJ.ret2 Tryd.results89 rfl rfl ?_ fun w hI => (hI.sl1 (i := 0) rfl)
                rw [packN_pk _ _ _ _ hne, hpk]
                exact ⟨_, _, _, rfl, rfl⟩
              · have hbad : ¬ lab.length ≥ 64 := by omega
                rw [if_neg hbad] at hpk
                refine CodeJ.skip ?_
                refine ExJ.thenN ?_
                refine CodeJ.seq ?_
                refine CodeJ.seq ?_
                refine CodeJ.region ?_
                refine OpsJ.yld rfl rfl rfl (Yld.move rfl rfl) ?_
                refine OpsJ.yld rfl rfl rfl (Yld.move rfl rfl) ?_
                refine OpsJ.yld rfl rfl rfl (Yld.intBin rfl rfl rfl rfl) ?_
                rw [i64_sub _ _ (by omega) (by omega), hil]
                refine OpsJ.yld rfl rfl rfl (Yld.intBin rfl rfl rfl rfl) ?_
                refine OpsJ.nil ?_
                refine ExJ.thenN ?_
                refine CodeJ.cond rfl (fun c86 => ?_) (fun c86 => ?_)
                · have hz : lab.length = 0 := by
                    have : (lab.length : Int) = 0 := by simpa using c86
                    omega
                  rw [if_pos hz] at hpk
                  refine CodeJ.seq ?_
                  refine CodeJ.any (fuel := 4) (listed := #[false, false, false, false]) [0, 1] rfl follows_mixed rfl rfl ?_
                  refine AnyJ.take (fuel := 3) (listed' := #[true, false, false, false]) 0 rfl (by kernel_rfl) (by kernel_rfl) (by kernel_rfl) rfl rfl rfl rfl (Yld.move rfl rfl) (fun w hI => hI.pick (is := [0, 1]) (by decide) rfl) ?_
                  refine AnyJ.take (fuel := 2) (listed' := #[true, true, false, false]) 1 rfl (by kernel_rfl) (by kernel_rfl) (by kernel_rfl) rfl rfl rfl rfl (Yld.load1 rfl Tryd.underlying69 rfl rfl (fun w hI => hI.old (he12) (hn12))) (fun w hI => hI.pick (is := [0, 1]) (by decide) rfl) ?_
                  refine AnyJ.take (fuel := 1) (listed' := #[true, true, true, false]) 2 rfl (by kernel_rfl) (by kernel_rfl) (by kernel_rfl) rfl rfl rfl rfl (Yld.assign rfl rfl) (fun w hI => hI.pick (is := [0, 1]) (by decide) rfl) ?_
                  refine AnyJ.take (fuel := 0) (listed' := #[true, true, true, true]) 3 rfl (by kernel_rfl) (by kernel_rfl) (by kernel_rfl) rfl rfl rfl rfl (Yld.assign rfl rfl) (fun w hI => hI.pick (is := [0, 1]) (by decide) rfl) ?_
                  refine AnyJ.done (by kernel_rfl) ?_
                  refine ExJ.thenN ?_
                  refine CodeJ.ret ?_
                  refine ExJ.thenR ?_
                  refine ExJ.thenR ?_
                  refine ExJ.blockR ?_
                  refine ExJ.thenR ?_
                  refine ExJ.thenR ?_
                  refine ExJ.blockR ?_
                  refine ExJ.thenR ?_
                  refine ExJ.ret2 Tryd.results89 rfl rfl ?_ fun w hI => (hI.sl1 (i := 0) rfl)
                  rw [packN_pk _ _ _ _ hne, hpk]
                  exact ⟨_, _, _, rfl, rfl⟩
                · have hz : ¬ lab.length = 0 := by
                    intro h
                    simp [h] at c86
                  rw [if_neg hz] at hpk
                  refine CodeJ.skip ?_
                  refine ExJ.thenN ?_
                  refine CodeJ.seq ?_
                  refine CodeJ.region ?_
                  refine OpsJ.yld rfl rfl rfl (Yld.move rfl rfl) ?_
                  refine OpsJ.yld rfl rfl rfl (Yld.move rfl rfl) ?_
                  refine OpsJ.yld rfl rfl rfl (Yld.move rfl rfl) ?_
                  refine OpsJ.yld rfl rfl rfl (Yld.intBin rfl rfl rfl rfl) ?_
                  rw [i64_sub _ _ (by omega) (by omega), hil]
                  refine OpsJ.yld rfl rfl rfl (Yld.convInt rfl Tryd.underlying3 Tryd.underlying5 rfl) ?_
                  rw [u8_wrap]
                  refine OpsJ.op rfl ?_
                  refine OpJ.buildSlice (xs := [.tmp 93]) elt_31 rfl rfl rfl rfl rfl rfl (by rfl) (by decide) fun one hone => ?_
                  refine OpsJ.op rfl ?_
                  refine OpJ.appendB (i := 1) (news := [UInt8.ofNat lab.length]) elt_31 rfl rfl rfl rfl rfl rfl (fun w hI => Bytes.src (Inv.bytes (k := 0) rfl w hI) Tryd.underlying31) (by simp; omega) fun p95 c95 => ?_
                  have e0 : bs' ++ (ys ++ [UInt8.ofNat lab.length] ++ (l.take (i - lab.length)).drop (i - lab.length)) = bs' ++ ys ++ [UInt8.ofNat lab.length] := by
                    rw [List.drop_of_length_le (List.length_take_le _ _)]
                    simp
                  refine OpsJ.yld rfl rfl rfl (Yld.assign rfl rfl) ?_
                  refine OpsJ.nil ?_
                  refine ExJ.thenN ?_
                  refine CodeJ.seq ?_
                  refine CodeJ.seq ?_
                  refine CodeJ.region ?_
                  refine OpsJ.yld rfl rfl rfl (Yld.move rfl rfl) ?_
                  refine OpsJ.yld rfl rfl rfl (Yld.assign rfl rfl) ?_
                  refine OpsJ.nil ?_
                  refine ExJ.thenN ?_
                  refine CodeJ.block ?_
                  refine CodeJ.loopP (fun L H n => ∃ (j : Nat) (p2 : Option Addr) (c2 : Nat), i - lab.length ≤ j ∧ j ≤ i ∧
                  L = [(0, .pointer (some ⟨bq, o, none⟩)), (1, .slice p2 (bs' ++ (ys ++ [UInt8.ofNat lab.length] ++ (l.take j).drop (i - lab.length))).length c2), (2, .map r), (3, .int .i64 off), (10, .slice p bs'.length c), (11, .string nas), (12, .int .i64 i), (14, .int .i64 j)] ∧
                  H = [appB 5 v bs (.slice p2 (bs' ++ (ys ++ [UInt8.ofNat lab.length] ++ (l.take j).drop (i - lab.length))).length c2) (bs' ++ (ys ++ [UInt8.ofNat lab.length] ++ (l.take j).drop (i - lab.length))), .mp r (kvV m')] ∧ n = i - j) ⟨i - lab.length, p95, c95, by omega, by omega, rfl, rfl, rfl⟩ ⟨rfl, by rw [e0]; rfl, rfl, rfl, rfl, rfl, rfl, rfl, trivial⟩ (fun w hI => by rw [e0]; exact hI.pick (is := [1, 2]) (by decide) rfl) ?_
                  rintro _ _ _ ⟨j, p2, c2, hj1, hj2, rfl, rfl, rfl⟩
                  refine CodeJ.seq ?_
                  refine CodeJ.seq ?_
                  refine CodeJ.region ?_
                  refine OpsJ.yld rfl rfl rfl (Yld.move rfl rfl) ?_
                  refine OpsJ.yld rfl rfl rfl (Yld.move rfl rfl) ?_
                  refine OpsJ.yld rfl rfl rfl (Yld.intBin rfl rfl rfl rfl) ?_
                  refine OpsJ.nil ?_
                  refine ExJ.thenN ?_
                  refine CodeJ.condP rfl (fun c99 => ?_) (fun c99 => ?_)
                  · have hj' : j < i := by omega
                    obtain ⟨y, hy⟩ : ∃ y, l[j]? = some y := ⟨l[j], List.getElem?_eq_getElem (by omega)⟩
                    have hnx : bs' ++ (ys ++ [UInt8.ofNat lab.length] ++ (l.take (j + 1)).drop (i - lab.length)) = bs' ++ (ys ++ [UInt8.ofNat lab.length] ++ (l.take j).drop (i - lab.length)) ++ [y] := by
                      rw [take_drop_snoc l _ j y hy hj1]
                      simp
                    refine CodeJ.skip ?_
                    refine ExJ.thenN ?_
                    refine CodeJ.seq ?_
                    refine CodeJ.block ?_
                    refine CodeJ.region ?_
                    refine OpsJ.yld rfl rfl rfl (Yld.move rfl rfl) ?_
                    refine OpsJ.yld rfl rfl rfl (Yld.move rfl rfl) ?_
                    refine OpsJ.yld rfl rfl rfl (Yld.move rfl rfl) ?_
                    refine OpsJ.yld rfl rfl rfl (Yld.nilCheck rfl rfl) ?_
                    refine OpsJ.yld rfl rfl rfl (Yld.fieldAddr fa_63_0 rfl rfl) ?_
                    refine OpsJ.yld rfl rfl rfl (Yld.indexAddrArr rfl Tryd.underlying61 sz_5 rfl rfl (by omega)) ?_
                    refine OpsJ.yld rfl rfl rfl (Yld.load1 rfl Tryd.underlying5 rfl rfl (fun w hI => hI.old (hbyte _ _ hy) hbq)) ?_
                    refine OpsJ.op rfl ?_
                    refine OpJ.buildSlice (xs := [.tmp 108]) elt_31 rfl rfl rfl rfl rfl rfl (by rfl) (by decide) fun one hone => ?_
                    refine OpsJ.op rfl ?_
                    refine OpJ.appendB (i := 1) (news := [y]) elt_31 rfl rfl rfl rfl rfl rfl (fun w hI => Bytes.src (Inv.bytes (k := 0) rfl w hI) Tryd.underlying31) (by simp; omega) fun p110 c110 => ?_
                    refine OpsJ.yld rfl rfl rfl (Yld.assign rfl rfl) ?_
                    refine OpsJ.nil ?_
                    refine ExJ.blockN ?_
                    refine ExJ.thenN ?_
                    refine CodeJ.region ?_
                    refine OpsJ.yld rfl rfl rfl (Yld.move rfl rfl) ?_
                    refine OpsJ.yld rfl rfl rfl (Yld.intBin rfl rfl rfl rfl) ?_
                    rw [i64_succ j (by omega)]
                    refine OpsJ.yld rfl rfl rfl (Yld.assign rfl rfl) ?_
                    refine OpsJ.nil ?_
                    exact ExJ.againP ⟨j + 1, p110, c110, by omega, by omega, rfl, rfl, rfl⟩ (by omega) ⟨rfl, by rw [hnx]; rfl, rfl, rfl, rfl, rfl, rfl, rfl, trivial⟩ fun w hI => by rw [hnx]; exact hI.pick (is := [1, 2]) (by decide) rfl
                  · obtain rfl : i = j := by omega
                    rw [← hlab]
                    refine CodeJ.exit ?_
                    refine ExJ.thenX ?_
                    refine ExJ.thenX ?_
                    refine ExJ.blockHit ?_
                    refine ExJ.thenN ?_
                    refine CodeJ.seq ?_
                    refine CodeJ.region ?_
                    refine OpsJ.yld rfl rfl rfl (Yld.move rfl rfl) ?_
                    refine OpsJ.yld rfl rfl rfl (Yld.intBin rfl rfl rfl rfl) ?_
                    rw [i64_succ _ (by omega)]
                    refine OpsJ.yld rfl rfl rfl (Yld.assign rfl rfl) ?_
                    refine OpsJ.nil ?_
                    refine ExJ.thenN ?_
                    refine CodeJ.exit ?_
                    refine ExJ.thenX ?_
                    refine ExJ.blockHit ?_
                    refine ExJ.thenN ?_
                    refine CodeJ.region ?_
                    refine OpsJ.yld rfl rfl rfl (Yld.move rfl rfl) ?_
                    refine OpsJ.yld rfl rfl rfl (Yld.intBin rfl rfl rfl rfl) ?_
                    rw [i64_succ _ (by omega)]
                    refine OpsJ.yld rfl rfl rfl (Yld.assign rfl rfl) ?_
                    refine OpsJ.nil ?_
                    exact ExJ.againP ⟨i + 1, [], ys ++ [UInt8.ofNat lab.length] ++ lab, m', p2, c2, nas, by omega, hpk, by simp, by simp, by simp [hx, hdot], hnas, by simp; omega, hm', rfl, rfl, rfl⟩ (by omega) ⟨rfl, rfl, rfl, rfl, rfl, rfl, rfl, rfl, trivial⟩ fun w hI => hI
            · have hdot : ¬ x = 46 := (dotE' x).1 c76
              rw [if_neg hdot] at hpk
              have hb0 : i + 1 - (lab ++ [x]).length = i - lab.length := by simp
              have hlab' : lab ++ [x] = (l.take (i + 1)).drop (i + 1 - (lab ++ [x]).length) := by
                rw [hb0, take_drop_snoc l _ i x hx (by omega), ← hlab]
              have hiff' : lab ++ [x] = [] ↔ (i + 1 = 0 ∨ l[i + 1 - 1]? = some 46) := by simp [hx, hdot]
              have hsuf : Cells w0 bq (o + 0 + i) (bytesV (l.drop i)) := by
                refine hcs0.part (k := i) ?_ ?_
                · rw [nameCs, List.drop_append_of_le_length (by rw [bytesV_len]; omega)]
                  have : (bytesV l).drop i = bytesV (l.drop i) := by simp [bytesV]
                  rw [this, List.take_left' rfl]
                · rw [nameCs_len l (by omega), bytesV_len]
                  simp
                  omega
              have hall : Cells w0 bq (o + 0) (bytesV l) := by
                refine Cells.part (k := 0) hcs0 ?_ ?_
                · rw [List.drop_zero, nameCs, List.take_left' rfl]
                · rw [nameCs_len l (by omega), bytesV_len]
                  omega
              refine CodeJ.skip ?_
              refine ExJ.thenN ?_
              refine CodeJ.seq ?_
              refine CodeJ.region ?_
              refine OpsJ.yld rfl rfl rfl (Yld.move rfl rfl) ?_
              refine OpsJ.yld rfl rfl rfl (Yld.intBin rfl rfl rfl rfl) ?_
              refine OpsJ.yld rfl rfl rfl (Yld.move rfl rfl) ?_
              refine OpsJ.splitB (s := 115) rfl (fun g115 => ?_) (fun g115 => ?_)
              · have hi0 : i = 0 := by
                  have : (i : Int) = 0 := by simpa using g115
                  omega
                have hnil : lab = [] := hlab0.2 (.inl hi0)
                refine OpsJ.opF rfl rfl rfl rfl rfl rfl ?_
                refine OpsJ.opF rfl rfl rfl rfl rfl rfl ?_
                refine OpsJ.opF rfl rfl rfl rfl rfl rfl ?_
                refine OpsJ.opF rfl rfl rfl rfl rfl rfl ?_
                refine OpsJ.opF rfl rfl rfl rfl rfl rfl ?_
                refine OpsJ.opF rfl rfl rfl rfl rfl rfl ?_
                refine OpsJ.opF rfl rfl rfl rfl rfl rfl ?_
                refine OpsJ.opF rfl rfl rfl rfl rfl rfl ?_
                refine OpsJ.yld rfl rfl rfl (Yld.pickT rfl rfl rfl) ?_
                refine OpsJ.yld rfl rfl rfl (Yld.move rfl rfl) ?_
                refine OpsJ.opT rfl rfl rfl ?_
                refine OpJ.yld rfl rfl (Yld.move rfl rfl) ?_
                refine OpsJ.opT rfl rfl rfl ?_
                refine OpJ.yld rfl rfl (Yld.mapNeNil rfl Tryd.underlying111 rfl) ?_
                refine OpsJ.yld rfl rfl rfl (Yld.pickT rfl rfl rfl) ?_
                refine OpsJ.nil ?_
                refine ExJ.thenN ?_
                refine CodeJ.cond rfl (fun c128 => ?_) (fun c128 => ?_)
                · obtain ⟨bm, rfl⟩ := Option.isSome_iff_exists.1 c128
                  rw [if_pos ⟨hnil, rfl⟩, ← hdrop] at hpk
                  refine CodeJ.seq ?_
                  refine CodeJ.seq ?_
                  refine CodeJ.any (fuel := 17) (listed := #[false, false, false, false, false, false, false, false, false, false, false, false, false, false, false, false, false]) [0, 1] rfl follows_mixed rfl rfl ?_
                  refine AnyJ.take (fuel := 16) (listed' := #[true, false, false, false, false, false, false, false, false, false, false, false, false, false, false, false, false]) 0 rfl (by kernel_rfl) (by kernel_rfl) (by kernel_rfl) rfl rfl rfl rfl (Yld.move rfl rfl) (fun w hI => hI.pick (is := [0, 1]) (by decide) rfl) ?_
                  refine AnyJ.take (fuel := 15) (listed' := #[true, true, false, false, false, false, false, false, false, false, false, false, false, false, false, false, false]) 1 rfl (by kernel_rfl) (by kernel_rfl) (by kernel_rfl) rfl rfl rfl rfl (Yld.move rfl rfl) (fun w hI => hI.pick (is := [0, 1]) (by decide) rfl) ?_
                  refine AnyJ.take (fuel := 14) (listed' := #[true, true, true, false, false, false, false, false, false, false, false, false, false, false, false, false, false]) 2 rfl (by kernel_rfl) (by kernel_rfl) (by kernel_rfl) rfl rfl rfl rfl (Yld.nilCheck rfl rfl) (fun w hI => hI.pick (is := [0, 1]) (by decide) rfl) ?_
                  refine AnyJ.take (fuel := 13) (listed' := #[true, true, true, true, false, false, false, false, false, false, false, false, false, false, false, false, false]) 3 rfl (by kernel_rfl) (by kernel_rfl) (by kernel_rfl) rfl rfl rfl rfl (Yld.fieldAddr fa_63_0 rfl rfl) (fun w hI => hI.pick (is := [0, 1]) (by decide) rfl) ?_
                  refine AnyJ.take (fuel := 12) (listed' := #[true, true, true, true, true, false, false, false, false, false, false, false, false, false, false, false, false]) 4 rfl (by kernel_rfl) (by kernel_rfl) (by kernel_rfl) rfl rfl rfl rfl (Yld.move rfl rfl) (fun w hI => hI.pick (is := [0, 1]) (by decide) rfl) ?_
                  refine AnyJ.take (fuel := 11) (listed' := #[true, true, true, true, true, true, false, false, false, false, false, false, false, false, false, false, false]) 5 rfl (by kernel_rfl) (by kernel_rfl) (by kernel_rfl) rfl rfl rfl rfl (Yld.move rfl rfl) (fun w hI => hI.pick (is := [0, 1]) (by decide) rfl) ?_
                  refine AnyJ.take (fuel := 10) (listed' := #[true, true, true, true, true, true, true, false, false, false, false, false, false, false, false, false, false]) 6 rfl (by kernel_rfl) (by kernel_rfl) (by kernel_rfl) rfl rfl rfl rfl (Yld.nilCheck rfl rfl) (fun w hI => hI.pick (is := [0, 1]) (by decide) rfl) ?_
                  refine AnyJ.take (fuel := 9) (listed' := #[true, true, true, true, true, true, true, true, false, false, false, false, false, false, false, false, false]) 7 rfl (by kernel_rfl) (by kernel_rfl) (by kernel_rfl) rfl rfl rfl rfl (Yld.fieldAddr fa_63_1 rfl rfl) (fun w hI => hI.pick (is := [0, 1]) (by decide) rfl) ?_
                  refine AnyJ.take (fuel := 8) (listed' := #[true, true, true, true, true, true, true, true, true, false, false, false, false, false, false, false, false]) 8 rfl (by kernel_rfl) (by kernel_rfl) (by kernel_rfl) rfl rfl rfl rfl (Yld.load1 rfl Tryd.underlying5 rfl rfl (fun w hI => hI.old hlenC hbq)) (fun w hI => hI.pick (is := [0, 1]) (by decide) rfl) ?_
                  refine AnyJ.take (fuel := 7) (listed' := #[true, true, true, true, true, true, true, true, true, true, false, false, false, false, false, false, false]) 9 rfl (by kernel_rfl) (by kernel_rfl) (by kernel_rfl) rfl rfl rfl rfl (Yld.sliceArr rfl Tryd.underlying61 sz_5 rfl rfl rfl hi (by omega) (by omega)) (fun w hI => hI.pick (is := [0, 1]) (by decide) rfl) ?_
                  refine AnyJ.take (fuel := 6) (listed' := #[true, true, true, true, true, true, true, true, true, true, true, false, false, false, false, false, false]) 10 rfl (by kernel_rfl) (by kernel_rfl) (by kernel_rfl) rfl rfl rfl rfl (Yld.bytesStr (bs := l.drop i) (by simp) rfl Tryd.underlying31 Tryd.underlying5 Tryd.underlying9 rfl (fun w hI => hI.old hsuf hbq)) (fun w hI => hI.pick (is := [0, 1]) (by decide) rfl) ?_
                  refine AnyJ.take (fuel := 5) (listed' := #[true, true, true, true, true, true, true, true, true, true, true, true, false, false, false, false, false]) 11 rfl (by kernel_rfl) (by kernel_rfl) (by kernel_rfl) rfl rfl rfl rfl (Yld.lookupOk mapT rfl rfl rfl (fun w hI => hI.hs _ (List.mem_of_getElem? (i := 1) rfl))) (fun w hI => hI.pick (is := [0, 1]) (by decide) rfl) ?_
                  refine AnyJ.take (fuel := 4) (listed' := #[true, true, true, true, true, true, true, true, true, true, true, true, true, false, false, false, false]) 12 rfl (by kernel_rfl) (by kernel_rfl) (by kernel_rfl) rfl rfl rfl rfl (Yld.move rfl rfl) (fun w hI => hI.pick (is := [0, 1]) (by decide) rfl) ?_
                  refine AnyJ.take (fuel := 3) (listed' := #[true, true, true, true, true, true, true, true, true, true, true, true, true, true, false, false, false]) 13 rfl (by kernel_rfl) (by kernel_rfl) (by kernel_rfl) rfl rfl rfl rfl (Yld.extract rfl rfl rfl) (fun w hI => hI.pick (is := [0, 1]) (by decide) rfl) ?_
                  refine AnyJ.take (fuel := 2) (listed' := #[true, true, true, true, true, true, true, true, true, true, true, true, true, true, true, false, false]) 14 rfl (by kernel_rfl) (by kernel_rfl) (by kernel_rfl) rfl rfl rfl rfl (Yld.extract rfl rfl rfl) (fun w hI => hI.pick (is := [0, 1]) (by decide) rfl) ?_
                  refine AnyJ.take (fuel := 1) (listed' := #[true, true, true, true, true, true, true, true, true, true, true, true, true, true, true, true, false]) 15 rfl (by kernel_rfl) (by kernel_rfl) (by kernel_rfl) rfl rfl rfl rfl (Yld.assign rfl rfl) (fun w hI => hI.pick (is := [0, 1]) (by decide) rfl) ?_
                  refine AnyJ.take (fuel := 0) (listed' := #[true, true, true, true, true, true, true, true, true, true, true, true, true, true, true, true, true]) 16 rfl (by kernel_rfl) (by kernel_rfl) (by kernel_rfl) rfl rfl rfl rfl (Yld.assign rfl rfl) (fun w hI => hI.pick (is := [0, 1]) (by decide) rfl) ?_
                  refine AnyJ.done (by kernel_rfl) ?_
                  refine ExJ.thenN ?_
                  refine CodeJ.seq ?_
                  refine CodeJ.region ?_
                  refine OpsJ.yld rfl rfl rfl (Yld.move rfl rfl) ?_
                  refine OpsJ.nil ?_
                  refine ExJ.thenN ?_
                  refine CodeJ.cond rfl (fun c144 => ?_) (fun c144 => ?_)
                  · obtain ⟨q, hq⟩ := Option.isSome_iff_exists.1 c144
                    rw [hq] at hpk ⊢
                    have hq2 : q < 65536 := by
                      have := lookup_mem hq
                      exact hm' _ this
                    refine CodeJ.seq ?_
                    refine CodeJ.region ?_
                    refine OpsJ.yld rfl rfl rfl (Yld.move rfl rfl) ?_
                    refine OpsJ.yld rfl rfl rfl (Yld.move rfl rfl) ?_
                    refine OpsJ.yld rfl rfl rfl (Yld.shr rfl rfl rfl (by decide)) ?_
                    rw [shr8]
                    refine OpsJ.yld rfl rfl rfl (Yld.intBin rfl rfl rfl rfl) ?_
                    refine OpsJ.yld rfl rfl rfl (Yld.convInt rfl Tryd.underlying22 Tryd.underlying5 rfl) ?_
                    rw [ptr_hi ((some q).getD 0) hq2]
                    refine OpsJ.yld rfl rfl rfl (Yld.move rfl rfl) ?_
                    refine OpsJ.yld rfl rfl rfl (Yld.convInt rfl Tryd.underlying22 Tryd.underlying5 rfl) ?_
                    rw [u8_wrap]
                    refine OpsJ.op rfl ?_
                    refine OpJ.buildSlice (xs := [.tmp 149, .tmp 151]) elt_31 rfl rfl rfl rfl rfl rfl (by rfl) (by decide) fun two htwo => ?_
                    refine OpsJ.op rfl ?_
                    refine OpJ.appendB (i := 1) (news := ptrB q) elt_31 rfl rfl rfl rfl rfl rfl (fun w hI => Bytes.src (Inv.bytes (k := 0) rfl w hI) Tryd.underlying31) (by simp [ptrB]; omega) fun p153 c153 => ?_
                    refine OpsJ.yld rfl rfl rfl (Yld.assign rfl rfl) ?_
                    refine OpsJ.yld rfl rfl rfl (Yld.assign rfl rfl) ?_
                    refine OpsJ.nil ?_
                    refine ExJ.thenN ?_
                    refine CodeJ.ret ?_
                    refine ExJ.thenR ?_
                    refine ExJ.blockR ?_
                    refine ExJ.thenR ?_
                    refine ExJ.thenR ?_
                    refine ExJ.blockR ?_
                    refine ExJ.thenR ?_
                    refine ExJ.ret2 Tryd.results89 rfl rfl ?_ fun w hI => hI.pick (is := [1, 2]) (by decide) rfl
                    rw [packN_pk _ _ _ _ hne, hpk]
                    exact ⟨_, _, by rw [List.append_assoc], by rw [List.append_assoc]⟩
                  · have hq : m'.lookup (l.drop i) = none := by simpa using c144
                    rw [hq] at hpk
                    refine CodeJ.skip ?_
                    refine ExJ.thenN ?_
                    refine CodeJ.seq ?_
                    refine CodeJ.region ?_
                    refine OpsJ.yld rfl rfl rfl (Yld.move rfl rfl) ?_
                    refine OpsJ.yld rfl rfl rfl (Yld.lenSlice rfl rfl rfl Tryd.underlying31 rfl) ?_
                    refine OpsJ.yld rfl rfl rfl (Yld.move rfl rfl) ?_
                    refine OpsJ.yld rfl rfl rfl (Yld.intBin rfl rfl rfl rfl) ?_
                    rw [i64_sub _ _ (by omega) (by omega)]
                    refine OpsJ.yld rfl rfl rfl (Yld.assign rfl rfl) ?_
                    refine OpsJ.nil ?_
                    refine ExJ.thenN ?_
                    refine CodeJ.seq ?_
                    refine CodeJ.region ?_
                    refine OpsJ.yld rfl rfl rfl (Yld.move rfl rfl) ?_
                    refine OpsJ.yld rfl rfl rfl (Yld.intBin rfl rfl rfl rfl) ?_
                    refine OpsJ.nil ?_
                    refine ExJ.thenN ?_
                    refine CodeJ.condP rfl (fun c159 => ?_) (fun c159 => ?_)
                    · have hfit : bs'.length - off + ys.length ≤ 16383 := by omega
                      have hmod : ((bs' ++ ys).length - off) % 65536 = bs'.length - off + ys.length := by omega
                      have hpk0 := hpk
                      simp only [hfit, if_true] at hpk
                      rw [hdrop] at hpk
                      have hm2 : ∀ z ∈ m' ++ [(x :: l.drop (i + 1), bs'.length - off + ys.length)], z.2 < 65536 := fun z hz => by
                        rcases List.mem_append.1 hz with h | h
                        · exact hm' z h
                        · simp at h
                          subst h
                          simp
                          omega
                      refine CodeJ.seq ?_
                      refine CodeJ.seq ?_
                      refine CodeJ.region ?_
                      refine OpsJ.yld rfl rfl rfl (Yld.move rfl rfl) ?_
                      refine OpsJ.yld rfl rfl rfl (Yld.strEq rfl rfl rfl) ?_
                      refine OpsJ.nil ?_
                      refine ExJ.thenN ?_
                      refine CodeJ.cond rfl (fun c161 => ?_) (fun c161 => ?_)
                      · refine CodeJ.any (fuel := 10) (listed := #[false, false, false, false, false, false, false, false, false, false]) [0, 1] rfl follows_mixed rfl rfl ?_
                        refine AnyJ.take (fuel := 9) (listed' := #[true, false, false, false, false, false, false, false, false, false]) 0 rfl (by kernel_rfl) (by kernel_rfl) (by kernel_rfl) rfl rfl rfl rfl (Yld.move rfl rfl) (fun w hI => hI.pick (is := [0, 1]) (by decide) rfl) ?_
                        refine AnyJ.take (fuel := 8) (listed' := #[true, true, false, false, false, false, false, false, false, false]) 1 rfl (by kernel_rfl) (by kernel_rfl) (by kernel_rfl) rfl rfl rfl rfl (Yld.nilCheck rfl rfl) (fun w hI => hI.pick (is := [0, 1]) (by decide) rfl) ?_
                        refine AnyJ.take (fuel := 7) (listed' := #[true, true, true, false, false, false, false, false, false, false]) 2 rfl (by kernel_rfl) (by kernel_rfl) (by kernel_rfl) rfl rfl rfl rfl (Yld.fieldAddr fa_63_0 rfl rfl) (fun w hI => hI.pick (is := [0, 1]) (by decide) rfl) ?_
                        refine AnyJ.take (fuel := 6) (listed' := #[true, true, true, true, false, false, false, false, false, false]) 3 rfl (by kernel_rfl) (by kernel_rfl) (by kernel_rfl) rfl rfl rfl rfl (Yld.move rfl rfl) (fun w hI => hI.pick (is := [0, 1]) (by decide) rfl) ?_
                        refine AnyJ.take (fuel := 5) (listed' := #[true, true, true, true, true, false, false, false, false, false]) 4 rfl (by kernel_rfl) (by kernel_rfl) (by kernel_rfl) rfl rfl rfl rfl (Yld.nilCheck rfl rfl) (fun w hI => hI.pick (is := [0, 1]) (by decide) rfl) ?_
                        refine AnyJ.take (fuel := 4) (listed' := #[true, true, true, true, true, true, false, false, false, false]) 5 rfl (by kernel_rfl) (by kernel_rfl) (by kernel_rfl) rfl rfl rfl rfl (Yld.fieldAddr fa_63_1 rfl rfl) (fun w hI => hI.pick (is := [0, 1]) (by decide) rfl) ?_
                        refine AnyJ.take (fuel := 3) (listed' := #[true, true, true, true, true, true, true, false, false, false]) 6 rfl (by kernel_rfl) (by kernel_rfl) (by kernel_rfl) rfl rfl rfl rfl (Yld.load1 rfl Tryd.underlying5 rfl rfl (fun w hI => hI.old hlenC hbq)) (fun w hI => hI.pick (is := [0, 1]) (by decide) rfl) ?_
                        refine AnyJ.take (fuel := 2) (listed' := #[true, true, true, true, true, true, true, true, false, false]) 7 rfl (by kernel_rfl) (by kernel_rfl) (by kernel_rfl) rfl rfl rfl rfl (Yld.sliceArrTo rfl Tryd.underlying61 sz_5 rfl rfl (by omega)) (fun w hI => hI.pick (is := [0, 1]) (by decide) rfl) ?_
                        refine AnyJ.take (fuel := 1) (listed' := #[true, true, true, true, true, true, true, true, true, false]) 8 rfl (by kernel_rfl) (by kernel_rfl) (by kernel_rfl) rfl rfl rfl rfl (Yld.bytesStr (bs := l) rfl rfl Tryd.underlying31 Tryd.underlying5 Tryd.underlying9 rfl (fun w hI => hI.old hall hbq)) (fun w hI => hI.pick (is := [0, 1]) (by decide) rfl) ?_
                        refine AnyJ.take (fuel := 0) (listed' := #[true, true, true, true, true, true, true, true, true, true]) 9 rfl (by kernel_rfl) (by kernel_rfl) (by kernel_rfl) rfl rfl rfl rfl (Yld.assign rfl rfl) (fun w hI => hI.pick (is := [0, 1]) (by decide) rfl) ?_
                        refine AnyJ.done (by kernel_rfl) ?_
                        refine ExJ.thenN ?_
                        refine CodeJ.region ?_
                        refine OpsJ.yld rfl rfl rfl (Yld.move rfl rfl) ?_
                        refine OpsJ.yld rfl rfl rfl (Yld.move rfl rfl) ?_
                        refine OpsJ.yld rfl rfl rfl (Yld.move rfl rfl) ?_
                        refine OpsJ.yld rfl rfl rfl (Yld.sliceStr (s := ⟨l.toArray⟩) rfl Tryd.underlying9 rfl rfl hi) ?_
                        refine OpsJ.yld rfl rfl rfl (Yld.move rfl rfl) ?_
                        refine OpsJ.yld rfl rfl rfl (Yld.convInt rfl Tryd.underlying3 Tryd.underlying22 rfl) ?_
                        rw [u16_wrap]
                        refine OpsJ.op rfl ?_
                        refine OpJ.mapNew (i := 1) (k := l.drop i) mapT rfl rfl rfl rfl rfl rfl hq ?_
                        refine OpsJ.nil ?_
                        refine ExJ.blockN ?_
                        refine ExJ.thenN ?_
                        refine CodeJ.region ?_
                        refine OpsJ.yld rfl rfl rfl (Yld.move rfl rfl) ?_
                        refine OpsJ.yld rfl rfl rfl (Yld.intBin rfl rfl rfl rfl) ?_
                        rw [i64_succ _ (by omega)]
                        refine OpsJ.yld rfl rfl rfl (Yld.assign rfl rfl) ?_
                        refine OpsJ.nil ?_
                        exact ExJ.againP ⟨i + 1, lab ++ [x], ys, m' ++ [(x :: l.drop (i + 1), bs'.length - off + ys.length)], p', c', ⟨l.toArray⟩, by omega, hpk, hlab', by simp; omega, hiff', .inr rfl, by simp; omega, hm2, rfl, rfl, rfl⟩ (by omega) ⟨rfl, rfl, rfl, rfl, rfl, rfl, rfl, by rw [hb0]; rfl, trivial⟩ fun w hI => by rw [← hdrop, ← hmod]; exact hI
                      · obtain rfl : nas = ⟨l.toArray⟩ := by
                          rcases hnas with h | h
                          · subst h
                            simp [toList_eq] at c161
                          · exact h
                        refine CodeJ.skip ?_
                        refine ExJ.thenN ?_
                        refine CodeJ.region ?_
                        refine OpsJ.yld rfl rfl rfl (Yld.move rfl rfl) ?_
                        refine OpsJ.yld rfl rfl rfl (Yld.move rfl rfl) ?_
                        refine OpsJ.yld rfl rfl rfl (Yld.move rfl rfl) ?_
                        refine OpsJ.yld rfl rfl rfl (Yld.sliceStr (s := ⟨l.toArray⟩) rfl Tryd.underlying9 rfl rfl hi) ?_
                        refine OpsJ.yld rfl rfl rfl (Yld.move rfl rfl) ?_
                        refine OpsJ.yld rfl rfl rfl (Yld.convInt rfl Tryd.underlying3 Tryd.underlying22 rfl) ?_
                        rw [u16_wrap]
                        refine OpsJ.op rfl ?_
                        refine OpJ.mapNew (i := 1) (k := l.drop i) mapT rfl rfl rfl rfl rfl rfl hq ?_
                        refine OpsJ.nil ?_
                        refine ExJ.blockN ?_
                        refine ExJ.thenN ?_
                        refine CodeJ.region ?_
                        refine OpsJ.yld rfl rfl rfl (Yld.move rfl rfl) ?_
                        refine OpsJ.yld rfl rfl rfl (Yld.intBin rfl rfl rfl rfl) ?_
                        rw [i64_succ _ (by omega)]
                        refine OpsJ.yld rfl rfl rfl (Yld.assign rfl rfl) ?_
                        refine OpsJ.nil ?_
                        exact ExJ.againP ⟨i + 1, lab ++ [x], ys, m' ++ [(x :: l.drop (i + 1), bs'.length - off + ys.length)], p', c', ⟨l.toArray⟩, by omega, hpk, hlab', by simp; omega, hiff', .inr rfl, by simp; omega, hm2, rfl, rfl, rfl⟩ (by omega) ⟨rfl, rfl, rfl, rfl, rfl, rfl, rfl, by rw [hb0]; rfl, trivial⟩ fun w hI => by rw [← hdrop, ← hmod]; exact hI
                    · have hfit : ¬ bs'.length - off + ys.length ≤ 16383 := by omega
                      simp only [hfit, if_false] at hpk
                      refine CodeJ.skip ?_
                      refine ExJ.blockN ?_
                      refine ExJ.thenN ?_
                      refine CodeJ.region ?_
                      refine OpsJ.yld rfl rfl rfl (Yld.move rfl rfl) ?_
                      refine OpsJ.yld rfl rfl rfl (Yld.intBin rfl rfl rfl rfl) ?_
                      rw [i64_succ _ (by omega)]
                      refine OpsJ.yld rfl rfl rfl (Yld.assign rfl rfl) ?_
                      refine OpsJ.nil ?_
                      exact ExJ.againP ⟨i + 1, lab ++ [x], ys, m', p', c', nas, by omega, hpk, hlab', by simp; omega, hiff', hnas, by simp; omega, hm', rfl, rfl, rfl⟩ (by omega) ⟨rfl, rfl, rfl, rfl, rfl, rfl, rfl, by rw [hb0]; rfl, trivial⟩ fun w hI => hI
                · rw [if_neg (fun h => by rw [c128] at h; exact absurd h.2 (by decide))] at hpk
                  refine CodeJ.skip ?_
                  refine ExJ.blockN ?_
                  refine ExJ.thenN ?_
                  refine CodeJ.region ?_
                  refine OpsJ.yld rfl rfl rfl (Yld.move rfl rfl) ?_
                  refine OpsJ.yld rfl rfl rfl (Yld.intBin rfl rfl rfl rfl) ?_
                  rw [i64_succ _ (by omega)]
                  refine OpsJ.yld rfl rfl rfl (Yld.assign rfl rfl) ?_
                  refine OpsJ.nil ?_
                  exact ExJ.againP ⟨i + 1, lab ++ [x], ys, m', p', c', nas, by omega, hpk, hlab', by simp; omega, hiff', hnas, by simp; omega, hm', rfl, rfl, rfl⟩ (by omega) ⟨rfl, rfl, rfl, rfl, rfl, rfl, rfl, by rw [hb0]; rfl, trivial⟩ fun w hI => hI
              · have hi0 : ¬ i = 0 := by
                  intro h
                  simp [h] at g115
                obtain ⟨y, hy⟩ : ∃ y, l[i - 1]? = some y := ⟨l[i - 1], List.getElem?_eq_getElem (by omega)⟩
                have hsub1 : IntKind.i64.wrap ((i : Int) - 1) = ((i - 1 : Nat) : Int) := i64_sub i 1 (by omega) (by omega)
                refine OpsJ.opT rfl rfl rfl ?_
                refine OpJ.yld rfl rfl (Yld.move rfl rfl) ?_
                refine OpsJ.opT rfl rfl rfl ?_
                refine OpJ.yld rfl rfl (Yld.move rfl rfl) ?_
                refine OpsJ.opT rfl rfl rfl ?_
                refine OpJ.yld rfl rfl (Yld.intBin rfl rfl rfl rfl) ?_
                rw [hsub1]
                refine OpsJ.opT rfl rfl rfl ?_
                refine OpJ.yld rfl rfl (Yld.nilCheck rfl rfl) ?_
                refine OpsJ.opT rfl rfl rfl ?_
                refine OpJ.yld rfl rfl (Yld.fieldAddr fa_63_0 rfl rfl) ?_
                refine OpsJ.opT rfl rfl rfl ?_
                refine OpJ.yld rfl rfl (Yld.indexAddrArr rfl Tryd.underlying61 sz_5 rfl rfl (by omega)) ?_
                refine OpsJ.opT rfl rfl rfl ?_
                refine OpJ.yld rfl rfl (Yld.load1 rfl Tryd.underlying5 rfl rfl (fun w hI => hI.old (hbyte _ _ hy) hbq)) ?_
                refine OpsJ.opT rfl rfl rfl ?_
                refine OpJ.yld rfl rfl (Yld.intBin rfl rfl rfl rfl) ?_
                refine OpsJ.yld rfl rfl rfl (Yld.pickF rfl rfl rfl) ?_
                refine OpsJ.yld rfl rfl rfl (Yld.move rfl rfl) ?_
                refine OpsJ.splitB (s := 125) rfl (fun g125 => ?_) (fun g125 => ?_)
                · have hnil : lab = [] := hlab0.2 (.inr (by rw [hy, (dotE y).1 g125]))
                  refine OpsJ.opT rfl rfl rfl ?_
                  refine OpJ.yld rfl rfl (Yld.move rfl rfl) ?_
                  refine OpsJ.opT rfl rfl rfl ?_
                  refine OpJ.yld rfl rfl (Yld.mapNeNil rfl Tryd.underlying111 rfl) ?_
                  refine OpsJ.yld rfl rfl rfl (Yld.pickT rfl rfl rfl) ?_
                  refine OpsJ.nil ?_
                  refine ExJ.thenN ?_
                  refine CodeJ.cond rfl (fun c128 => ?_) (fun c128 => ?_)
                  · obtain ⟨bm, rfl⟩ := Option.isSome_iff_exists.1 c128
                    rw [if_pos ⟨hnil, rfl⟩, ← hdrop] at hpk
                    refine CodeJ.seq ?_
                    refine CodeJ.seq ?_
                    refine CodeJ.any (fuel := 17) (listed := #[false, false, false, false, false, false, false, false, false, false, false, false, false, false, false, false, false]) [0, 1] rfl follows_mixed rfl rfl ?_
                    refine AnyJ.take (fuel := 16) (listed' := #[true, false, false, false, false, false, false, false, false, false, false, false, false, false, false, false, false]) 0 rfl (by kernel_rfl) (by kernel_rfl) (by kernel_rfl) rfl rfl rfl rfl (Yld.move rfl rfl) (fun w hI => hI.pick (is := [0, 1]) (by decide) rfl) ?_
                    refine AnyJ.take (fuel := 15) (listed' := #[true, true, false, false, false, false, false, false, false, false, false, false, false, false, false, false, false]) 1 rfl (by kernel_rfl) (by kernel_rfl) (by kernel_rfl) rfl rfl rfl rfl (Yld.move rfl rfl) (fun w hI => hI.pick (is := [0, 1]) (by decide) rfl) ?_
                    refine AnyJ.take (fuel := 14) (listed' := #[true, true, true, false, false, false, false, false, false, false, false, false, false, false, false, false, false]) 2 rfl (by kernel_rfl) (by kernel_rfl) (by kernel_rfl) rfl rfl rfl rfl (Yld.nilCheck rfl rfl) (fun w hI => hI.pick (is := [0, 1]) (by decide) rfl) ?_
                    refine AnyJ.take (fuel := 13) (listed' := #[true, true, true, true, false, false, false, false, false, false, false, false, false, false, false, false, false]) 3 rfl (by kernel_rfl) (by kernel_rfl) (by kernel_rfl) rfl rfl rfl rfl (Yld.fieldAddr fa_63_0 rfl rfl) (fun w hI => hI.pick (is := [0, 1]) (by decide) rfl) ?_
                    refine AnyJ.take (fuel := 12) (listed' := #[true, true, true, true, true, false, false, false, false, false, false, false, false, false, false, false, false]) 4 rfl (by kernel_rfl) (by kernel_rfl) (by kernel_rfl) rfl rfl rfl rfl (Yld.move rfl rfl) (fun w hI => hI.pick (is := [0, 1]) (by decide) rfl) ?_
                    refine AnyJ.take (fuel := 11) (listed' := #[true, true, true, true, true, true, false, false, false, false, false, false, false, false, false, false, false]) 5 rfl (by kernel_rfl) (by kernel_rfl) (by kernel_rfl) rfl rfl rfl rfl (Yld.move rfl rfl) (fun w hI => hI.pick (is := [0, 1]) (by decide) rfl) ?_
                    refine AnyJ.take (fuel := 10) (listed' := #[true, true, true, true, true, true, true, false, false, false, false, false, false, false, false, false, false]) 6 rfl (by kernel_rfl) (by kernel_rfl) (by kernel_rfl) rfl rfl rfl rfl (Yld.nilCheck rfl rfl) (fun w hI => hI.pick (is := [0, 1]) (by decide) rfl) ?_
                    refine AnyJ.take (fuel := 9) (listed' := #[true, true, true, true, true, true, true, true, false, false, false, false, false, false, false, false, false]) 7 rfl (by kernel_rfl) (by kernel_rfl) (by kernel_rfl) rfl rfl rfl rfl (Yld.fieldAddr fa_63_1 rfl rfl) (fun w hI => hI.pick (is := [0, 1]) (by decide) rfl) ?_
                    refine AnyJ.take (fuel := 8) (listed' := #[true, true, true, true, true, true, true, true, true, false, false, false, false, false, false, false, false]) 8 rfl (by kernel_rfl) (by kernel_rfl) (by kernel_rfl) rfl rfl rfl rfl (Yld.load1 rfl Tryd.underlying5 rfl rfl (fun w hI => hI.old hlenC hbq)) (fun w hI => hI.pick (is := [0, 1]) (by decide) rfl) ?_
                    refine AnyJ.take (fuel := 7) (listed' := #[true, true, true, true, true, true, true, true, true, true, false, false, false, false, false, false, false]) 9 rfl (by kernel_rfl) (by kernel_rfl) (by kernel_rfl) rfl rfl rfl rfl (Yld.sliceArr rfl Tryd.underlying61 sz_5 rfl rfl rfl hi (by omega) (by omega)) (fun w hI => hI.pick (is := [0, 1]) (by decide) rfl) ?_
                    refine AnyJ.take (fuel := 6) (listed' := #[true, true, true, true, true, true, true, true, true, true, true, false, false, false, false, false, false]) 10 rfl (by kernel_rfl) (by kernel_rfl) (by kernel_rfl) rfl rfl rfl rfl (Yld.bytesStr (bs := l.drop i) (by simp) rfl Tryd.underlying31 Tryd.underlying5 Tryd.underlying9 rfl (fun w hI => hI.old hsuf hbq)) (fun w hI => hI.pick (is := [0, 1]) (by decide) rfl) ?_
                    refine AnyJ.take (fuel := 5) (listed' := #[true, true, true, true, true, true, true, true, true, true, true, true, false, false, false, false, false]) 11 rfl (by kernel_rfl) (by kernel_rfl) (by kernel_rfl) rfl rfl rfl rfl (Yld.lookupOk mapT rfl rfl rfl (fun w hI => hI.hs _ (List.mem_of_getElem? (i := 1) rfl))) (fun w hI => hI.pick (is := [0, 1]) (by decide) rfl) ?_
                    refine AnyJ.take (fuel := 4) (listed' := #[true, true, true, true, true, true, true, true, true, true, true, true, true, false, false, false, false]) 12 rfl (by kernel_rfl) (by kernel_rfl) (by kernel_rfl) rfl rfl rfl rfl (Yld.move rfl rfl) (fun w hI => hI.pick (is := [0, 1]) (by decide) rfl) ?_
                    refine AnyJ.take (fuel := 3) (listed' := #[true, true, true, true, true, true, true, true, true, true, true, true, true, true, false, false, false]) 13 rfl (by kernel_rfl) (by kernel_rfl) (by kernel_rfl) rfl rfl rfl rfl (Yld.extract rfl rfl rfl) (fun w hI => hI.pick (is := [0, 1]) (by decide) rfl) ?_
                    refine AnyJ.take (fuel := 2) (listed' := #[true, true, true, true, true, true, true, true, true, true, true, true, true, true, true, false, false]) 14 rfl (by kernel_rfl) (by kernel_rfl) (by kernel_rfl) rfl rfl rfl rfl (Yld.extract rfl rfl rfl) (fun w hI => hI.pick (is := [0, 1]) (by decide) rfl) ?_
                    refine AnyJ.take (fuel := 1) (listed' := #[true, true, true, true, true, true, true, true, true, true, true, true, true, true, true, true, false]) 15 rfl (by kernel_rfl) (by kernel_rfl) (by kernel_rfl) rfl rfl rfl rfl (Yld.assign rfl rfl) (fun w hI => hI.pick (is := [0, 1]) (by decide) rfl) ?_
                    refine AnyJ.take (fuel := 0) (listed' := #[true, true, true, true, true, true, true, true, true, true, true, true, true, true, true, true, true]) 16 rfl (by kernel_rfl) (by kernel_rfl) (by kernel_rfl) rfl rfl rfl rfl (Yld.assign rfl rfl) (fun w hI => hI.pick (is := [0, 1]) (by decide) rfl) ?_
                    refine AnyJ.done (by kernel_rfl) ?_
                    refine ExJ.thenN ?_
                    refine CodeJ.seq ?_
                    refine CodeJ.region ?_
                    refine OpsJ.yld rfl rfl rfl (Yld.move rfl rfl) ?_
                    refine OpsJ.nil ?_
                    refine ExJ.thenN ?_
                    refine CodeJ.cond rfl (fun c144 => ?_) (fun c144 => ?_)
                    · obtain ⟨q, hq⟩ := Option.isSome_iff_exists.1 c144
                      rw [hq] at hpk ⊢
                      have hq2 : q < 65536 := by
                        have := lookup_mem hq
                        exact hm' _ this
                      refine CodeJ.seq ?_
                      refine CodeJ.region ?_
                      refine OpsJ.yld rfl rfl rfl (Yld.move rfl rfl) ?_
                      refine OpsJ.yld rfl rfl rfl (Yld.move rfl rfl) ?_
                      refine OpsJ.yld rfl rfl rfl (Yld.shr rfl rfl rfl (by decide)) ?_
                      rw [shr8]
                      refine OpsJ.yld rfl rfl rfl (Yld.intBin rfl rfl rfl rfl) ?_
                      refine OpsJ.yld rfl rfl rfl (Yld.convInt rfl Tryd.underlying22 Tryd.underlying5 rfl) ?_
                      rw [ptr_hi ((some q).getD 0) hq2]
                      refine OpsJ.yld rfl rfl rfl (Yld.move rfl rfl) ?_
                      refine OpsJ.yld rfl rfl rfl (Yld.convInt rfl Tryd.underlying22 Tryd.underlying5 rfl) ?_
                      rw [u8_wrap]
                      refine OpsJ.op rfl ?_
                      refine OpJ.buildSlice (xs := [.tmp 149, .tmp 151]) elt_31 rfl rfl rfl rfl rfl rfl (by rfl) (by decide) fun two htwo => ?_
                      refine OpsJ.op rfl ?_
                      refine OpJ.appendB (i := 1) (news := ptrB q) elt_31 rfl rfl rfl rfl rfl rfl (fun w hI => Bytes.src (Inv.bytes (k := 0) rfl w hI) Tryd.underlying31) (by simp [ptrB]; omega) fun p153 c153 => ?_
                      refine OpsJ.yld rfl rfl rfl (Yld.assign rfl rfl) ?_
                      refine OpsJ.yld rfl rfl rfl (Yld.assign rfl rfl) ?_
                      refine OpsJ.nil ?_
                      refine ExJ.thenN ?_
                      refine CodeJ.ret ?_
                      refine ExJ.thenR ?_
                      refine ExJ.blockR ?_
                      refine ExJ.thenR ?_
                      refine ExJ.thenR ?_
                      refine ExJ.blockR ?_
                      refine ExJ.thenR ?_
                      refine ExJ.ret2 Tryd.results89 rfl rfl ?_ fun w hI => hI.pick (is := [1, 2]) (by decide) rfl
                      rw [packN_pk _ _ _ _ hne, hpk]
                      exact ⟨_, _, by rw [List.append_assoc], by rw [List.append_assoc]⟩
                    · have hq : m'.lookup (l.drop i) = none := by simpa using c144
                      rw [hq] at hpk
                      refine CodeJ.skip ?_
                      refine ExJ.thenN ?_
                      refine CodeJ.seq ?_
                      refine CodeJ.region ?_
                      refine OpsJ.yld rfl rfl rfl (Yld.move rfl rfl) ?_
                      refine OpsJ.yld rfl rfl rfl (Yld.lenSlice rfl rfl rfl Tryd.underlying31 rfl) ?_
                      refine OpsJ.yld rfl rfl rfl (Yld.move rfl rfl) ?_
                      refine OpsJ.yld rfl rfl rfl (Yld.intBin rfl rfl rfl rfl) ?_
                      rw [i64_sub _ _ (by omega) (by omega)]
                      refine OpsJ.yld rfl rfl rfl (Yld.assign rfl rfl) ?_
                      refine OpsJ.nil ?_
                      refine ExJ.thenN ?_
                      refine CodeJ.seq ?_
                      refine CodeJ.region ?_
                      refine OpsJ.yld rfl rfl rfl (Yld.move rfl rfl) ?_
                      refine OpsJ.yld rfl rfl rfl (Yld.intBin rfl rfl rfl rfl) ?_
                      refine OpsJ.nil ?_
                      refine ExJ.thenN ?_
                      refine CodeJ.condP rfl (fun c159 => ?_) (fun c159 => ?_)
                      · have hfit : bs'.length - off + ys.length ≤ 16383 := by omega
                        have hmod : ((bs' ++ ys).length - off) % 65536 = bs'.length - off + ys.length := by omega
                        have hpk0 := hpk
                        simp only [hfit, if_true] at hpk
                        rw [hdrop] at hpk
                        have hm2 : ∀ z ∈ m' ++ [(x :: l.drop (i + 1), bs'.length - off + ys.length)], z.2 < 65536 := fun z hz => by
                          rcases List.mem_append.1 hz with h | h
                          · exact hm' z h
                          · simp at h
                            subst h
                            simp
                            omega
                        refine CodeJ.seq ?_
                        refine CodeJ.seq ?_
                        refine CodeJ.region ?_
                        refine OpsJ.yld rfl rfl rfl (Yld.move rfl rfl) ?_
                        refine OpsJ.yld rfl rfl rfl (Yld.strEq rfl rfl rfl) ?_
                        refine OpsJ.nil ?_
                        refine ExJ.thenN ?_
                        refine CodeJ.cond rfl (fun c161 => ?_) (fun c161 => ?_)
                        · refine CodeJ.any (fuel := 10) (listed := #[false, false, false, false, false, false, false, false, false, false]) [0, 1] rfl follows_mixed rfl rfl ?_
                          refine AnyJ.take (fuel := 9) (listed' := #[true, false, false, false, false, false, false, false, false, false]) 0 rfl (by kernel_rfl) (by kernel_rfl) (by kernel_rfl) rfl rfl rfl rfl (Yld.move rfl rfl) (fun w hI => hI.pick (is := [0, 1]) (by decide) rfl) ?_
                          refine AnyJ.take (fuel := 8) (listed' := #[true, true, false, false, false, false, false, false, false, false]) 1 rfl (by kernel_rfl) (by kernel_rfl) (by kernel_rfl) rfl rfl rfl rfl (Yld.nilCheck rfl rfl) (fun w hI => hI.pick (is := [0, 1]) (by decide) rfl) ?_
                          refine AnyJ.take (fuel := 7) (listed' := #[true, true, true, false, false, false, false, false, false, false]) 2 rfl (by kernel_rfl) (by kernel_rfl) (by kernel_rfl) rfl rfl rfl rfl (Yld.fieldAddr fa_63_0 rfl rfl) (fun w hI => hI.pick (is := [0, 1]) (by decide) rfl) ?_
                          refine AnyJ.take (fuel := 6) (listed' := #[true, true, true, true, false, false, false, false, false, false]) 3 rfl (by kernel_rfl) (by kernel_rfl) (by kernel_rfl) rfl rfl rfl rfl (Yld.move rfl rfl) (fun w hI => hI.pick (is := [0, 1]) (by decide) rfl) ?_
                          refine AnyJ.take (fuel := 5) (listed' := #[true, true, true, true, true, false, false, false, false, false]) 4 rfl (by kernel_rfl) (by kernel_rfl) (by kernel_rfl) rfl rfl rfl rfl (Yld.nilCheck rfl rfl) (fun w hI => hI.pick (is := [0, 1]) (by decide) rfl) ?_
                          refine AnyJ.take (fuel := 4) (listed' := #[true, true, true, true, true, true, false, false, false, false]) 5 rfl (by kernel_rfl) (by kernel_rfl) (by kernel_rfl) rfl rfl rfl rfl (Yld.fieldAddr fa_63_1 rfl rfl) (fun w hI => hI.pick (is := [0, 1]) (by decide) rfl) ?_
                          refine AnyJ.take (fuel := 3) (listed' := #[true, true, true, true, true, true, true, false, false, false]) 6 rfl (by kernel_rfl) (by kernel_rfl) (by kernel_rfl) rfl rfl rfl rfl (Yld.load1 rfl Tryd.underlying5 rfl rfl (fun w hI => hI.old hlenC hbq)) (fun w hI => hI.pick (is := [0, 1]) (by decide) rfl) ?_
                          refine AnyJ.take (fuel := 2) (listed' := #[true, true, true, true, true, true, true, true, false, false]) 7 rfl (by kernel_rfl) (by kernel_rfl) (by kernel_rfl) rfl rfl rfl rfl (Yld.sliceArrTo rfl Tryd.underlying61 sz_5 rfl rfl (by omega)) (fun w hI => hI.pick (is := [0, 1]) (by decide) rfl) ?_
                          refine AnyJ.take (fuel := 1) (listed' := #[true, true, true, true, true, true, true, true, true, false]) 8 rfl (by kernel_rfl) (by kernel_rfl) (by kernel_rfl) rfl rfl rfl rfl (Yld.bytesStr (bs := l) rfl rfl Tryd.underlying31 Tryd.underlying5 Tryd.underlying9 rfl (fun w hI => hI.old hall hbq)) (fun w hI => hI.pick (is := [0, 1]) (by decide) rfl) ?_
                          refine AnyJ.take (fuel := 0) (listed' := #[true, true, true, true, true, true, true, true, true, true]) 9 rfl (by kernel_rfl) (by kernel_rfl) (by kernel_rfl) rfl rfl rfl rfl (Yld.assign rfl rfl) (fun w hI => hI.pick (is := [0, 1]) (by decide) rfl) ?_
                          refine AnyJ.done (by kernel_rfl) ?_
                          refine ExJ.thenN ?_
                          refine CodeJ.region ?_
                          refine OpsJ.yld rfl rfl rfl (Yld.move rfl rfl) ?_
                          refine OpsJ.yld rfl rfl rfl (Yld.move rfl rfl) ?_
                          refine OpsJ.yld rfl rfl rfl (Yld.move rfl rfl) ?_
                          refine OpsJ.yld rfl rfl rfl (Yld.sliceStr (s := ⟨l.toArray⟩) rfl Tryd.underlying9 rfl rfl hi) ?_
                          refine OpsJ.yld rfl rfl rfl (Yld.move rfl rfl) ?_
                          refine OpsJ.yld rfl rfl rfl (Yld.convInt rfl Tryd.underlying3 Tryd.underlying22 rfl) ?_
                          rw [u16_wrap]
                          refine OpsJ.op rfl ?_
                          refine OpJ.mapNew (i := 1) (k := l.drop i) mapT rfl rfl rfl rfl rfl rfl hq ?_
                          refine OpsJ.nil ?_
                          refine ExJ.blockN ?_
                          refine ExJ.thenN ?_
                          refine CodeJ.region ?_
                          refine OpsJ.yld rfl rfl rfl (Yld.move rfl rfl) ?_
                          refine OpsJ.yld rfl rfl rfl (Yld.intBin rfl rfl rfl rfl) ?_
                          rw [i64_succ _ (by omega)]
                          refine OpsJ.yld rfl rfl rfl (Yld.assign rfl rfl) ?_
                          refine OpsJ.nil ?_
                          exact ExJ.againP ⟨i + 1, lab ++ [x], ys, m' ++ [(x :: l.drop (i + 1), bs'.length - off + ys.length)], p', c', ⟨l.toArray⟩, by omega, hpk, hlab', by simp; omega, hiff', .inr rfl, by simp; omega, hm2, rfl, rfl, rfl⟩ (by omega) ⟨rfl, rfl, rfl, rfl, rfl, rfl, rfl, by rw [hb0]; rfl, trivial⟩ fun w hI => by rw [← hdrop, ← hmod]; exact hI
                        · obtain rfl : nas = ⟨l.toArray⟩ := by
                            rcases hnas with h | h
                            · subst h
                              simp [toList_eq] at c161
                            · exact h
                          refine CodeJ.skip ?_
                          refine ExJ.thenN ?_
                          refine CodeJ.region ?_
                          refine OpsJ.yld rfl rfl rfl (Yld.move rfl rfl) ?_
                          refine OpsJ.yld rfl rfl rfl (Yld.move rfl rfl) ?_
                          refine OpsJ.yld rfl rfl rfl (Yld.move rfl rfl) ?_
                          refine OpsJ.yld rfl rfl rfl (Yld.sliceStr (s := ⟨l.toArray⟩) rfl Tryd.underlying9 rfl rfl hi) ?_
                          refine OpsJ.yld rfl rfl rfl (Yld.move rfl rfl) ?_
                          refine OpsJ.yld rfl rfl rfl (Yld.convInt rfl Tryd.underlying3 Tryd.underlying22 rfl) ?_
                          rw [u16_wrap]
                          refine OpsJ.op rfl ?_
                          refine OpJ.mapNew (i := 1) (k := l.drop i) mapT rfl rfl rfl rfl rfl rfl hq ?_
                          refine OpsJ.nil ?_
                          refine ExJ.blockN ?_
                          refine ExJ.thenN ?_
                          refine CodeJ.region ?_
                          refine OpsJ.yld rfl rfl rfl (Yld.move rfl rfl) ?_
                          refine OpsJ.yld rfl rfl rfl (Yld.intBin rfl rfl rfl rfl) ?_
                          rw [i64_succ _ (by omega)]
                          refine OpsJ.yld rfl rfl rfl (Yld.assign rfl rfl) ?_
                          refine OpsJ.nil ?_
                          exact ExJ.againP ⟨i + 1, lab ++ [x], ys, m' ++ [(x :: l.drop (i + 1), bs'.length - off + ys.length)], p', c', ⟨l.toArray⟩, by omega, hpk, hlab', by simp; omega, hiff', .inr rfl, by simp; omega, hm2, rfl, rfl, rfl⟩ (by omega) ⟨rfl, rfl, rfl, rfl, rfl, rfl, rfl, by rw [hb0]; rfl, trivial⟩ fun w hI => by rw [← hdrop, ← hmod]; exact hI
                      · have hfit : ¬ bs'.length - off + ys.length ≤ 16383 := by omega
                        simp only [hfit, if_false] at hpk
                        refine CodeJ.skip ?_
                        refine ExJ.blockN ?_
                        refine ExJ.thenN ?_
                        refine CodeJ.region ?_
                        refine OpsJ.yld rfl rfl rfl (Yld.move rfl rfl) ?_
                        refine OpsJ.yld rfl rfl rfl (Yld.intBin rfl rfl rfl rfl) ?_
                        rw [i64_succ _ (by omega)]
                        refine OpsJ.yld rfl rfl rfl (Yld.assign rfl rfl) ?_
                        refine OpsJ.nil ?_
                        exact ExJ.againP ⟨i + 1, lab ++ [x], ys, m', p', c', nas, by omega, hpk, hlab', by simp; omega, hiff', hnas, by simp; omega, hm', rfl, rfl, rfl⟩ (by omega) ⟨rfl, rfl, rfl, rfl, rfl, rfl, rfl, by rw [hb0]; rfl, trivial⟩ fun w hI => hI
                  · rw [if_neg (fun h => by rw [c128] at h; exact absurd h.2 (by decide))] at hpk
                    refine CodeJ.skip ?_
                    refine ExJ.blockN ?_
                    refine ExJ.thenN ?_
                    refine CodeJ.region ?_
                    refine OpsJ.yld rfl rfl rfl (Yld.move rfl rfl) ?_
                    refine OpsJ.yld rfl rfl rfl (Yld.intBin rfl rfl rfl rfl) ?_
                    rw [i64_succ _ (by omega)]
                    refine OpsJ.yld rfl rfl rfl (Yld.assign rfl rfl) ?_
                    refine OpsJ.nil ?_
                    exact ExJ.againP ⟨i + 1, lab ++ [x], ys, m', p', c', nas, by omega, hpk, hlab', by simp; omega, hiff', hnas, by simp; omega, hm', rfl, rfl, rfl⟩ (by omega) ⟨rfl, rfl, rfl, rfl, rfl, rfl, rfl, by rw [hb0]; rfl, trivial⟩ fun w hI => hI
                · have hnn : ¬ lab = [] := fun h => by
                    rcases hlab0.1 h with h1 | h1
                    · exact hi0 h1
                    · rw [hy] at h1
                      exact (dotE' y).1 g125 (by simpa using h1)
                  rw [if_neg (fun h => hnn h.1)] at hpk
                  refine OpsJ.opF rfl rfl rfl rfl rfl rfl ?_
                  refine OpsJ.opF rfl rfl rfl rfl rfl rfl ?_
                  refine OpsJ.yld rfl rfl rfl (Yld.pickF rfl rfl rfl) ?_
                  refine OpsJ.nil ?_
                  refine ExJ.thenN ?_
                  refine CodeJ.condF rfl ?_
                  refine CodeJ.skip ?_
                  refine ExJ.blockN ?_
                  refine ExJ.thenN ?_
                  refine CodeJ.region ?_
                  refine OpsJ.yld rfl rfl rfl (Yld.move rfl rfl) ?_
                  refine OpsJ.yld rfl rfl rfl (Yld.intBin rfl rfl rfl rfl) ?_
                  rw [i64_succ _ (by omega)]
                  refine OpsJ.yld rfl rfl rfl (Yld.assign rfl rfl) ?_
                  refine OpsJ.nil ?_
                  exact ExJ.againP ⟨i + 1, lab ++ [x], ys, m', p', c', nas, by omega, hpk, hlab', by simp; omega, hiff', hnas, by simp; omega, hm', rfl, rfl, rfl⟩ (by omega) ⟨rfl, rfl, rfl, rfl, rfl, rfl, rfl, by rw [hb0]; rfl, trivial⟩ fun w hI => hI
          · obtain rfl : i = l.length := by omega
            rw [List.drop_length, pk] at hpk
            have hbl : (bs' ++ ys).length = bs'.length + ys.length := List.length_append
            refine CodeJ.exit ?_
            refine ExJ.thenX ?_
            refine ExJ.thenX ?_
            refine ExJ.blockHit ?_
            refine ExJ.thenN ?_
            refine CodeJ.seq ?_
            refine CodeJ.region ?_
            refine OpsJ.yld rfl rfl rfl (Yld.move rfl rfl) ?_
            refine OpsJ.op rfl ?_
            refine OpJ.buildSlice (xs := [.const (Go.Value.int Go.IntKind.u8 0)]) elt_31 rfl rfl rfl rfl rfl rfl (by rfl) (by decide) fun one hone => ?_
            refine OpsJ.op rfl ?_
            refine OpJ.appendB (i := 1) (news := [0]) elt_31 rfl rfl rfl rfl rfl rfl (fun w hI => Bytes.src (Inv.bytes (k := 0) rfl w hI) Tryd.underlying31) (by simp; omega) fun p179 c179 => ?_
            refine OpsJ.yld rfl rfl rfl (Yld.assign rfl rfl) ?_
            refine OpsJ.yld rfl rfl rfl (Yld.assign rfl rfl) ?_
            refine OpsJ.nil ?_
            refine ExJ.thenN ?_
            refine CodeJ.ret ?_
            refine ExJ.ret2 Tryd.results89 rfl rfl ?_ fun w hI => hI.pick (is := [1, 2]) (by decide) rfl
            rw [packN_pk _ _ _ _ hne, hpk]
            exact ⟨_, _, by rw [List.append_assoc], by rw [List.append_assoc]⟩
end Go.Proofs.YtamobccbioafmaaDoor

/-
  Contracts of the package: types, classes, questions, headers, and the builder's sections.
-/
namespace Go.Proofs.YtamobccbioafmaaDoor
open Go
set_option maxRecDepth 100000

theorem packType_spec (x : Nat) (v v' : Value) (bs bs' : List UInt8) (hl : bs'.length + 2 ≤ 175921860444160) :
    Spec Tryd.prog 90 [v', .int .u16 x] [appB 5 v bs v' bs'] (fun _ => True) (RetA 5 v bs (bs' ++ be16 x)) := by
  refine Spec.of Tryd.func90 rfl Tryd.ntmps90 rfl fun w0 _ => ?_
  refine CodeJ.seq ?_
  refine CodeJ.region ?_
  refine OpsJ.yld rfl rfl rfl (Yld.assign rfl rfl) ?_
  refine OpsJ.nil ?_
  refine ExJ.thenN ?_
  refine CodeJ.seq ?_
  refine CodeJ.region ?_
  refine OpsJ.yld rfl rfl rfl (Yld.move rfl rfl) ?_
  refine OpsJ.yld rfl rfl rfl (Yld.move rfl rfl) ?_
  refine OpsJ.op rfl ?_
  refine OpJ.call (packUint16_spec x v v' bs bs' hl) has_92 rfl rfl rfl rfl rfl [0] [] (by decide) rfl rfl (fun _ _ => trivial) ?_
  rintro _ _ ⟨p7, c7, rfl, rfl⟩
  refine OpsJ.yld rfl rfl rfl (Yld.assign rfl rfl) ?_
  refine OpsJ.nil ?_
  refine ExJ.thenN ?_
  refine CodeJ.ret ?_
  exact ExJ.ret1 Tryd.results90 rfl ⟨_, _, rfl, rfl⟩ fun w hI => hI
theorem packClass_spec (x : Nat) (v v' : Value) (bs bs' : List UInt8) (hl : bs'.length + 2 ≤ 175921860444160) :
    Spec Tryd.prog 91 [v', .int .u16 x] [appB 5 v bs v' bs'] (fun _ => True) (RetA 5 v bs (bs' ++ be16 x)) := by
  refine Spec.of Tryd.func91 rfl Tryd.ntmps91 rfl fun w0 _ => ?_
  refine CodeJ.seq ?_
  refine CodeJ.region ?_
  refine OpsJ.yld rfl rfl rfl (Yld.assign rfl rfl) ?_
  refine OpsJ.nil ?_
  refine ExJ.thenN ?_
  refine CodeJ.seq ?_
  refine CodeJ.region ?_
  refine OpsJ.yld rfl rfl rfl (Yld.move rfl rfl) ?_
  refine OpsJ.yld rfl rfl rfl (Yld.move rfl rfl) ?_
  refine OpsJ.op rfl ?_
  refine OpJ.call (packUint16_spec x v v' bs bs' hl) has_92 rfl rfl rfl rfl rfl [0] [] (by decide) rfl rfl (fun _ _ => trivial) ?_
  rintro _ _ ⟨p7, c7, rfl, rfl⟩
  refine OpsJ.yld rfl rfl rfl (Yld.assign rfl rfl) ?_
  refine OpsJ.nil ?_
  refine ExJ.thenN ?_
  refine CodeJ.ret ?_
  exact ExJ.ret1 Tryd.results91 rfl ⟨_, _, rfl, rfl⟩ fun w hI => hI

/-- a Question -/
def questCs (l : List UInt8) (typ cls : Nat) : List Value := nameCs l ++ [.int .u16 typ, .int .u16 cls]
def packQ (base : Nat) (on : Bool) (l : List UInt8) (typ cls : Nat) (m : List (List UInt8 × Nat)) : PkRes :=
  match packN base on l m with
  | .ok ys m' => .ok (ys ++ be16 typ ++ be16 cls) m'
  | .err m' => .err m'

/-- a name that pack takes: it ends with a dot and is not too long -/
structure PName (l : List UInt8) : Prop where
  pos : 1 ≤ l.length
  le : l.length ≤ 254
  last : l[l.length - 1]? = some 46

theorem pk_len (base : Nat) (on : Bool) : ∀ (s lab ys : List UInt8) (m : List (List UInt8 × Nat)) (zs : List UInt8) (m' : List (List UInt8 × Nat)), pk base on s lab ys m = .ok zs m' → zs.length ≤ ys.length + lab.length + 2 * s.length + 2
  | [], lab, ys, m, zs, m', h => by
    simp only [pk] at h
    injection h with h1 h2
    subst h1
    simp
    omega
  | c :: r, lab, ys, m, zs, m', h => by
    rw [pk] at h
    split at h
    · split at h
      · cases h
      · split at h
        · cases h
        · have := pk_len base on r [] _ m zs m' h
          simp at this ⊢
          omega
    · split at h
      · split at h
        · injection h with h1 h2
          subst h1
          simp [ptrB]
          omega
        · split at h
          · have := pk_len base on r (lab ++ [c]) ys _ zs m' h
            simp at this ⊢
            omega
          · have := pk_len base on r (lab ++ [c]) ys _ zs m' h
            simp at this ⊢
            omega
      · have := pk_len base on r (lab ++ [c]) ys _ zs m' h
        simp at this ⊢
        omega
theorem packN_len {base : Nat} {on : Bool} {s : List UInt8} {m : List (List UInt8 × Nat)} {zs : List UInt8} {m' : List (List UInt8 × Nat)} (h : packN base on s m = .ok zs m') : zs.length ≤ 2 * s.length + 2 := by
  unfold packN at h
  split at h
  · injection h with h1 h2
    subst h1
    simp
  · have := pk_len base on s [] [] m zs m' h
    simpa using this

/-- the table behind it -/
def PkRes.tab : PkRes → List (List UInt8 × Nat)
  | .ok _ m => m
  | .err m => m
theorem pk_small (base : Nat) (on : Bool) : ∀ (s lab ys : List UInt8) (m : List (List UInt8 × Nat)), (∀ x ∈ m, x.2 < 65536) → ∀ x ∈ (pk base on s lab ys m).tab, x.2 < 65536
  | [], lab, ys, m, h => by simpa only [pk, PkRes.tab] using h
  | c :: r, lab, ys, m, h => by
    rw [pk]
    split
    · split
      · exact h
      · split
        · exact h
        · exact pk_small base on r _ _ m h
    · split
      · split
        · exact h
        · split
          · refine pk_small base on r _ _ _ fun x hx => ?_
            rcases List.mem_append.1 hx with hx | hx
            · exact h x hx
            · simp at hx
              subst hx
              simp
              omega
          · exact pk_small base on r _ _ m h
      · exact pk_small base on r _ _ m h
theorem packN_small (base : Nat) (on : Bool) (s : List UInt8) (m : List (List UInt8 × Nat)) (h : ∀ x ∈ m, x.2 < 65536) : ∀ x ∈ (packN base on s m).tab, x.2 < 65536 := by
  unfold packN
  split
  · exact h
  · exact pk_small base on s [] [] m h

/-- what packing a part that may nest its refusal returns -/
def PackPostN (T : TypeId) (v : Value) (bs bs' : List UInt8) (r : Option Nat) : PkRes → Value → List Res → Prop
  | .ok ys m, x, H' => ∃ p c, x = .tuple #[.slice p (bs' ++ ys).length c, .nilIface] ∧ H' = [appB T v bs (.slice p (bs' ++ ys).length c) (bs' ++ ys), .mp r (kvV m)]
  | .err m, x, H' => ∃ u a, x = .tuple #[u, .iface 155 (.pointer (some a))] ∧ H' = [ownB T v bs, .mp r (kvV m)]

theorem questionPack_spec (G : GEnv) (l : List UInt8) (hn : PName l) (typ cls : Nat) (bq o off : Nat) (v : Value) (bs bs' : List UInt8) (p : Option Addr) (c : Nat) (r : Option Nat) (m : List (List UInt8 × Nat)) (hoff : off ≤ bs'.length) (hbig : bs'.length ≤ 158329674399744 - 1024) (hm : ∀ x ∈ m, x.2 < 65536) :
    Spec Tryd.prog 80 [.pointer (some ⟨bq, o, none⟩), .slice p bs'.length c, .map r, .int .i64 off] [appB 5 v bs (.slice p bs'.length c) bs', .mp r (kvV m)]
      (fun w => Cells w bq o (questCs l typ cls) ∧ bq ∉ fp [appB 5 v bs (.slice p bs'.length c) bs', .mp r (kvV m)] ∧ GE G w (fp [appB 5 v bs (.slice p bs'.length c) bs', .mp r (kvV m)]))
      (PackPostN 5 v bs bs' r (packQ (bs'.length - off) r.isSome l typ cls m)) := by
  refine Spec.of Tryd.func80 rfl Tryd.ntmps80 rfl fun w0 hR => ?_
  obtain ⟨hcs, hbq, hge⟩ := hR
  have hlen := nameCs_len l (by have := hn.le; omega)
  have hname : Cells w0 bq (o + 0) (nameCs l) := hcs.part (k := 0) (by simp [questCs]) (by simp [questCs])
  have htyp : Cells w0 bq (o + 256) [.int .u16 typ] := hcs.part (k := 256) (by rw [questCs, List.drop_left' hlen]; rfl) (by simp [questCs, hlen])
  have hcls : Cells w0 bq (o + 257) [.int .u16 cls] := hcs.part (k := 257) (by rw [questCs, List.drop_append, hlen, List.drop_of_length_le (by omega)]; rfl) (by simp [questCs, hlen])
  have hl := hn.le
  cases hq : packN (bs'.length - off) r.isSome l m with
  | ok ys m' =>
    have hys := packN_len hq
    have hpq : packQ (bs'.length - off) r.isSome l typ cls m = .ok (ys ++ be16 typ ++ be16 cls) m' := by simp [packQ, hq]
    rw [hpq]
    refine CodeJ.seq ?_
    refine CodeJ.region ?_
    refine OpsJ.yld rfl rfl rfl (Yld.assign rfl rfl) ?_
    refine OpsJ.yld rfl rfl rfl (Yld.assign rfl rfl) ?_
    refine OpsJ.nil ?_
    refine ExJ.thenN ?_
    refine CodeJ.seq ?_
    refine CodeJ.region ?_
    refine OpsJ.yld rfl rfl rfl (Yld.move rfl rfl) ?_
    refine OpsJ.yld rfl rfl rfl (Yld.nilCheck rfl rfl) ?_
    refine OpsJ.yld rfl rfl rfl (Yld.fieldAddr fa_124_0 rfl rfl) ?_
    refine OpsJ.yld rfl rfl rfl (Yld.move rfl rfl) ?_
    refine OpsJ.yld rfl rfl rfl (Yld.move rfl rfl) ?_
    refine OpsJ.yld rfl rfl rfl (Yld.move rfl rfl) ?_
    refine OpsJ.op rfl ?_
    refine OpJ.call (namePack_spec G l hn.pos hn.le hn.last bq (o + 0) off v bs bs' p c r m hoff (by omega) hm) has_89 rfl rfl rfl rfl rfl [0, 1] [] (by decide) rfl rfl (fun w hI => ⟨hI.old hname hbq, hbq, hge.call hI (is := [0, 1]) rfl⟩) ?_
    rintro _ _ hpost
    rw [hq] at hpost
    obtain ⟨p18, c18, rfl, rfl⟩ := hpost
    refine OpsJ.yld rfl rfl rfl (Yld.move rfl rfl) ?_
    refine OpsJ.yld rfl rfl rfl (Yld.extract rfl rfl rfl) ?_
    refine OpsJ.yld rfl rfl rfl (Yld.extract rfl rfl rfl) ?_
    refine OpsJ.yld rfl rfl rfl (Yld.assign rfl rfl) ?_
    refine OpsJ.yld rfl rfl rfl (Yld.assign rfl rfl) ?_
    refine OpsJ.nil ?_
    refine ExJ.thenN ?_
    refine CodeJ.seq ?_
    refine CodeJ.seq ?_
    refine CodeJ.region ?_
    refine OpsJ.yld rfl rfl rfl (Yld.move rfl rfl) ?_
    refine OpsJ.yld rfl rfl rfl (Yld.ifaceNeNil rfl Tryd.underlying69 rfl rfl) ?_
    refine OpsJ.nil ?_
    refine ExJ.thenN ?_
    refine CodeJ.condF rfl ?_
    refine CodeJ.skip ?_
    refine ExJ.thenN ?_
    refine CodeJ.seq ?_
    refine CodeJ.region ?_
    refine OpsJ.yld rfl rfl rfl (Yld.move rfl rfl) ?_
    refine OpsJ.yld rfl rfl rfl (Yld.move rfl rfl) ?_
    refine OpsJ.yld rfl rfl rfl (Yld.nilCheck rfl rfl) ?_
    refine OpsJ.yld rfl rfl rfl (Yld.fieldAddr fa_124_1 rfl rfl) ?_
    refine OpsJ.yld rfl rfl rfl (Yld.load1 rfl Tryd.underlying64 rfl rfl (fun w hI => hI.old htyp hbq)) ?_
    refine OpsJ.op rfl ?_
    refine OpJ.call (packType_spec typ v _ bs (bs' ++ ys) (by simp; omega)) has_90 rfl rfl rfl rfl rfl [0] [1] (by decide) rfl rfl (fun _ _ => trivial) ?_
    rintro _ _ ⟨p33, c33, rfl, rfl⟩
    refine OpsJ.yld rfl rfl rfl (Yld.assign rfl rfl) ?_
    refine OpsJ.nil ?_
    refine ExJ.thenN ?_
    refine CodeJ.seq ?_
    refine CodeJ.region ?_
    refine OpsJ.yld rfl rfl rfl (Yld.move rfl rfl) ?_
    refine OpsJ.yld rfl rfl rfl (Yld.move rfl rfl) ?_
    refine OpsJ.yld rfl rfl rfl (Yld.nilCheck rfl rfl) ?_
    refine OpsJ.yld rfl rfl rfl (Yld.fieldAddr fa_124_2 rfl rfl) ?_
    refine OpsJ.yld rfl rfl rfl (Yld.load1 rfl Tryd.underlying65 rfl rfl (fun w hI => hI.old hcls hbq)) ?_
    refine OpsJ.op rfl ?_
    refine OpJ.call (packClass_spec cls v _ bs (bs' ++ ys ++ be16 typ) (by simp [be16_len]; omega)) has_91 rfl rfl rfl rfl rfl [0] [1] (by decide) rfl rfl (fun _ _ => trivial) ?_
    rintro _ _ ⟨p39, c39, rfl, rfl⟩
    refine OpsJ.yld rfl rfl rfl (Yld.assign rfl rfl) ?_
    refine OpsJ.yld rfl rfl rfl (Yld.assign rfl rfl) ?_
    refine OpsJ.nil ?_
    refine ExJ.thenN ?_
    refine CodeJ.ret ?_
    refine ExJ.ret2 Tryd.results80 rfl rfl ?_ fun w hI => hI
    have e : bs' ++ ys ++ be16 typ ++ be16 cls = bs' ++ (ys ++ be16 typ ++ be16 cls) := by simp
    exact ⟨p39, c39, by rw [← e], by rw [← e]; rfl⟩
  | err m' =>
    have hpq : packQ (bs'.length - off) r.isSome l typ cls m = .err m' := by simp [packQ, hq]
    rw [hpq]
    refine CodeJ.seq ?_
    refine CodeJ.region ?_
    refine OpsJ.yld rfl rfl rfl (Yld.assign rfl rfl) ?_
    refine OpsJ.yld rfl rfl rfl (Yld.assign rfl rfl) ?_
    refine OpsJ.nil ?_
    refine ExJ.thenN ?_
    refine CodeJ.seq ?_
    refine CodeJ.region ?_
    refine OpsJ.yld rfl rfl rfl (Yld.move rfl rfl) ?_
    refine OpsJ.yld rfl rfl rfl (Yld.nilCheck rfl rfl) ?_
    refine OpsJ.yld rfl rfl rfl (Yld.fieldAddr fa_124_0 rfl rfl) ?_
    refine OpsJ.yld rfl rfl rfl (Yld.move rfl rfl) ?_
    refine OpsJ.yld rfl rfl rfl (Yld.move rfl rfl) ?_
    refine OpsJ.yld rfl rfl rfl (Yld.move rfl rfl) ?_
    refine OpsJ.op rfl ?_
    refine OpJ.call (namePack_spec G l hn.pos hn.le hn.last bq (o + 0) off v bs bs' p c r m hoff (by omega) hm) has_89 rfl rfl rfl rfl rfl [0, 1] [] (by decide) rfl rfl (fun w hI => ⟨hI.old hname hbq, hbq, hge.call hI (is := [0, 1]) rfl⟩) ?_
    rintro _ _ hpost
    rw [hq] at hpost
    obtain ⟨u18, t18, e18, rfl, rfl⟩ := hpost
    refine OpsJ.yld rfl rfl rfl (Yld.move rfl rfl) ?_
    refine OpsJ.yld rfl rfl rfl (Yld.extract rfl rfl rfl) ?_
    refine OpsJ.yld rfl rfl rfl (Yld.extract rfl rfl rfl) ?_
    refine OpsJ.yld rfl rfl rfl (Yld.assign rfl rfl) ?_
    refine OpsJ.yld rfl rfl rfl (Yld.assign rfl rfl) ?_
    refine OpsJ.nil ?_
    refine ExJ.thenN ?_
    refine CodeJ.seq ?_
    refine CodeJ.seq ?_
    refine CodeJ.region ?_
    refine OpsJ.yld rfl rfl rfl (Yld.move rfl rfl) ?_
    refine OpsJ.yld rfl rfl rfl (Yld.ifaceNeNil rfl Tryd.underlying69 rfl rfl) ?_
    refine OpsJ.nil ?_
    refine ExJ.thenN ?_
    refine CodeJ.condT rfl ?_
    refine CodeJ.seq ?_
    refine CodeJ.region ?_
    refine OpsJ.yld rfl rfl rfl (Yld.move rfl rfl) ?_
    refine OpsJ.yld rfl rfl rfl (Yld.move rfl rfl) ?_
    refine OpsJ.yld rfl rfl rfl (Yld.build places_157 zero_157 rfl rfl rfl) ?_
    refine OpsJ.op rfl ?_
    refine OpJ.box rfl rfl rfl rfl fun ne hne => ?_
    refine OpsJ.yld rfl rfl rfl (Yld.makeInterface rfl Tryd.underlying155 rfl rfl) ?_
    refine OpsJ.yld rfl rfl rfl (Yld.assign rfl rfl) ?_
    refine OpsJ.yld rfl rfl rfl (Yld.assign rfl rfl) ?_
    refine OpsJ.nil ?_
    refine ExJ.thenN ?_
    refine CodeJ.ret ?_
    refine ExJ.thenR ?_
    exact ExJ.ret2 Tryd.results80 rfl rfl ⟨_, _, rfl, rfl⟩ fun w hI => hI.pick (is := [1, 2]) (by decide) rfl
end Go.Proofs.YtamobccbioafmaaDoor

/-
  Contracts of the package: headers, and the builder's sections.
-/
namespace Go.Proofs.YtamobccbioafmaaDoor
open Go
set_option maxRecDepth 100000

/-! ### headers -/
def hdCs (h : Hd) : List Value := [.int .u16 h.id, .bool h.qr, .int .u16 h.op, .bool h.aa, .bool h.tc, .bool h.rd, .bool h.ra, .bool h.ad, .bool h.cd, .int .u16 h.code]

theorem headerOf_spec (h : Hd) : Spec Tryd.prog 48 [.agg (hdCs h).toArray] [] (fun _ => True) (fun r H' => r = .agg (hdCs h).toArray ∧ H' = []) := by
  refine Spec.of Tryd.func48 rfl Tryd.ntmps48 rfl fun w0 _ => ?_
  refine CodeJ.seq ?_
  refine CodeJ.region ?_
  refine OpsJ.op rfl ?_
  refine OpJ.box rfl rfl rfl rfl fun hd hhd => ?_
  refine OpsJ.op rfl ?_
  refine OpJ.alloc rfl rfl rfl zero_118 fun res hres => ?_
  refine OpsJ.nil ?_
  refine ExJ.thenN ?_
  refine CodeJ.seq ?_
  refine CodeJ.region ?_
  refine OpsJ.yld rfl rfl rfl (Yld.fieldAddr fa_24_0 rfl rfl) ?_
  refine OpsJ.yld rfl rfl rfl (Yld.load1 rfl Tryd.underlying22 rfl rfl (fun w hI => Inv.cell1 hI (i := 1) rfl rfl)) ?_
  refine OpsJ.yld rfl rfl rfl (Yld.fieldAddr fa_24_1 rfl rfl) ?_
  refine OpsJ.yld rfl rfl rfl (Yld.load1 rfl Tryd.underlying4 rfl rfl (fun w hI => Inv.cell1 hI (i := 1) rfl rfl)) ?_
  refine OpsJ.yld rfl rfl rfl (Yld.fieldAddr fa_24_2 rfl rfl) ?_
  refine OpsJ.yld rfl rfl rfl (Yld.load1 rfl Tryd.underlying22 rfl rfl (fun w hI => Inv.cell1 hI (i := 1) rfl rfl)) ?_
  refine OpsJ.yld rfl rfl rfl (Yld.fieldAddr fa_24_3 rfl rfl) ?_
  refine OpsJ.yld rfl rfl rfl (Yld.load1 rfl Tryd.underlying4 rfl rfl (fun w hI => Inv.cell1 hI (i := 1) rfl rfl)) ?_
  refine OpsJ.yld rfl rfl rfl (Yld.fieldAddr fa_24_4 rfl rfl) ?_
  refine OpsJ.yld rfl rfl rfl (Yld.load1 rfl Tryd.underlying4 rfl rfl (fun w hI => Inv.cell1 hI (i := 1) rfl rfl)) ?_
  refine OpsJ.yld rfl rfl rfl (Yld.fieldAddr fa_24_5 rfl rfl) ?_
  refine OpsJ.yld rfl rfl rfl (Yld.load1 rfl Tryd.underlying4 rfl rfl (fun w hI => Inv.cell1 hI (i := 1) rfl rfl)) ?_
  refine OpsJ.yld rfl rfl rfl (Yld.fieldAddr fa_24_6 rfl rfl) ?_
  refine OpsJ.yld rfl rfl rfl (Yld.load1 rfl Tryd.underlying4 rfl rfl (fun w hI => Inv.cell1 hI (i := 1) rfl rfl)) ?_
  refine OpsJ.yld rfl rfl rfl (Yld.fieldAddr fa_24_7 rfl rfl) ?_
  refine OpsJ.yld rfl rfl rfl (Yld.load1 rfl Tryd.underlying4 rfl rfl (fun w hI => Inv.cell1 hI (i := 1) rfl rfl)) ?_
  refine OpsJ.yld rfl rfl rfl (Yld.fieldAddr fa_24_8 rfl rfl) ?_
  refine OpsJ.yld rfl rfl rfl (Yld.load1 rfl Tryd.underlying4 rfl rfl (fun w hI => Inv.cell1 hI (i := 1) rfl rfl)) ?_
  refine OpsJ.yld rfl rfl rfl (Yld.fieldAddr fa_24_9 rfl rfl) ?_
  refine OpsJ.yld rfl rfl rfl (Yld.load1 rfl Tryd.underlying22 rfl rfl (fun w hI => Inv.cell1 hI (i := 1) rfl rfl)) ?_
  refine OpsJ.yld rfl rfl rfl (Yld.buildAll places_118 zero_118 rfl rfl ⟨rfl, rfl, rfl, rfl, rfl, rfl, rfl, rfl, rfl, rfl, trivial⟩ rfl) ?_
  refine OpsJ.op rfl ?_
  refine OpJ.storeW (i := 0) rfl rfl rfl rfl sz_118 rfl rfl rfl ?_
  refine OpsJ.nil ?_
  refine ExJ.thenN ?_
  refine CodeJ.ret ?_
  exact ExJ.retC (vs := hdCs h) Tryd.results48 rfl Tryd.underlying118 rfl sz_118 (fun w hI => Inv.whole hI (i := 0) rfl) ⟨rfl, rfl⟩ fun w hI => hI.pick (is := []) (by decide) rfl

/-- the flags, one behind the other -/
def hB0 (h : Hd) : Nat := h.op * 2048 % 65536 ||| h.code
def hB1 (h : Hd) : Nat := hB0 h ||| flagN h.ra 128
def hB2 (h : Hd) : Nat := hB1 h ||| flagN h.rd 256
def hB3 (h : Hd) : Nat := hB2 h ||| flagN h.tc 512
def hB4 (h : Hd) : Nat := hB3 h ||| flagN h.aa 1024
def hB5 (h : Hd) : Nat := hB4 h ||| flagN h.qr 32768
def hB6 (h : Hd) : Nat := hB5 h ||| flagN h.ad 32
def hB7 (h : Hd) : Nat := hB6 h ||| flagN h.cd 16
theorem u16_orL (x y : Nat) (z : Int) (hz : z = (y : Int)) (hx : x < 65536) (hy : y < 65536) : IntKind.u16.wrap ((BitVec.ofInt IntKind.u16.bits (x : Int) ||| BitVec.ofInt IntKind.u16.bits z).toNat : Int) = ((x ||| y : Nat) : Int) := by
  subst hz
  exact u16_or x y hx hy
theorem hB_bits (h : Hd) : hB7 h = h.bits := by
  simp only [hB7, hB6, hB5, hB4, hB3, hB2, hB1, hB0, Hd.bits]
  ac_rfl
theorem hB_lt (h : Hd) (hw : h.wf) : hB0 h < 65536 ∧ hB1 h < 65536 ∧ hB2 h < 65536 ∧ hB3 h < 65536 ∧ hB4 h < 65536 ∧ hB5 h < 65536 ∧ hB6 h < 65536 := by
  have h0 : hB0 h < 65536 := or_lt _ _ (Nat.mod_lt _ (by decide)) hw.2.2
  have h1 : hB1 h < 65536 := or_lt _ _ h0 (flagN_lt _ _ (by decide))
  have h2 : hB2 h < 65536 := or_lt _ _ h1 (flagN_lt _ _ (by decide))
  have h3 : hB3 h < 65536 := or_lt _ _ h2 (flagN_lt _ _ (by decide))
  have h4 : hB4 h < 65536 := or_lt _ _ h3 (flagN_lt _ _ (by decide))
  have h5 : hB5 h < 65536 := or_lt _ _ h4 (flagN_lt _ _ (by decide))
  exact ⟨h0, h1, h2, h3, h4, h5, or_lt _ _ h5 (flagN_lt _ _ (by decide))⟩
theorem flagN_true (x : Nat) : flagN true x = x := rfl
theorem flagN_false (x y : Nat) : x ||| flagN false y = x := by simp [flagN]
theorem fT {b : Bool} (h : b = true) (x y : Nat) : x ||| flagN b y = x ||| y := by rw [h, flagN_true]
theorem fF {b : Bool} (h : b = false) (x y : Nat) : x ||| flagN b y = x := by rw [h, flagN_false]

theorem headerPack_spec (h : Hd) (hw : h.wf) (bq : Nat) : Spec Tryd.prog 78 [.pointer (some ⟨bq, 0, none⟩)] [] (fun w => Cells w bq 0 (hdCs h)) (fun r H' => r = .tuple #[.int .u16 h.id, .int .u16 h.bits] ∧ H' = []) := by
  refine Spec.of Tryd.func78 rfl Tryd.ntmps78 rfl fun w0 hcs => ?_
  have hbq : bq ∉ fp [] := by simp [fp]
  obtain ⟨l0, l1, l2, l3, l4, l5, l6⟩ := hB_lt h hw
  refine CodeJ.seq ?_
  refine CodeJ.region ?_
  refine OpsJ.yld rfl rfl rfl (Yld.assign rfl rfl) ?_
  refine OpsJ.yld rfl rfl rfl (Yld.assign rfl rfl) ?_
  refine OpsJ.nil ?_
  refine ExJ.thenN ?_
  refine CodeJ.seq ?_
  refine CodeJ.region ?_
  refine OpsJ.yld rfl rfl rfl (Yld.move rfl rfl) ?_
  refine OpsJ.yld rfl rfl rfl (Yld.nilCheck rfl rfl) ?_
  refine OpsJ.yld rfl rfl rfl (Yld.fieldAddr fa_118_0 rfl rfl) ?_
  refine OpsJ.yld rfl rfl rfl (Yld.load1 rfl Tryd.underlying22 rfl rfl (fun w hI => hI.old (hcs.one (k := 0) rfl) hbq)) ?_
  refine OpsJ.yld rfl rfl rfl (Yld.assign rfl rfl) ?_
  refine OpsJ.nil ?_
  refine ExJ.thenN ?_
  refine CodeJ.seq ?_
  refine CodeJ.any (fuel := 11) (listed := #[false, false, false, false, false, false, false, false, false, false, false]) [] rfl follows_mixed rfl rfl ?_
  refine AnyJ.take (fuel := 10) (listed' := #[true, false, false, false, false, false, false, false, false, false, false]) 0 rfl (by kernel_rfl) (by kernel_rfl) (by kernel_rfl) rfl rfl rfl rfl (Yld.move rfl rfl) (fun w hI => hI.pick (is := []) (by decide) rfl) ?_
  refine AnyJ.take (fuel := 9) (listed' := #[true, true, false, false, false, false, false, false, false, false, false]) 1 rfl (by kernel_rfl) (by kernel_rfl) (by kernel_rfl) rfl rfl rfl rfl (Yld.nilCheck rfl rfl) (fun w hI => hI.pick (is := []) (by decide) rfl) ?_
  refine AnyJ.take (fuel := 8) (listed' := #[true, true, true, false, false, false, false, false, false, false, false]) 2 rfl (by kernel_rfl) (by kernel_rfl) (by kernel_rfl) rfl rfl rfl rfl (Yld.fieldAddr fa_118_2 rfl rfl) (fun w hI => hI.pick (is := []) (by decide) rfl) ?_
  refine AnyJ.take (fuel := 7) (listed' := #[true, true, true, true, false, false, false, false, false, false, false]) 3 rfl (by kernel_rfl) (by kernel_rfl) (by kernel_rfl) rfl rfl rfl rfl (Yld.load1 rfl Tryd.underlying115 rfl rfl (fun w hI => hI.old (hcs.one (k := 2) rfl) hbq)) (fun w hI => hI.pick (is := []) (by decide) rfl) ?_
  refine AnyJ.take (fuel := 6) (listed' := #[true, true, true, true, true, false, false, false, false, false, false]) 4 rfl (by kernel_rfl) (by kernel_rfl) (by kernel_rfl) rfl rfl rfl rfl (Yld.shl rfl rfl rfl (by decide)) (fun w hI => hI.pick (is := []) (by decide) rfl) ?_
  rw [u16_shl11]
  refine AnyJ.take (fuel := 5) (listed' := #[true, true, true, true, true, true, false, false, false, false, false]) 5 rfl (by kernel_rfl) (by kernel_rfl) (by kernel_rfl) rfl rfl rfl rfl (Yld.move rfl rfl) (fun w hI => hI.pick (is := []) (by decide) rfl) ?_
  refine AnyJ.take (fuel := 4) (listed' := #[true, true, true, true, true, true, true, false, false, false, false]) 6 rfl (by kernel_rfl) (by kernel_rfl) (by kernel_rfl) rfl rfl rfl rfl (Yld.nilCheck rfl rfl) (fun w hI => hI.pick (is := []) (by decide) rfl) ?_
  refine AnyJ.take (fuel := 3) (listed' := #[true, true, true, true, true, true, true, true, false, false, false]) 7 rfl (by kernel_rfl) (by kernel_rfl) (by kernel_rfl) rfl rfl rfl rfl (Yld.fieldAddr fa_118_9 rfl rfl) (fun w hI => hI.pick (is := []) (by decide) rfl) ?_
  refine AnyJ.take (fuel := 2) (listed' := #[true, true, true, true, true, true, true, true, true, false, false]) 8 rfl (by kernel_rfl) (by kernel_rfl) (by kernel_rfl) rfl rfl rfl rfl (Yld.load1 rfl Tryd.underlying116 rfl rfl (fun w hI => hI.old (hcs.one (k := 9) rfl) hbq)) (fun w hI => hI.pick (is := []) (by decide) rfl) ?_
  refine AnyJ.take (fuel := 1) (listed' := #[true, true, true, true, true, true, true, true, true, true, false]) 9 rfl (by kernel_rfl) (by kernel_rfl) (by kernel_rfl) rfl rfl rfl rfl (Yld.intBin rfl rfl rfl rfl) (fun w hI => hI.pick (is := []) (by decide) rfl) ?_
  rw [u16_or _ _ (Nat.mod_lt _ (by decide)) hw.2.2]
  refine AnyJ.take (fuel := 0) (listed' := #[true, true, true, true, true, true, true, true, true, true, true]) 10 rfl (by kernel_rfl) (by kernel_rfl) (by kernel_rfl) rfl rfl rfl rfl (Yld.assign rfl rfl) (fun w hI => hI.pick (is := []) (by decide) rfl) ?_
  refine AnyJ.done (by kernel_rfl) ?_
  refine ExJ.thenN ?_
  refine CodeJ.cutP (fun L H => L = [(0, .pointer (some ⟨bq, 0, none⟩)), (2, .int .u16 h.id), (3, .int .u16 (hB1 h))] ∧ H = []) ?_ ?_
  · refine CodeJ.seq ?_
    refine CodeJ.region ?_
    refine OpsJ.yld rfl rfl rfl (Yld.move rfl rfl) ?_
    refine OpsJ.yld rfl rfl rfl (Yld.nilCheck rfl rfl) ?_
    refine OpsJ.yld rfl rfl rfl (Yld.fieldAddr fa_118_6 rfl rfl) ?_
    refine OpsJ.yld rfl rfl rfl (Yld.load1 rfl Tryd.underlying4 rfl rfl (fun w hI => hI.old (hcs.one (k := 6) rfl) hbq)) ?_
    refine OpsJ.nil ?_
    refine ExJ.thenN ?_
    refine CodeJ.cond rfl (fun c21 => ?_) (fun c21 => ?_)
    · refine CodeJ.region ?_
      refine OpsJ.yld rfl rfl rfl (Yld.move rfl rfl) ?_
      refine OpsJ.yld rfl rfl rfl (Yld.intBin rfl rfl rfl rfl) ?_
      rw [u16_orL _ 128 128 rfl (by exact l0) (by decide)]
      refine OpsJ.yld rfl rfl rfl (Yld.assign rfl rfl) ?_
      refine OpsJ.nil ?_
      exact ExJ.meetP ⟨rfl, rfl⟩ ⟨rfl, rfl, by show _ = some (Value.int .u16 (hB1 h : Nat)); rw [show hB1 h = hB0 h ||| 128 from fT c21 _ _]; rfl, trivial⟩ fun w hI => hI
    · refine CodeJ.skip ?_
      exact ExJ.meetP ⟨rfl, rfl⟩ ⟨rfl, rfl, by show _ = some (Value.int .u16 (hB1 h : Nat)); rw [show hB1 h = hB0 h from fF c21 _ _]; rfl, trivial⟩ fun w hI => hI
  · rintro _ _ ⟨rfl, rfl⟩
    refine CodeJ.cutP (fun L H => L = [(0, .pointer (some ⟨bq, 0, none⟩)), (2, .int .u16 h.id), (3, .int .u16 (hB2 h))] ∧ H = []) ?_ ?_
    · refine CodeJ.seq ?_
      refine CodeJ.region ?_
      refine OpsJ.yld rfl rfl rfl (Yld.move rfl rfl) ?_
      refine OpsJ.yld rfl rfl rfl (Yld.nilCheck rfl rfl) ?_
      refine OpsJ.yld rfl rfl rfl (Yld.fieldAddr fa_118_5 rfl rfl) ?_
      refine OpsJ.yld rfl rfl rfl (Yld.load1 rfl Tryd.underlying4 rfl rfl (fun w hI => hI.old (hcs.one (k := 5) rfl) hbq)) ?_
      refine OpsJ.nil ?_
      refine ExJ.thenN ?_
      refine CodeJ.cond rfl (fun c27 => ?_) (fun c27 => ?_)
      · refine CodeJ.region ?_
        refine OpsJ.yld rfl rfl rfl (Yld.move rfl rfl) ?_
        refine OpsJ.yld rfl rfl rfl (Yld.intBin rfl rfl rfl rfl) ?_
        rw [u16_orL _ 256 256 rfl (by exact l1) (by decide)]
        refine OpsJ.yld rfl rfl rfl (Yld.assign rfl rfl) ?_
        refine OpsJ.nil ?_
        exact ExJ.meetP ⟨rfl, rfl⟩ ⟨rfl, rfl, by show _ = some (Value.int .u16 (hB2 h : Nat)); rw [show hB2 h = hB1 h ||| 256 from fT c27 _ _]; rfl, trivial⟩ fun w hI => hI
      · refine CodeJ.skip ?_
        exact ExJ.meetP ⟨rfl, rfl⟩ ⟨rfl, rfl, by show _ = some (Value.int .u16 (hB2 h : Nat)); rw [show hB2 h = hB1 h from fF c27 _ _]; rfl, trivial⟩ fun w hI => hI
    · rintro _ _ ⟨rfl, rfl⟩
      refine CodeJ.cutP (fun L H => L = [(0, .pointer (some ⟨bq, 0, none⟩)), (2, .int .u16 h.id), (3, .int .u16 (hB3 h))] ∧ H = []) ?_ ?_
      · refine CodeJ.seq ?_
        refine CodeJ.region ?_
        refine OpsJ.yld rfl rfl rfl (Yld.move rfl rfl) ?_
        refine OpsJ.yld rfl rfl rfl (Yld.nilCheck rfl rfl) ?_
        refine OpsJ.yld rfl rfl rfl (Yld.fieldAddr fa_118_4 rfl rfl) ?_
        refine OpsJ.yld rfl rfl rfl (Yld.load1 rfl Tryd.underlying4 rfl rfl (fun w hI => hI.old (hcs.one (k := 4) rfl) hbq)) ?_
        refine OpsJ.nil ?_
        refine ExJ.thenN ?_
        refine CodeJ.cond rfl (fun c33 => ?_) (fun c33 => ?_)
        · refine CodeJ.region ?_
          refine OpsJ.yld rfl rfl rfl (Yld.move rfl rfl) ?_
          refine OpsJ.yld rfl rfl rfl (Yld.intBin rfl rfl rfl rfl) ?_
          rw [u16_orL _ 512 512 rfl (by exact l2) (by decide)]
          refine OpsJ.yld rfl rfl rfl (Yld.assign rfl rfl) ?_
          refine OpsJ.nil ?_
          exact ExJ.meetP ⟨rfl, rfl⟩ ⟨rfl, rfl, by show _ = some (Value.int .u16 (hB3 h : Nat)); rw [show hB3 h = hB2 h ||| 512 from fT c33 _ _]; rfl, trivial⟩ fun w hI => hI
        · refine CodeJ.skip ?_
          exact ExJ.meetP ⟨rfl, rfl⟩ ⟨rfl, rfl, by show _ = some (Value.int .u16 (hB3 h : Nat)); rw [show hB3 h = hB2 h from fF c33 _ _]; rfl, trivial⟩ fun w hI => hI
      · rintro _ _ ⟨rfl, rfl⟩
        refine CodeJ.cutP (fun L H => L = [(0, .pointer (some ⟨bq, 0, none⟩)), (2, .int .u16 h.id), (3, .int .u16 (hB4 h))] ∧ H = []) ?_ ?_
        · refine CodeJ.seq ?_
          refine CodeJ.region ?_
          refine OpsJ.yld rfl rfl rfl (Yld.move rfl rfl) ?_
          refine OpsJ.yld rfl rfl rfl (Yld.nilCheck rfl rfl) ?_
          refine OpsJ.yld rfl rfl rfl (Yld.fieldAddr fa_118_3 rfl rfl) ?_
          refine OpsJ.yld rfl rfl rfl (Yld.load1 rfl Tryd.underlying4 rfl rfl (fun w hI => hI.old (hcs.one (k := 3) rfl) hbq)) ?_
          refine OpsJ.nil ?_
          refine ExJ.thenN ?_
          refine CodeJ.cond rfl (fun c39 => ?_) (fun c39 => ?_)
          · refine CodeJ.region ?_
            refine OpsJ.yld rfl rfl rfl (Yld.move rfl rfl) ?_
            refine OpsJ.yld rfl rfl rfl (Yld.intBin rfl rfl rfl rfl) ?_
            rw [u16_orL _ 1024 1024 rfl (by exact l3) (by decide)]
            refine OpsJ.yld rfl rfl rfl (Yld.assign rfl rfl) ?_
            refine OpsJ.nil ?_
            exact ExJ.meetP ⟨rfl, rfl⟩ ⟨rfl, rfl, by show _ = some (Value.int .u16 (hB4 h : Nat)); rw [show hB4 h = hB3 h ||| 1024 from fT c39 _ _]; rfl, trivial⟩ fun w hI => hI
          · refine CodeJ.skip ?_
            exact ExJ.meetP ⟨rfl, rfl⟩ ⟨rfl, rfl, by show _ = some (Value.int .u16 (hB4 h : Nat)); rw [show hB4 h = hB3 h from fF c39 _ _]; rfl, trivial⟩ fun w hI => hI
        · rintro _ _ ⟨rfl, rfl⟩
          refine CodeJ.cutP (fun L H => L = [(0, .pointer (some ⟨bq, 0, none⟩)), (2, .int .u16 h.id), (3, .int .u16 (hB5 h))] ∧ H = []) ?_ ?_
          · refine CodeJ.seq ?_
            refine CodeJ.region ?_
            refine OpsJ.yld rfl rfl rfl (Yld.move rfl rfl) ?_
            refine OpsJ.yld rfl rfl rfl (Yld.nilCheck rfl rfl) ?_
            refine OpsJ.yld rfl rfl rfl (Yld.fieldAddr fa_118_1 rfl rfl) ?_
            refine OpsJ.yld rfl rfl rfl (Yld.load1 rfl Tryd.underlying4 rfl rfl (fun w hI => hI.old (hcs.one (k := 1) rfl) hbq)) ?_
            refine OpsJ.nil ?_
            refine ExJ.thenN ?_
            refine CodeJ.cond rfl (fun c45 => ?_) (fun c45 => ?_)
            · refine CodeJ.region ?_
              refine OpsJ.yld rfl rfl rfl (Yld.move rfl rfl) ?_
              refine OpsJ.yld rfl rfl rfl (Yld.intBin rfl rfl rfl rfl) ?_
              rw [u16_orL _ 32768 32768 rfl (by exact l4) (by decide)]
              refine OpsJ.yld rfl rfl rfl (Yld.assign rfl rfl) ?_
              refine OpsJ.nil ?_
              exact ExJ.meetP ⟨rfl, rfl⟩ ⟨rfl, rfl, by show _ = some (Value.int .u16 (hB5 h : Nat)); rw [show hB5 h = hB4 h ||| 32768 from fT c45 _ _]; rfl, trivial⟩ fun w hI => hI
            · refine CodeJ.skip ?_
              exact ExJ.meetP ⟨rfl, rfl⟩ ⟨rfl, rfl, by show _ = some (Value.int .u16 (hB5 h : Nat)); rw [show hB5 h = hB4 h from fF c45 _ _]; rfl, trivial⟩ fun w hI => hI
          · rintro _ _ ⟨rfl, rfl⟩
            refine CodeJ.cutP (fun L H => L = [(0, .pointer (some ⟨bq, 0, none⟩)), (2, .int .u16 h.id), (3, .int .u16 (hB6 h))] ∧ H = []) ?_ ?_
            · refine CodeJ.seq ?_
              refine CodeJ.region ?_
              refine OpsJ.yld rfl rfl rfl (Yld.move rfl rfl) ?_
              refine OpsJ.yld rfl rfl rfl (Yld.nilCheck rfl rfl) ?_
              refine OpsJ.yld rfl rfl rfl (Yld.fieldAddr fa_118_7 rfl rfl) ?_
              refine OpsJ.yld rfl rfl rfl (Yld.load1 rfl Tryd.underlying4 rfl rfl (fun w hI => hI.old (hcs.one (k := 7) rfl) hbq)) ?_
              refine OpsJ.nil ?_
              refine ExJ.thenN ?_
              refine CodeJ.cond rfl (fun c51 => ?_) (fun c51 => ?_)
              · refine CodeJ.region ?_
                refine OpsJ.yld rfl rfl rfl (Yld.move rfl rfl) ?_
                refine OpsJ.yld rfl rfl rfl (Yld.intBin rfl rfl rfl rfl) ?_
                rw [u16_orL _ 32 32 rfl (by exact l5) (by decide)]
                refine OpsJ.yld rfl rfl rfl (Yld.assign rfl rfl) ?_
                refine OpsJ.nil ?_
                exact ExJ.meetP ⟨rfl, rfl⟩ ⟨rfl, rfl, by show _ = some (Value.int .u16 (hB6 h : Nat)); rw [show hB6 h = hB5 h ||| 32 from fT c51 _ _]; rfl, trivial⟩ fun w hI => hI
              · refine CodeJ.skip ?_
                exact ExJ.meetP ⟨rfl, rfl⟩ ⟨rfl, rfl, by show _ = some (Value.int .u16 (hB6 h : Nat)); rw [show hB6 h = hB5 h from fF c51 _ _]; rfl, trivial⟩ fun w hI => hI
            · rintro _ _ ⟨rfl, rfl⟩
              refine CodeJ.seq ?_
              refine CodeJ.seq ?_
              refine CodeJ.region ?_
              refine OpsJ.yld rfl rfl rfl (Yld.move rfl rfl) ?_
              refine OpsJ.yld rfl rfl rfl (Yld.nilCheck rfl rfl) ?_
              refine OpsJ.yld rfl rfl rfl (Yld.fieldAddr fa_118_8 rfl rfl) ?_
              refine OpsJ.yld rfl rfl rfl (Yld.load1 rfl Tryd.underlying4 rfl rfl (fun w hI => hI.old (hcs.one (k := 8) rfl) hbq)) ?_
              refine OpsJ.nil ?_
              refine ExJ.thenN ?_
              refine CodeJ.cond rfl (fun c57 => ?_) (fun c57 => ?_)
              · refine CodeJ.region ?_
                refine OpsJ.yld rfl rfl rfl (Yld.move rfl rfl) ?_
                refine OpsJ.yld rfl rfl rfl (Yld.intBin rfl rfl rfl rfl) ?_
                rw [u16_orL _ 16 16 rfl (by exact l6) (by decide)]
                refine OpsJ.yld rfl rfl rfl (Yld.assign rfl rfl) ?_
                refine OpsJ.nil ?_
                refine ExJ.thenN ?_
                refine CodeJ.ret ?_
                refine ExJ.ret2 Tryd.results78 rfl rfl ⟨?_, rfl⟩ fun w hI => hI
                rw [← hB_bits, show hB7 h = hB6 h ||| 16 from fT c57 _ _]
              · refine CodeJ.skip ?_
                refine ExJ.thenN ?_
                refine CodeJ.ret ?_
                refine ExJ.ret2 Tryd.results78 rfl rfl ⟨?_, rfl⟩ fun w hI => hI
                rw [← hB_bits, show hB7 h = hB6 h from fF c57 _ _]
end Go.Proofs.YtamobccbioafmaaDoor

/-
  Contracts of the package: the builder.
-/
namespace Go.Proofs.YtamobccbioafmaaDoor
open Go
set_option maxRecDepth 100000

/-- a builder, as the proofs see it -/
structure Bd where
  buf : List UInt8
  start : Nat
  sec : Nat
  id : Nat
  bits : Nat
  q : Nat
  an : Nat
  au : Nat
  ad : Nat
  m : List (List UInt8 × Nat)

def bdCs (b : Bd) (p : Option Addr) (c : Nat) (r : Option Nat) : Array Value := #[.slice p b.buf.length c, .int .u8 b.sec, .int .u16 b.id, .int .u16 b.bits, .int .u16 b.q, .int .u16 b.an, .int .u16 b.au, .int .u16 b.ad, .int .i64 b.start, .map r]
/-- its memory: the struct, the bytes, the table -/
def bdR (b : Bd) (bb : Nat) (p : Option Addr) (c : Nat) (r : Option Nat) : List Res := [.blk bb (bdCs b p c r) 113, ownB 5 (.slice p b.buf.length c) b.buf, .mp r (kvV b.m)]

theorem startCheck_spec (b : Bd) (bb : Nat) (p : Option Addr) (c : Nat) (r : Option Nat) (s : Nat) (h1 : 1 ≤ b.sec) (h2 : b.sec ≤ s) :
    Spec Tryd.prog 79 [.pointer (some ⟨bb, 0, none⟩), .int .u8 s] (bdR b bb p c r) (fun _ => True) (fun x H' => x = .nilIface ∧ H' = bdR b bb p c r) := by
  refine Spec.of Tryd.func79 rfl Tryd.ntmps79 rfl fun w0 _ => ?_
  refine CodeJ.seq ?_
  refine CodeJ.region ?_
  refine OpsJ.yld rfl rfl rfl (Yld.assign rfl rfl) ?_
  refine OpsJ.nil ?_
  refine ExJ.thenN ?_
  refine CodeJ.seq ?_
  refine CodeJ.seq ?_
  refine CodeJ.region ?_
  refine OpsJ.yld rfl rfl rfl (Yld.move rfl rfl) ?_
  refine OpsJ.yld rfl rfl rfl (Yld.nilCheck rfl rfl) ?_
  refine OpsJ.yld rfl rfl rfl (Yld.fieldAddr fa_113_1 rfl rfl) ?_
  refine OpsJ.yld rfl rfl rfl (Yld.load1 rfl Tryd.underlying108 rfl rfl (fun w hI => Inv.cell1 hI (i := 0) rfl rfl)) ?_
  refine OpsJ.yld rfl rfl rfl (Yld.intBin rfl rfl rfl rfl) ?_
  refine OpsJ.nil ?_
  refine ExJ.thenN ?_
  refine CodeJ.condP rfl (fun c9 => ?_) (fun c9 => ?_)
  · exact absurd c9 (by omega)
  · refine CodeJ.skip ?_
    refine ExJ.thenN ?_
    refine CodeJ.seq ?_
    refine CodeJ.seq ?_
    refine CodeJ.region ?_
    refine OpsJ.yld rfl rfl rfl (Yld.move rfl rfl) ?_
    refine OpsJ.yld rfl rfl rfl (Yld.nilCheck rfl rfl) ?_
    refine OpsJ.yld rfl rfl rfl (Yld.fieldAddr fa_113_1 rfl rfl) ?_
    refine OpsJ.yld rfl rfl rfl (Yld.load1 rfl Tryd.underlying108 rfl rfl (fun w hI => Inv.cell1 hI (i := 0) rfl rfl)) ?_
    refine OpsJ.yld rfl rfl rfl (Yld.move rfl rfl) ?_
    refine OpsJ.yld rfl rfl rfl (Yld.intBin rfl rfl rfl rfl) ?_
    refine OpsJ.nil ?_
    refine ExJ.thenN ?_
    refine CodeJ.condP rfl (fun c16 => ?_) (fun c16 => ?_)
    · exact absurd c16 (by omega)
    · refine CodeJ.skip ?_
      refine ExJ.thenN ?_
      refine CodeJ.seq ?_
      refine CodeJ.region ?_
      refine OpsJ.yld rfl rfl rfl (Yld.assign rfl rfl) ?_
      refine OpsJ.nil ?_
      refine ExJ.thenN ?_
      refine CodeJ.ret ?_
      exact ExJ.ret1 Tryd.results79 rfl ⟨rfl, rfl⟩ fun w hI => hI

theorem startQuestions_spec (b : Bd) (bb : Nat) (p : Option Addr) (c : Nat) (r : Option Nat) (h1 : 1 ≤ b.sec) (h2 : b.sec ≤ 2) :
    Spec Tryd.prog 51 [.pointer (some ⟨bb, 0, none⟩)] (bdR b bb p c r) (fun _ => True) (fun x H' => x = .nilIface ∧ H' = bdR { b with sec := 2 } bb p c r) := by
  refine Spec.of Tryd.func51 rfl Tryd.ntmps51 rfl fun w0 _ => ?_
  refine CodeJ.seq ?_
  refine CodeJ.region ?_
  refine OpsJ.yld rfl rfl rfl (Yld.assign rfl rfl) ?_
  refine OpsJ.nil ?_
  refine ExJ.thenN ?_
  refine CodeJ.seq ?_
  refine CodeJ.seq ?_
  refine CodeJ.region ?_
  refine OpsJ.yld rfl rfl rfl (Yld.move rfl rfl) ?_
  refine OpsJ.op rfl ?_
  refine OpJ.call (startCheck_spec b bb p c r 2 h1 h2) has_79 rfl rfl rfl rfl rfl [0, 1, 2] [] (by decide) rfl rfl (fun _ _ => trivial) ?_
  rintro _ _ ⟨rfl, rfl⟩
  refine OpsJ.yld rfl rfl rfl (Yld.assign rfl rfl) ?_
  refine OpsJ.nil ?_
  refine ExJ.thenN ?_
  refine CodeJ.seq ?_
  refine CodeJ.region ?_
  refine OpsJ.yld rfl rfl rfl (Yld.move rfl rfl) ?_
  refine OpsJ.yld rfl rfl rfl (Yld.ifaceNeNil rfl Tryd.underlying69 rfl rfl) ?_
  refine OpsJ.nil ?_
  refine ExJ.thenN ?_
  refine CodeJ.condF rfl ?_
  refine CodeJ.skip ?_
  refine ExJ.thenN ?_
  refine CodeJ.seq ?_
  refine CodeJ.region ?_
  refine OpsJ.yld rfl rfl rfl (Yld.move rfl rfl) ?_
  refine OpsJ.yld rfl rfl rfl (Yld.nilCheck rfl rfl) ?_
  refine OpsJ.yld rfl rfl rfl (Yld.fieldAddr fa_113_1 rfl rfl) ?_
  refine OpsJ.op rfl ?_
  refine OpJ.store1 (i := 0) rfl rfl rfl rfl rfl sz_108 rfl rfl ?_
  refine OpsJ.nil ?_
  refine ExJ.thenN ?_
  refine CodeJ.seq ?_
  refine CodeJ.region ?_
  refine OpsJ.yld rfl rfl rfl (Yld.assign rfl rfl) ?_
  refine OpsJ.nil ?_
  refine ExJ.thenN ?_
  refine CodeJ.ret ?_
  exact ExJ.ret1 Tryd.results51 rfl ⟨rfl, rfl⟩ fun w hI => hI
theorem startAnswers_spec (b : Bd) (bb : Nat) (p : Option Addr) (c : Nat) (r : Option Nat) (h1 : 1 ≤ b.sec) (h2 : b.sec ≤ 3) :
    Spec Tryd.prog 52 [.pointer (some ⟨bb, 0, none⟩)] (bdR b bb p c r) (fun _ => True) (fun x H' => x = .nilIface ∧ H' = bdR { b with sec := 3 } bb p c r) := by
  refine Spec.of Tryd.func52 rfl Tryd.ntmps52 rfl fun w0 _ => ?_
  refine CodeJ.seq ?_
  refine CodeJ.region ?_
  refine OpsJ.yld rfl rfl rfl (Yld.assign rfl rfl) ?_
  refine OpsJ.nil ?_
  refine ExJ.thenN ?_
  refine CodeJ.seq ?_
  refine CodeJ.seq ?_
  refine CodeJ.region ?_
  refine OpsJ.yld rfl rfl rfl (Yld.move rfl rfl) ?_
  refine OpsJ.op rfl ?_
  refine OpJ.call (startCheck_spec b bb p c r 3 h1 h2) has_79 rfl rfl rfl rfl rfl [0, 1, 2] [] (by decide) rfl rfl (fun _ _ => trivial) ?_
  rintro _ _ ⟨rfl, rfl⟩
  refine OpsJ.yld rfl rfl rfl (Yld.assign rfl rfl) ?_
  refine OpsJ.nil ?_
  refine ExJ.thenN ?_
  refine CodeJ.seq ?_
  refine CodeJ.region ?_
  refine OpsJ.yld rfl rfl rfl (Yld.move rfl rfl) ?_
  refine OpsJ.yld rfl rfl rfl (Yld.ifaceNeNil rfl Tryd.underlying69 rfl rfl) ?_
  refine OpsJ.nil ?_
  refine ExJ.thenN ?_
  refine CodeJ.condF rfl ?_
  refine CodeJ.skip ?_
  refine ExJ.thenN ?_
  refine CodeJ.seq ?_
  refine CodeJ.region ?_
  refine OpsJ.yld rfl rfl rfl (Yld.move rfl rfl) ?_
  refine OpsJ.yld rfl rfl rfl (Yld.nilCheck rfl rfl) ?_
  refine OpsJ.yld rfl rfl rfl (Yld.fieldAddr fa_113_1 rfl rfl) ?_
  refine OpsJ.op rfl ?_
  refine OpJ.store1 (i := 0) rfl rfl rfl rfl rfl sz_108 rfl rfl ?_
  refine OpsJ.nil ?_
  refine ExJ.thenN ?_
  refine CodeJ.seq ?_
  refine CodeJ.region ?_
  refine OpsJ.yld rfl rfl rfl (Yld.assign rfl rfl) ?_
  refine OpsJ.nil ?_
  refine ExJ.thenN ?_
  refine CodeJ.ret ?_
  exact ExJ.ret1 Tryd.results52 rfl ⟨rfl, rfl⟩ fun w hI => hI
theorem startAuthorities_spec (b : Bd) (bb : Nat) (p : Option Addr) (c : Nat) (r : Option Nat) (h1 : 1 ≤ b.sec) (h2 : b.sec ≤ 4) :
    Spec Tryd.prog 53 [.pointer (some ⟨bb, 0, none⟩)] (bdR b bb p c r) (fun _ => True) (fun x H' => x = .nilIface ∧ H' = bdR { b with sec := 4 } bb p c r) := by
  refine Spec.of Tryd.func53 rfl Tryd.ntmps53 rfl fun w0 _ => ?_
  refine CodeJ.seq ?_
  refine CodeJ.region ?_
  refine OpsJ.yld rfl rfl rfl (Yld.assign rfl rfl) ?_
  refine OpsJ.nil ?_
  refine ExJ.thenN ?_
  refine CodeJ.seq ?_
  refine CodeJ.seq ?_
  refine CodeJ.region ?_
  refine OpsJ.yld rfl rfl rfl (Yld.move rfl rfl) ?_
  refine OpsJ.op rfl ?_
  refine OpJ.call (startCheck_spec b bb p c r 4 h1 h2) has_79 rfl rfl rfl rfl rfl [0, 1, 2] [] (by decide) rfl rfl (fun _ _ => trivial) ?_
  rintro _ _ ⟨rfl, rfl⟩
  refine OpsJ.yld rfl rfl rfl (Yld.assign rfl rfl) ?_
  refine OpsJ.nil ?_
  refine ExJ.thenN ?_
  refine CodeJ.seq ?_
  refine CodeJ.region ?_
  refine OpsJ.yld rfl rfl rfl (Yld.move rfl rfl) ?_
  refine OpsJ.yld rfl rfl rfl (Yld.ifaceNeNil rfl Tryd.underlying69 rfl rfl) ?_
  refine OpsJ.nil ?_
  refine ExJ.thenN ?_
  refine CodeJ.condF rfl ?_
  refine CodeJ.skip ?_
  refine ExJ.thenN ?_
  refine CodeJ.seq ?_
  refine CodeJ.region ?_
  refine OpsJ.yld rfl rfl rfl (Yld.move rfl rfl) ?_
  refine OpsJ.yld rfl rfl rfl (Yld.nilCheck rfl rfl) ?_
  refine OpsJ.yld rfl rfl rfl (Yld.fieldAddr fa_113_1 rfl rfl) ?_
  refine OpsJ.op rfl ?_
  refine OpJ.store1 (i := 0) rfl rfl rfl rfl rfl sz_108 rfl rfl ?_
  refine OpsJ.nil ?_
  refine ExJ.thenN ?_
  refine CodeJ.seq ?_
  refine CodeJ.region ?_
  refine OpsJ.yld rfl rfl rfl (Yld.assign rfl rfl) ?_
  refine OpsJ.nil ?_
  refine ExJ.thenN ?_
  refine CodeJ.ret ?_
  exact ExJ.ret1 Tryd.results53 rfl ⟨rfl, rfl⟩ fun w hI => hI
theorem startAdditionals_spec (b : Bd) (bb : Nat) (p : Option Addr) (c : Nat) (r : Option Nat) (h1 : 1 ≤ b.sec) (h2 : b.sec ≤ 5) :
    Spec Tryd.prog 54 [.pointer (some ⟨bb, 0, none⟩)] (bdR b bb p c r) (fun _ => True) (fun x H' => x = .nilIface ∧ H' = bdR { b with sec := 5 } bb p c r) := by
  refine Spec.of Tryd.func54 rfl Tryd.ntmps54 rfl fun w0 _ => ?_
  refine CodeJ.seq ?_
  refine CodeJ.region ?_
  refine OpsJ.yld rfl rfl rfl (Yld.assign rfl rfl) ?_
  refine OpsJ.nil ?_
  refine ExJ.thenN ?_
  refine CodeJ.seq ?_
  refine CodeJ.seq ?_
  refine CodeJ.region ?_
  refine OpsJ.yld rfl rfl rfl (Yld.move rfl rfl) ?_
  refine OpsJ.op rfl ?_
  refine OpJ.call (startCheck_spec b bb p c r 5 h1 h2) has_79 rfl rfl rfl rfl rfl [0, 1, 2] [] (by decide) rfl rfl (fun _ _ => trivial) ?_
  rintro _ _ ⟨rfl, rfl⟩
  refine OpsJ.yld rfl rfl rfl (Yld.assign rfl rfl) ?_
  refine OpsJ.nil ?_
  refine ExJ.thenN ?_
  refine CodeJ.seq ?_
  refine CodeJ.region ?_
  refine OpsJ.yld rfl rfl rfl (Yld.move rfl rfl) ?_
  refine OpsJ.yld rfl rfl rfl (Yld.ifaceNeNil rfl Tryd.underlying69 rfl rfl) ?_
  refine OpsJ.nil ?_
  refine ExJ.thenN ?_
  refine CodeJ.condF rfl ?_
  refine CodeJ.skip ?_
  refine ExJ.thenN ?_
  refine CodeJ.seq ?_
  refine CodeJ.region ?_
  refine OpsJ.yld rfl rfl rfl (Yld.move rfl rfl) ?_
  refine OpsJ.yld rfl rfl rfl (Yld.nilCheck rfl rfl) ?_
  refine OpsJ.yld rfl rfl rfl (Yld.fieldAddr fa_113_1 rfl rfl) ?_
  refine OpsJ.op rfl ?_
  refine OpJ.store1 (i := 0) rfl rfl rfl rfl rfl sz_108 rfl rfl ?_
  refine OpsJ.nil ?_
  refine ExJ.thenN ?_
  refine CodeJ.seq ?_
  refine CodeJ.region ?_
  refine OpsJ.yld rfl rfl rfl (Yld.assign rfl rfl) ?_
  refine OpsJ.nil ?_
  refine ExJ.thenN ?_
  refine CodeJ.ret ?_
  exact ExJ.ret1 Tryd.results54 rfl ⟨rfl, rfl⟩ fun w hI => hI

theorem enable_spec (b : Bd) (bb : Nat) (p : Option Addr) (c : Nat) (r : Option Nat) :
    Spec Tryd.prog 49 [.pointer (some ⟨bb, 0, none⟩)] (bdR b bb p c r) (fun _ => True) (fun _ H' => ∃ k, H' = bdR { b with m := [] } bb p c (some k)) := by
  refine Spec.of Tryd.func49 rfl Tryd.ntmps49 rfl fun w0 _ => ?_
  refine CodeJ.region ?_
  refine OpsJ.yld rfl rfl rfl (Yld.move rfl rfl) ?_
  refine OpsJ.op rfl ?_
  refine OpJ.makeMap rfl rfl rfl fun nm hnm => ?_
  refine OpsJ.yld rfl rfl rfl (Yld.nilCheck rfl rfl) ?_
  refine OpsJ.yld rfl rfl rfl (Yld.fieldAddr fa_113_4 rfl rfl) ?_
  refine OpsJ.op rfl ?_
  refine OpJ.store1 (i := 1) rfl rfl rfl rfl rfl sz_111 rfl rfl ?_
  refine OpsJ.nil ?_
  refine ExJ.endN ?_
  exact ExJ.retOf (v := .tuple #[]) (fun a w hE hI => by simp [results, Tryd.results49]) ⟨nm, rfl⟩ fun w hI => hI.pick (is := [1, 2, 0]) (by decide) rfl

/-- one more in the section under way -/
def Bd.inc (b : Bd) : Bd := if b.sec = 2 then { b with q := b.q + 1 } else if b.sec = 3 then { b with an := b.an + 1 } else if b.sec = 4 then { b with au := b.au + 1 } else { b with ad := b.ad + 1 }
def Bd.cnt (b : Bd) : Nat := if b.sec = 2 then b.q else if b.sec = 3 then b.an else if b.sec = 4 then b.au else b.ad
end Go.Proofs.YtamobccbioafmaaDoor

/-
  Contracts of the package: the builder's count, questions, and faults.
-/
namespace Go.Proofs.YtamobccbioafmaaDoor
open Go
set_option maxRecDepth 100000

theorem u16_inc (x : Nat) (h : x < 65535) : IntKind.u16.wrap ((x : Int) + 1) = ((x + 1 : Nat) : Int) := by
  have : (x : Int) + 1 = ((x + 1 : Nat) : Int) := by omega
  rw [this, u16_wrap, Nat.mod_eq_of_lt (by omega)]

theorem inc2_spec (G : GEnv) (buf : List UInt8) (start id bits q an au ad : Nat) (m : List (List UInt8 × Nat)) (bb : Nat) (p : Option Addr) (c : Nat) (r : Option Nat) (hq : q < 65535) :
    Spec Tryd.prog 81 [.pointer (some ⟨bb, 0, none⟩)] [.blk bb (bdCs ⟨buf, start, 2, id, bits, q, an, au, ad, m⟩ p c r) 113] (fun w => GE G w (fp [.blk bb (bdCs ⟨buf, start, 2, id, bits, q, an, au, ad, m⟩ p c r) 113]))
      (fun x H' => x = .nilIface ∧ H' = [.blk bb (bdCs ⟨buf, start, 2, id, bits, q + 1, an, au, ad, m⟩ p c r) 113]) := by
  refine Spec.of Tryd.func81 rfl Tryd.ntmps81 rfl fun w0 hge => ?_
  have he2 := hge.at_ 2 (by decide)
  have hn2 := hge.out 2 (by decide)
  refine CodeJ.seq ?_
  refine CodeJ.region ?_
  refine OpsJ.yld rfl rfl rfl (Yld.assign rfl rfl) ?_
  refine OpsJ.nil ?_
  refine ExJ.thenN ?_
  refine CodeJ.seq ?_
  refine CodeJ.region ?_
  refine OpsJ.yld rfl rfl rfl (Yld.assign rfl rfl) ?_
  refine OpsJ.nil ?_
  refine ExJ.thenN ?_
  refine CodeJ.seq ?_
  refine CodeJ.region ?_
  refine OpsJ.yld rfl rfl rfl (Yld.assign rfl rfl) ?_
  refine OpsJ.nil ?_
  refine ExJ.thenN ?_
  refine CodeJ.seq ?_
  refine CodeJ.seq ?_
  refine CodeJ.region ?_
  refine OpsJ.yld rfl rfl rfl (Yld.move rfl rfl) ?_
  refine OpsJ.yld rfl rfl rfl (Yld.nilCheck rfl rfl) ?_
  refine OpsJ.yld rfl rfl rfl (Yld.fieldAddr fa_113_1 rfl rfl) ?_
  refine OpsJ.yld rfl rfl rfl (Yld.load1 rfl Tryd.underlying108 rfl rfl (fun w hI => Inv.cell1 hI (i := 0) rfl rfl)) ?_
  refine OpsJ.nil ?_
  refine ExJ.thenN ?_
  refine CodeJ.block ?_
  refine CodeJ.seq ?_
  refine CodeJ.region ?_
  refine OpsJ.yld rfl rfl rfl (Yld.intBin rfl rfl rfl rfl) ?_
  refine OpsJ.yld rfl rfl rfl (Yld.assign rfl rfl) ?_
  refine OpsJ.nil ?_
  refine ExJ.thenN ?_
  refine CodeJ.condT rfl ?_
  refine CodeJ.seq ?_
  refine CodeJ.region ?_
  refine OpsJ.yld rfl rfl rfl (Yld.move rfl rfl) ?_
  refine OpsJ.yld rfl rfl rfl (Yld.nilCheck rfl rfl) ?_
  refine OpsJ.yld rfl rfl rfl (Yld.fieldAddr fa_113_2 rfl rfl) ?_
  refine OpsJ.yld rfl rfl rfl (Yld.fieldAddr fa_110_2 rfl rfl) ?_
  refine OpsJ.yld rfl rfl rfl (Yld.assign rfl rfl) ?_
  refine OpsJ.nil ?_
  refine ExJ.thenN ?_
  refine CodeJ.region ?_
  refine OpsJ.yld rfl rfl rfl (Yld.load1 rfl Tryd.underlying69 rfl rfl (fun w hI => hI.old (he2) (hn2))) ?_
  refine OpsJ.yld rfl rfl rfl (Yld.assign rfl rfl) ?_
  refine OpsJ.nil ?_
  refine ExJ.blockN ?_
  refine ExJ.thenN ?_
  refine CodeJ.seq ?_
  refine CodeJ.seq ?_
  refine CodeJ.region ?_
  refine OpsJ.yld rfl rfl rfl (Yld.move rfl rfl) ?_
  refine OpsJ.yld rfl rfl rfl (Yld.nilCheck rfl rfl) ?_
  refine OpsJ.yld rfl rfl rfl (Yld.load1 rfl Tryd.underlying22 rfl rfl (fun w hI => Inv.cell1 hI (i := 0) rfl rfl)) ?_
  refine OpsJ.yld rfl rfl rfl (Yld.intBin rfl rfl rfl rfl) ?_
  refine OpsJ.nil ?_
  refine ExJ.thenN ?_
  refine CodeJ.cond rfl (fun c40 => ?_) (fun c40 => ?_)
  · have : (q : Int) = 65535 := by simpa using c40
    omega
  · refine CodeJ.skip ?_
    refine ExJ.thenN ?_
    refine CodeJ.seq ?_
    refine CodeJ.region ?_
    refine OpsJ.yld rfl rfl rfl (Yld.move rfl rfl) ?_
    refine OpsJ.yld rfl rfl rfl (Yld.nilCheck rfl rfl) ?_
    refine OpsJ.yld rfl rfl rfl (Yld.load1 rfl Tryd.underlying22 rfl rfl (fun w hI => Inv.cell1 hI (i := 0) rfl rfl)) ?_
    refine OpsJ.yld rfl rfl rfl (Yld.intBin rfl rfl rfl rfl) ?_
    rw [u16_inc _ hq]
    refine OpsJ.yld rfl rfl rfl (Yld.nilCheck rfl rfl) ?_
    refine OpsJ.op rfl ?_
    refine OpJ.store1 (i := 0) rfl rfl rfl rfl rfl sz_22 rfl rfl ?_
    refine OpsJ.nil ?_
    refine ExJ.thenN ?_
    refine CodeJ.seq ?_
    refine CodeJ.region ?_
    refine OpsJ.yld rfl rfl rfl (Yld.assign rfl rfl) ?_
    refine OpsJ.nil ?_
    refine ExJ.thenN ?_
    refine CodeJ.ret ?_
    exact ExJ.ret1 Tryd.results81 rfl ⟨rfl, rfl⟩ fun w hI => hI

theorem inc3_spec (G : GEnv) (buf : List UInt8) (start id bits q an au ad : Nat) (m : List (List UInt8 × Nat)) (bb : Nat) (p : Option Addr) (c : Nat) (r : Option Nat) (hq : an < 65535) :
    Spec Tryd.prog 81 [.pointer (some ⟨bb, 0, none⟩)] [.blk bb (bdCs ⟨buf, start, 3, id, bits, q, an, au, ad, m⟩ p c r) 113] (fun w => GE G w (fp [.blk bb (bdCs ⟨buf, start, 3, id, bits, q, an, au, ad, m⟩ p c r) 113]))
      (fun x H' => x = .nilIface ∧ H' = [.blk bb (bdCs ⟨buf, start, 3, id, bits, q, an + 1, au, ad, m⟩ p c r) 113]) := by
  refine Spec.of Tryd.func81 rfl Tryd.ntmps81 rfl fun w0 hge => ?_
  have he3 := hge.at_ 3 (by decide)
  have hn3 := hge.out 3 (by decide)
  refine CodeJ.seq ?_
  refine CodeJ.region ?_
  refine OpsJ.yld rfl rfl rfl (Yld.assign rfl rfl) ?_
  refine OpsJ.nil ?_
  refine ExJ.thenN ?_
  refine CodeJ.seq ?_
  refine CodeJ.region ?_
  refine OpsJ.yld rfl rfl rfl (Yld.assign rfl rfl) ?_
  refine OpsJ.nil ?_
  refine ExJ.thenN ?_
  refine CodeJ.seq ?_
  refine CodeJ.region ?_
  refine OpsJ.yld rfl rfl rfl (Yld.assign rfl rfl) ?_
  refine OpsJ.nil ?_
  refine ExJ.thenN ?_
  refine CodeJ.seq ?_
  refine CodeJ.seq ?_
  refine CodeJ.region ?_
  refine OpsJ.yld rfl rfl rfl (Yld.move rfl rfl) ?_
  refine OpsJ.yld rfl rfl rfl (Yld.nilCheck rfl rfl) ?_
  refine OpsJ.yld rfl rfl rfl (Yld.fieldAddr fa_113_1 rfl rfl) ?_
  refine OpsJ.yld rfl rfl rfl (Yld.load1 rfl Tryd.underlying108 rfl rfl (fun w hI => Inv.cell1 hI (i := 0) rfl rfl)) ?_
  refine OpsJ.nil ?_
  refine ExJ.thenN ?_
  refine CodeJ.block ?_
  refine CodeJ.seq ?_
  refine CodeJ.region ?_
  refine OpsJ.yld rfl rfl rfl (Yld.intBin rfl rfl rfl rfl) ?_
  refine OpsJ.yld rfl rfl rfl (Yld.assign rfl rfl) ?_
  refine OpsJ.nil ?_
  refine ExJ.thenN ?_
  refine CodeJ.condF rfl ?_
  refine CodeJ.seq ?_
  refine CodeJ.region ?_
  refine OpsJ.yld rfl rfl rfl (Yld.intBin rfl rfl rfl rfl) ?_
  refine OpsJ.yld rfl rfl rfl (Yld.assign rfl rfl) ?_
  refine OpsJ.nil ?_
  refine ExJ.thenN ?_
  refine CodeJ.condT rfl ?_
  refine CodeJ.seq ?_
  refine CodeJ.region ?_
  refine OpsJ.yld rfl rfl rfl (Yld.move rfl rfl) ?_
  refine OpsJ.yld rfl rfl rfl (Yld.nilCheck rfl rfl) ?_
  refine OpsJ.yld rfl rfl rfl (Yld.fieldAddr fa_113_2 rfl rfl) ?_
  refine OpsJ.yld rfl rfl rfl (Yld.fieldAddr fa_110_3 rfl rfl) ?_
  refine OpsJ.yld rfl rfl rfl (Yld.assign rfl rfl) ?_
  refine OpsJ.nil ?_
  refine ExJ.thenN ?_
  refine CodeJ.region ?_
  refine OpsJ.yld rfl rfl rfl (Yld.load1 rfl Tryd.underlying69 rfl rfl (fun w hI => hI.old (he3) (hn3))) ?_
  refine OpsJ.yld rfl rfl rfl (Yld.assign rfl rfl) ?_
  refine OpsJ.nil ?_
  refine ExJ.blockN ?_
  refine ExJ.thenN ?_
  refine CodeJ.seq ?_
  refine CodeJ.seq ?_
  refine CodeJ.region ?_
  refine OpsJ.yld rfl rfl rfl (Yld.move rfl rfl) ?_
  refine OpsJ.yld rfl rfl rfl (Yld.nilCheck rfl rfl) ?_
  refine OpsJ.yld rfl rfl rfl (Yld.load1 rfl Tryd.underlying22 rfl rfl (fun w hI => Inv.cell1 hI (i := 0) rfl rfl)) ?_
  refine OpsJ.yld rfl rfl rfl (Yld.intBin rfl rfl rfl rfl) ?_
  refine OpsJ.nil ?_
  refine ExJ.thenN ?_
  refine CodeJ.cond rfl (fun c40 => ?_) (fun c40 => ?_)
  · have : (an : Int) = 65535 := by simpa using c40
    omega
  · refine CodeJ.skip ?_
    refine ExJ.thenN ?_
    refine CodeJ.seq ?_
    refine CodeJ.region ?_
    refine OpsJ.yld rfl rfl rfl (Yld.move rfl rfl) ?_
    refine OpsJ.yld rfl rfl rfl (Yld.nilCheck rfl rfl) ?_
    refine OpsJ.yld rfl rfl rfl (Yld.load1 rfl Tryd.underlying22 rfl rfl (fun w hI => Inv.cell1 hI (i := 0) rfl rfl)) ?_
    refine OpsJ.yld rfl rfl rfl (Yld.intBin rfl rfl rfl rfl) ?_
    rw [u16_inc _ hq]
    refine OpsJ.yld rfl rfl rfl (Yld.nilCheck rfl rfl) ?_
    refine OpsJ.op rfl ?_
    refine OpJ.store1 (i := 0) rfl rfl rfl rfl rfl sz_22 rfl rfl ?_
    refine OpsJ.nil ?_
    refine ExJ.thenN ?_
    refine CodeJ.seq ?_
    refine CodeJ.region ?_
    refine OpsJ.yld rfl rfl rfl (Yld.assign rfl rfl) ?_
    refine OpsJ.nil ?_
    refine ExJ.thenN ?_
    refine CodeJ.ret ?_
    exact ExJ.ret1 Tryd.results81 rfl ⟨rfl, rfl⟩ fun w hI => hI

theorem inc4_spec (G : GEnv) (buf : List UInt8) (start id bits q an au ad : Nat) (m : List (List UInt8 × Nat)) (bb : Nat) (p : Option Addr) (c : Nat) (r : Option Nat) (hq : au < 65535) :
    Spec Tryd.prog 81 [.pointer (some ⟨bb, 0, none⟩)] [.blk bb (bdCs ⟨buf, start, 4, id, bits, q, an, au, ad, m⟩ p c r) 113] (fun w => GE G w (fp [.blk bb (bdCs ⟨buf, start, 4, id, bits, q, an, au, ad, m⟩ p c r) 113]))
      (fun x H' => x = .nilIface ∧ H' = [.blk bb (bdCs ⟨buf, start, 4, id, bits, q, an, au + 1, ad, m⟩ p c r) 113]) := by
  refine Spec.of Tryd.func81 rfl Tryd.ntmps81 rfl fun w0 hge => ?_
  have he4 := hge.at_ 4 (by decide)
  have hn4 := hge.out 4 (by decide)
  refine CodeJ.seq ?_
  refine CodeJ.region ?_
  refine OpsJ.yld rfl rfl rfl (Yld.assign rfl rfl) ?_
  refine OpsJ.nil ?_
  refine ExJ.thenN ?_
  refine CodeJ.seq ?_
  refine CodeJ.region ?_
  refine OpsJ.yld rfl rfl rfl (Yld.assign rfl rfl) ?_
  refine OpsJ.nil ?_
  refine ExJ.thenN ?_
  refine CodeJ.seq ?_
  refine CodeJ.region ?_
  refine OpsJ.yld rfl rfl rfl (Yld.assign rfl rfl) ?_
  refine OpsJ.nil ?_
  refine ExJ.thenN ?_
  refine CodeJ.seq ?_
  refine CodeJ.seq ?_
  refine CodeJ.region ?_
  refine OpsJ.yld rfl rfl rfl (Yld.move rfl rfl) ?_
  refine OpsJ.yld rfl rfl rfl (Yld.nilCheck rfl rfl) ?_
  refine OpsJ.yld rfl rfl rfl (Yld.fieldAddr fa_113_1 rfl rfl) ?_
  refine OpsJ.yld rfl rfl rfl (Yld.load1 rfl Tryd.underlying108 rfl rfl (fun w hI => Inv.cell1 hI (i := 0) rfl rfl)) ?_
  refine OpsJ.nil ?_
  refine ExJ.thenN ?_
  refine CodeJ.block ?_
  refine CodeJ.seq ?_
  refine CodeJ.region ?_
  refine OpsJ.yld rfl rfl rfl (Yld.intBin rfl rfl rfl rfl) ?_
  refine OpsJ.yld rfl rfl rfl (Yld.assign rfl rfl) ?_
  refine OpsJ.nil ?_
  refine ExJ.thenN ?_
  refine CodeJ.condF rfl ?_
  refine CodeJ.seq ?_
  refine CodeJ.region ?_
  refine OpsJ.yld rfl rfl rfl (Yld.intBin rfl rfl rfl rfl) ?_
  refine OpsJ.yld rfl rfl rfl (Yld.assign rfl rfl) ?_
  refine OpsJ.nil ?_
  refine ExJ.thenN ?_
  refine CodeJ.condF rfl ?_
  refine CodeJ.seq ?_
  refine CodeJ.region ?_
  refine OpsJ.yld rfl rfl rfl (Yld.intBin rfl rfl rfl rfl) ?_
  refine OpsJ.yld rfl rfl rfl (Yld.assign rfl rfl) ?_
  refine OpsJ.nil ?_
  refine ExJ.thenN ?_
  refine CodeJ.condT rfl ?_
  refine CodeJ.seq ?_
  refine CodeJ.region ?_
  refine OpsJ.yld rfl rfl rfl (Yld.move rfl rfl) ?_
  refine OpsJ.yld rfl rfl rfl (Yld.nilCheck rfl rfl) ?_
  refine OpsJ.yld rfl rfl rfl (Yld.fieldAddr fa_113_2 rfl rfl) ?_
  refine OpsJ.yld rfl rfl rfl (Yld.fieldAddr fa_110_4 rfl rfl) ?_
  refine OpsJ.yld rfl rfl rfl (Yld.assign rfl rfl) ?_
  refine OpsJ.nil ?_
  refine ExJ.thenN ?_
  refine CodeJ.region ?_
  refine OpsJ.yld rfl rfl rfl (Yld.load1 rfl Tryd.underlying69 rfl rfl (fun w hI => hI.old (he4) (hn4))) ?_
  refine OpsJ.yld rfl rfl rfl (Yld.assign rfl rfl) ?_
  refine OpsJ.nil ?_
  refine ExJ.blockN ?_
  refine ExJ.thenN ?_
  refine CodeJ.seq ?_
  refine CodeJ.seq ?_
  refine CodeJ.region ?_
  refine OpsJ.yld rfl rfl rfl (Yld.move rfl rfl) ?_
  refine OpsJ.yld rfl rfl rfl (Yld.nilCheck rfl rfl) ?_
  refine OpsJ.yld rfl rfl rfl (Yld.load1 rfl Tryd.underlying22 rfl rfl (fun w hI => Inv.cell1 hI (i := 0) rfl rfl)) ?_
  refine OpsJ.yld rfl rfl rfl (Yld.intBin rfl rfl rfl rfl) ?_
  refine OpsJ.nil ?_
  refine ExJ.thenN ?_
  refine CodeJ.cond rfl (fun c40 => ?_) (fun c40 => ?_)
  · have : (au : Int) = 65535 := by simpa using c40
    omega
  · refine CodeJ.skip ?_
    refine ExJ.thenN ?_
    refine CodeJ.seq ?_
    refine CodeJ.region ?_
    refine OpsJ.yld rfl rfl rfl (Yld.move rfl rfl) ?_
    refine OpsJ.yld rfl rfl rfl (Yld.nilCheck rfl rfl) ?_
    refine OpsJ.yld rfl rfl rfl (Yld.load1 rfl Tryd.underlying22 rfl rfl (fun w hI => Inv.cell1 hI (i := 0) rfl rfl)) ?_
    refine OpsJ.yld rfl rfl rfl (Yld.intBin rfl rfl rfl rfl) ?_
    rw [u16_inc _ hq]
    refine OpsJ.yld rfl rfl rfl (Yld.nilCheck rfl rfl) ?_
    refine OpsJ.op rfl ?_
    refine OpJ.store1 (i := 0) rfl rfl rfl rfl rfl sz_22 rfl rfl ?_
    refine OpsJ.nil ?_
    refine ExJ.thenN ?_
    refine CodeJ.seq ?_
    refine CodeJ.region ?_
    refine OpsJ.yld rfl rfl rfl (Yld.assign rfl rfl) ?_
    refine OpsJ.nil ?_
    refine ExJ.thenN ?_
    refine CodeJ.ret ?_
    exact ExJ.ret1 Tryd.results81 rfl ⟨rfl, rfl⟩ fun w hI => hI

theorem inc5_spec (G : GEnv) (buf : List UInt8) (start id bits q an au ad : Nat) (m : List (List UInt8 × Nat)) (bb : Nat) (p : Option Addr) (c : Nat) (r : Option Nat) (hq : ad < 65535) :
    Spec Tryd.prog 81 [.pointer (some ⟨bb, 0, none⟩)] [.blk bb (bdCs ⟨buf, start, 5, id, bits, q, an, au, ad, m⟩ p c r) 113] (fun w => GE G w (fp [.blk bb (bdCs ⟨buf, start, 5, id, bits, q, an, au, ad, m⟩ p c r) 113]))
      (fun x H' => x = .nilIface ∧ H' = [.blk bb (bdCs ⟨buf, start, 5, id, bits, q, an, au, ad + 1, m⟩ p c r) 113]) := by
  refine Spec.of Tryd.func81 rfl Tryd.ntmps81 rfl fun w0 hge => ?_
  have he5 := hge.at_ 5 (by decide)
  have hn5 := hge.out 5 (by decide)
  refine CodeJ.seq ?_
  refine CodeJ.region ?_
  refine OpsJ.yld rfl rfl rfl (Yld.assign rfl rfl) ?_
  refine OpsJ.nil ?_
  refine ExJ.thenN ?_
  refine CodeJ.seq ?_
  refine CodeJ.region ?_
  refine OpsJ.yld rfl rfl rfl (Yld.assign rfl rfl) ?_
  refine OpsJ.nil ?_
  refine ExJ.thenN ?_
  refine CodeJ.seq ?_
  refine CodeJ.region ?_
  refine OpsJ.yld rfl rfl rfl (Yld.assign rfl rfl) ?_
  refine OpsJ.nil ?_
  refine ExJ.thenN ?_
  refine CodeJ.seq ?_
  refine CodeJ.seq ?_
  refine CodeJ.region ?_
  refine OpsJ.yld rfl rfl rfl (Yld.move rfl rfl) ?_
  refine OpsJ.yld rfl rfl rfl (Yld.nilCheck rfl rfl) ?_
  refine OpsJ.yld rfl rfl rfl (Yld.fieldAddr fa_113_1 rfl rfl) ?_
  refine OpsJ.yld rfl rfl rfl (Yld.load1 rfl Tryd.underlying108 rfl rfl (fun w hI => Inv.cell1 hI (i := 0) rfl rfl)) ?_
  refine OpsJ.nil ?_
  refine ExJ.thenN ?_
  refine CodeJ.block ?_
  refine CodeJ.seq ?_
  refine CodeJ.region ?_
  refine OpsJ.yld rfl rfl rfl (Yld.intBin rfl rfl rfl rfl) ?_
  refine OpsJ.yld rfl rfl rfl (Yld.assign rfl rfl) ?_
  refine OpsJ.nil ?_
  refine ExJ.thenN ?_
  refine CodeJ.condF rfl ?_
  refine CodeJ.seq ?_
  refine CodeJ.region ?_
  refine OpsJ.yld rfl rfl rfl (Yld.intBin rfl rfl rfl rfl) ?_
  refine OpsJ.yld rfl rfl rfl (Yld.assign rfl rfl) ?_
  refine OpsJ.nil ?_
  refine ExJ.thenN ?_
  refine CodeJ.condF rfl ?_
  refine CodeJ.seq ?_
  refine CodeJ.region ?_
  refine OpsJ.yld rfl rfl rfl (Yld.intBin rfl rfl rfl rfl) ?_
  refine OpsJ.yld rfl rfl rfl (Yld.assign rfl rfl) ?_
  refine OpsJ.nil ?_
  refine ExJ.thenN ?_
  refine CodeJ.condF rfl ?_
  refine CodeJ.seq ?_
  refine CodeJ.region ?_
  refine OpsJ.yld rfl rfl rfl (Yld.intBin rfl rfl rfl rfl) ?_
  refine OpsJ.yld rfl rfl rfl (Yld.assign rfl rfl) ?_
  refine OpsJ.nil ?_
  refine ExJ.thenN ?_
  refine CodeJ.condT rfl ?_
  refine CodeJ.seq ?_
  refine CodeJ.region ?_
  refine OpsJ.yld rfl rfl rfl (Yld.move rfl rfl) ?_
  refine OpsJ.yld rfl rfl rfl (Yld.nilCheck rfl rfl) ?_
  refine OpsJ.yld rfl rfl rfl (Yld.fieldAddr fa_113_2 rfl rfl) ?_
  refine OpsJ.yld rfl rfl rfl (Yld.fieldAddr fa_110_5 rfl rfl) ?_
  refine OpsJ.yld rfl rfl rfl (Yld.assign rfl rfl) ?_
  refine OpsJ.nil ?_
  refine ExJ.thenN ?_
  refine CodeJ.region ?_
  refine OpsJ.yld rfl rfl rfl (Yld.load1 rfl Tryd.underlying69 rfl rfl (fun w hI => hI.old (he5) (hn5))) ?_
  refine OpsJ.yld rfl rfl rfl (Yld.assign rfl rfl) ?_
  refine OpsJ.nil ?_
  refine ExJ.blockN ?_
  refine ExJ.thenN ?_
  refine CodeJ.seq ?_
  refine CodeJ.seq ?_
  refine CodeJ.region ?_
  refine OpsJ.yld rfl rfl rfl (Yld.move rfl rfl) ?_
  refine OpsJ.yld rfl rfl rfl (Yld.nilCheck rfl rfl) ?_
  refine OpsJ.yld rfl rfl rfl (Yld.load1 rfl Tryd.underlying22 rfl rfl (fun w hI => Inv.cell1 hI (i := 0) rfl rfl)) ?_
  refine OpsJ.yld rfl rfl rfl (Yld.intBin rfl rfl rfl rfl) ?_
  refine OpsJ.nil ?_
  refine ExJ.thenN ?_
  refine CodeJ.cond rfl (fun c40 => ?_) (fun c40 => ?_)
  · have : (ad : Int) = 65535 := by simpa using c40
    omega
  · refine CodeJ.skip ?_
    refine ExJ.thenN ?_
    refine CodeJ.seq ?_
    refine CodeJ.region ?_
    refine OpsJ.yld rfl rfl rfl (Yld.move rfl rfl) ?_
    refine OpsJ.yld rfl rfl rfl (Yld.nilCheck rfl rfl) ?_
    refine OpsJ.yld rfl rfl rfl (Yld.load1 rfl Tryd.underlying22 rfl rfl (fun w hI => Inv.cell1 hI (i := 0) rfl rfl)) ?_
    refine OpsJ.yld rfl rfl rfl (Yld.intBin rfl rfl rfl rfl) ?_
    rw [u16_inc _ hq]
    refine OpsJ.yld rfl rfl rfl (Yld.nilCheck rfl rfl) ?_
    refine OpsJ.op rfl ?_
    refine OpJ.store1 (i := 0) rfl rfl rfl rfl rfl sz_22 rfl rfl ?_
    refine OpsJ.nil ?_
    refine ExJ.thenN ?_
    refine CodeJ.seq ?_
    refine CodeJ.region ?_
    refine OpsJ.yld rfl rfl rfl (Yld.assign rfl rfl) ?_
    refine OpsJ.nil ?_
    refine ExJ.thenN ?_
    refine CodeJ.ret ?_
    exact ExJ.ret1 Tryd.results81 rfl ⟨rfl, rfl⟩ fun w hI => hI

end Go.Proofs.YtamobccbioafmaaDoor
