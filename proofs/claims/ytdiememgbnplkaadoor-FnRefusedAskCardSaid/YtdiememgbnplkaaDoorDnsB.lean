/-
  Contracts of the package: types, classes, questions, headers, and the builder's sections.
-/
import Derived.Test.YtdiememgbnplkaaDoorDnsA
import Derived.Test.YtdiememgbnplkaaDoorSpecC
import Derived.Test.YtdiememgbnplkaaDoorMem5
namespace Go.Proofs.YtdiememgbnplkaaDoor
open Go
set_option maxRecDepth 100000

theorem packType_spec (x : Nat) (v v' : Value) (bs bs' : List UInt8) (hl : bs'.length + 2 ≤ 175921860444160) :
    Spec Tryd.prog 64 [v', .int .u16 x] [appB 5 v bs v' bs'] (fun _ => True) (RetA 5 v bs (bs' ++ be16 x)) := by
  refine Spec.of Tryd.func64 rfl Tryd.ntmps64 rfl fun w0 _ => ?_
  refine CodeJ.seq ?_
  refine CodeJ.region ?_
  refine OpsJ.yld rfl rfl rfl (Yld.assign rfl rfl) ?_
  refine OpsJ.nil ?_
  refine ExJ.thenN ?_
  refine CodeJ.seq ?_
  refine CodeJ.region ?_
  refine OpsJ.yld rfl rfl rfl (Yld.move rfl rfl) ?_
  refine OpsJ.yld rfl rfl rfl (Yld.move rfl rfl) ?_
  refine OpsJ.op rfl ?_
  refine OpJ.call (packUint16_spec x v v' bs bs' hl) has_66 rfl rfl rfl rfl rfl [0] [] (by decide) rfl rfl (fun _ _ => trivial) ?_
  rintro _ _ ⟨p7, c7, rfl, rfl⟩
  refine OpsJ.yld rfl rfl rfl (Yld.assign rfl rfl) ?_
  refine OpsJ.nil ?_
  refine ExJ.thenN ?_
  refine CodeJ.ret ?_
  exact ExJ.ret1 Tryd.results64 rfl ⟨_, _, rfl, rfl⟩ fun w hI => hI
theorem packClass_spec (x : Nat) (v v' : Value) (bs bs' : List UInt8) (hl : bs'.length + 2 ≤ 175921860444160) :
    Spec Tryd.prog 65 [v', .int .u16 x] [appB 5 v bs v' bs'] (fun _ => True) (RetA 5 v bs (bs' ++ be16 x)) := by
  refine Spec.of Tryd.func65 rfl Tryd.ntmps65 rfl fun w0 _ => ?_
  refine CodeJ.seq ?_
  refine CodeJ.region ?_
  refine OpsJ.yld rfl rfl rfl (Yld.assign rfl rfl) ?_
  refine OpsJ.nil ?_
  refine ExJ.thenN ?_
  refine CodeJ.seq ?_
  refine CodeJ.region ?_
  refine OpsJ.yld rfl rfl rfl (Yld.move rfl rfl) ?_
  refine OpsJ.yld rfl rfl rfl (Yld.move rfl rfl) ?_
  refine OpsJ.op rfl ?_
  refine OpJ.call (packUint16_spec x v v' bs bs' hl) has_66 rfl rfl rfl rfl rfl [0] [] (by decide) rfl rfl (fun _ _ => trivial) ?_
  rintro _ _ ⟨p7, c7, rfl, rfl⟩
  refine OpsJ.yld rfl rfl rfl (Yld.assign rfl rfl) ?_
  refine OpsJ.nil ?_
  refine ExJ.thenN ?_
  refine CodeJ.ret ?_
  exact ExJ.ret1 Tryd.results65 rfl ⟨_, _, rfl, rfl⟩ fun w hI => hI

/-- a Question -/
def questCs (l : List UInt8) (typ cls : Nat) : List Value := nameCs l ++ [.int .u16 typ, .int .u16 cls]
def packQ (base : Nat) (on : Bool) (l : List UInt8) (typ cls : Nat) (m : List (List UInt8 × Nat)) : PkRes :=
  match packN base on l m with
  | .ok ys m' => .ok (ys ++ be16 typ ++ be16 cls) m'
  | .err m' => .err m'

/-- a name that pack takes: it ends with a dot and is not too long -/
structure PName (l : List UInt8) : Prop where
  pos : 1 ≤ l.length
  le : l.length ≤ 254
  last : l[l.length - 1]? = some 46

theorem pk_len (base : Nat) (on : Bool) : ∀ (s lab ys : List UInt8) (m : List (List UInt8 × Nat)) (zs : List UInt8) (m' : List (List UInt8 × Nat)), pk base on s lab ys m = .ok zs m' → zs.length ≤ ys.length + lab.length + 2 * s.length + 2
  | [], lab, ys, m, zs, m', h => by
    simp only [pk] at h
    injection h with h1 h2
    subst h1
    simp
    omega
  | c :: r, lab, ys, m, zs, m', h => by
    rw [pk] at h
    split at h
    · split at h
      · cases h
      · split at h
        · cases h
        · have := pk_len base on r [] _ m zs m' h
          simp at this ⊢
          omega
    · split at h
      · split at h
        · injection h with h1 h2
          subst h1
          simp [ptrB]
          omega
        · split at h
          · have := pk_len base on r (lab ++ [c]) ys _ zs m' h
            simp at this ⊢
            omega
          · have := pk_len base on r (lab ++ [c]) ys _ zs m' h
            simp at this ⊢
            omega
      · have := pk_len base on r (lab ++ [c]) ys _ zs m' h
        simp at this ⊢
        omega
theorem packN_len {base : Nat} {on : Bool} {s : List UInt8} {m : List (List UInt8 × Nat)} {zs : List UInt8} {m' : List (List UInt8 × Nat)} (h : packN base on s m = .ok zs m') : zs.length ≤ 2 * s.length + 2 := by
  unfold packN at h
  split at h
  · injection h with h1 h2
    subst h1
    simp
  · have := pk_len base on s [] [] m zs m' h
    simpa using this

/-- the table behind it -/
def PkRes.tab : PkRes → List (List UInt8 × Nat)
  | .ok _ m => m
  | .err m => m
theorem pk_small (base : Nat) (on : Bool) : ∀ (s lab ys : List UInt8) (m : List (List UInt8 × Nat)), (∀ x ∈ m, x.2 < 65536) → ∀ x ∈ (pk base on s lab ys m).tab, x.2 < 65536
  | [], lab, ys, m, h => by simpa only [pk, PkRes.tab] using h
  | c :: r, lab, ys, m, h => by
    rw [pk]
    split
    · split
      · exact h
      · split
        · exact h
        · exact pk_small base on r _ _ m h
    · split
      · split
        · exact h
        · split
          · refine pk_small base on r _ _ _ fun x hx => ?_
            rcases List.mem_append.1 hx with hx | hx
            · exact h x hx
            · simp at hx
              subst hx
              simp
              omega
          · exact pk_small base on r _ _ m h
      · exact pk_small base on r _ _ m h
theorem packN_small (base : Nat) (on : Bool) (s : List UInt8) (m : List (List UInt8 × Nat)) (h : ∀ x ∈ m, x.2 < 65536) : ∀ x ∈ (packN base on s m).tab, x.2 < 65536 := by
  unfold packN
  split
  · exact h
  · exact pk_small base on s [] [] m h

/-- what packing a part that may nest its refusal returns -/
def PackPostN (T : TypeId) (v : Value) (bs bs' : List UInt8) (r : Option Nat) : PkRes → Value → List Res → Prop
  | .ok ys m, x, H' => ∃ p c, x = .tuple #[.slice p (bs' ++ ys).length c, .nilIface] ∧ H' = [appB T v bs (.slice p (bs' ++ ys).length c) (bs' ++ ys), .mp r (kvV m)]
  | .err m, x, H' => ∃ u a, x = .tuple #[u, .iface 137 (.pointer (some a))] ∧ H' = [ownB T v bs, .mp r (kvV m)]

theorem questionPack_spec (G : Nat → Addr) (l : List UInt8) (hn : PName l) (typ cls : Nat) (bq o off : Nat) (v : Value) (bs bs' : List UInt8) (p : Option Addr) (c : Nat) (r : Option Nat) (m : List (List UInt8 × Nat)) (hoff : off ≤ bs'.length) (hbig : bs'.length ≤ 158329674399744 - 1024) (hm : ∀ x ∈ m, x.2 < 65536) :
    Spec Tryd.prog 59 [.pointer (some ⟨bq, o, none⟩), .slice p bs'.length c, .map r, .int .i64 off] [appB 5 v bs (.slice p bs'.length c) bs', .mp r (kvV m)]
      (fun w => Cells w bq o (questCs l typ cls) ∧ bq ∉ fp [appB 5 v bs (.slice p bs'.length c) bs', .mp r (kvV m)] ∧ GE G w (fp [appB 5 v bs (.slice p bs'.length c) bs', .mp r (kvV m)]))
      (PackPostN 5 v bs bs' r (packQ (bs'.length - off) r.isSome l typ cls m)) := by
  refine Spec.of Tryd.func59 rfl Tryd.ntmps59 rfl fun w0 hR => ?_
  obtain ⟨hcs, hbq, hge⟩ := hR
  have hlen := nameCs_len l (by have := hn.le; omega)
  have hname : Cells w0 bq (o + 0) (nameCs l) := hcs.part (k := 0) (by simp [questCs]) (by simp [questCs])
  have htyp : Cells w0 bq (o + 256) [.int .u16 typ] := hcs.part (k := 256) (by rw [questCs, List.drop_left' hlen]; rfl) (by simp [questCs, hlen])
  have hcls : Cells w0 bq (o + 257) [.int .u16 cls] := hcs.part (k := 257) (by rw [questCs, List.drop_append, hlen, List.drop_of_length_le (by omega)]; rfl) (by simp [questCs, hlen])
  have hl := hn.le
  cases hq : packN (bs'.length - off) r.isSome l m with
  | ok ys m' =>
    have hys := packN_len hq
    have hpq : packQ (bs'.length - off) r.isSome l typ cls m = .ok (ys ++ be16 typ ++ be16 cls) m' := by simp [packQ, hq]
    rw [hpq]
    refine CodeJ.seq ?_
    refine CodeJ.region ?_
    refine OpsJ.yld rfl rfl rfl (Yld.assign rfl rfl) ?_
    refine OpsJ.yld rfl rfl rfl (Yld.assign rfl rfl) ?_
    refine OpsJ.nil ?_
    refine ExJ.thenN ?_
    refine CodeJ.seq ?_
    refine CodeJ.region ?_
    refine OpsJ.yld rfl rfl rfl (Yld.move rfl rfl) ?_
    refine OpsJ.yld rfl rfl rfl (Yld.nilCheck rfl rfl) ?_
    refine OpsJ.yld rfl rfl rfl (Yld.fieldAddr fa_107_0 rfl rfl) ?_
    refine OpsJ.yld rfl rfl rfl (Yld.move rfl rfl) ?_
    refine OpsJ.yld rfl rfl rfl (Yld.move rfl rfl) ?_
    refine OpsJ.yld rfl rfl rfl (Yld.move rfl rfl) ?_
    refine OpsJ.op rfl ?_
    refine OpJ.call (namePack_spec G l hn.pos hn.le hn.last bq (o + 0) off v bs bs' p c r m hoff (by omega) hm) has_63 rfl rfl rfl rfl rfl [0, 1] [] (by decide) rfl rfl (fun w hI => ⟨hI.old hname hbq, hbq, hge.call hI (is := [0, 1]) rfl⟩) ?_
    rintro _ _ hpost
    rw [hq] at hpost
    obtain ⟨p18, c18, rfl, rfl⟩ := hpost
    refine OpsJ.yld rfl rfl rfl (Yld.move rfl rfl) ?_
    refine OpsJ.yld rfl rfl rfl (Yld.extract rfl rfl rfl) ?_
    refine OpsJ.yld rfl rfl rfl (Yld.extract rfl rfl rfl) ?_
    refine OpsJ.yld rfl rfl rfl (Yld.assign rfl rfl) ?_
    refine OpsJ.yld rfl rfl rfl (Yld.assign rfl rfl) ?_
    refine OpsJ.nil ?_
    refine ExJ.thenN ?_
    refine CodeJ.seq ?_
    refine CodeJ.seq ?_
    refine CodeJ.region ?_
    refine OpsJ.yld rfl rfl rfl (Yld.move rfl rfl) ?_
    refine OpsJ.yld rfl rfl rfl (Yld.ifaceNeNil rfl Tryd.underlying98 rfl rfl) ?_
    refine OpsJ.nil ?_
    refine ExJ.thenN ?_
    refine CodeJ.condF rfl ?_
    refine CodeJ.skip ?_
    refine ExJ.thenN ?_
    refine CodeJ.seq ?_
    refine CodeJ.region ?_
    refine OpsJ.yld rfl rfl rfl (Yld.move rfl rfl) ?_
    refine OpsJ.yld rfl rfl rfl (Yld.move rfl rfl) ?_
    refine OpsJ.yld rfl rfl rfl (Yld.nilCheck rfl rfl) ?_
    refine OpsJ.yld rfl rfl rfl (Yld.fieldAddr fa_107_1 rfl rfl) ?_
    refine OpsJ.yld rfl rfl rfl (Yld.load1 rfl Tryd.underlying104 rfl rfl (fun w hI => hI.old htyp hbq)) ?_
    refine OpsJ.op rfl ?_
    refine OpJ.call (packType_spec typ v _ bs (bs' ++ ys) (by simp; omega)) has_64 rfl rfl rfl rfl rfl [0] [1] (by decide) rfl rfl (fun _ _ => trivial) ?_
    rintro _ _ ⟨p33, c33, rfl, rfl⟩
    refine OpsJ.yld rfl rfl rfl (Yld.assign rfl rfl) ?_
    refine OpsJ.nil ?_
    refine ExJ.thenN ?_
    refine CodeJ.seq ?_
    refine CodeJ.region ?_
    refine OpsJ.yld rfl rfl rfl (Yld.move rfl rfl) ?_
    refine OpsJ.yld rfl rfl rfl (Yld.move rfl rfl) ?_
    refine OpsJ.yld rfl rfl rfl (Yld.nilCheck rfl rfl) ?_
    refine OpsJ.yld rfl rfl rfl (Yld.fieldAddr fa_107_2 rfl rfl) ?_
    refine OpsJ.yld rfl rfl rfl (Yld.load1 rfl Tryd.underlying105 rfl rfl (fun w hI => hI.old hcls hbq)) ?_
    refine OpsJ.op rfl ?_
    refine OpJ.call (packClass_spec cls v _ bs (bs' ++ ys ++ be16 typ) (by simp [be16_len]; omega)) has_65 rfl rfl rfl rfl rfl [0] [1] (by decide) rfl rfl (fun _ _ => trivial) ?_
    rintro _ _ ⟨p39, c39, rfl, rfl⟩
    refine OpsJ.yld rfl rfl rfl (Yld.assign rfl rfl) ?_
    refine OpsJ.yld rfl rfl rfl (Yld.assign rfl rfl) ?_
    refine OpsJ.nil ?_
    refine ExJ.thenN ?_
    refine CodeJ.ret ?_
    refine ExJ.ret2 Tryd.results59 rfl rfl ?_ fun w hI => hI
    have e : bs' ++ ys ++ be16 typ ++ be16 cls = bs' ++ (ys ++ be16 typ ++ be16 cls) := by simp
    exact ⟨p39, c39, by rw [← e], by rw [← e]; rfl⟩
  | err m' =>
    have hpq : packQ (bs'.length - off) r.isSome l typ cls m = .err m' := by simp [packQ, hq]
    rw [hpq]
    refine CodeJ.seq ?_
    refine CodeJ.region ?_
    refine OpsJ.yld rfl rfl rfl (Yld.assign rfl rfl) ?_
    refine OpsJ.yld rfl rfl rfl (Yld.assign rfl rfl) ?_
    refine OpsJ.nil ?_
    refine ExJ.thenN ?_
    refine CodeJ.seq ?_
    refine CodeJ.region ?_
    refine OpsJ.yld rfl rfl rfl (Yld.move rfl rfl) ?_
    refine OpsJ.yld rfl rfl rfl (Yld.nilCheck rfl rfl) ?_
    refine OpsJ.yld rfl rfl rfl (Yld.fieldAddr fa_107_0 rfl rfl) ?_
    refine OpsJ.yld rfl rfl rfl (Yld.move rfl rfl) ?_
    refine OpsJ.yld rfl rfl rfl (Yld.move rfl rfl) ?_
    refine OpsJ.yld rfl rfl rfl (Yld.move rfl rfl) ?_
    refine OpsJ.op rfl ?_
    refine OpJ.call (namePack_spec G l hn.pos hn.le hn.last bq (o + 0) off v bs bs' p c r m hoff (by omega) hm) has_63 rfl rfl rfl rfl rfl [0, 1] [] (by decide) rfl rfl (fun w hI => ⟨hI.old hname hbq, hbq, hge.call hI (is := [0, 1]) rfl⟩) ?_
    rintro _ _ hpost
    rw [hq] at hpost
    obtain ⟨u18, t18, e18, rfl, rfl⟩ := hpost
    refine OpsJ.yld rfl rfl rfl (Yld.move rfl rfl) ?_
    refine OpsJ.yld rfl rfl rfl (Yld.extract rfl rfl rfl) ?_
    refine OpsJ.yld rfl rfl rfl (Yld.extract rfl rfl rfl) ?_
    refine OpsJ.yld rfl rfl rfl (Yld.assign rfl rfl) ?_
    refine OpsJ.yld rfl rfl rfl (Yld.assign rfl rfl) ?_
    refine OpsJ.nil ?_
    refine ExJ.thenN ?_
    refine CodeJ.seq ?_
    refine CodeJ.seq ?_
    refine CodeJ.region ?_
    refine OpsJ.yld rfl rfl rfl (Yld.move rfl rfl) ?_
    refine OpsJ.yld rfl rfl rfl (Yld.ifaceNeNil rfl Tryd.underlying98 rfl rfl) ?_
    refine OpsJ.nil ?_
    refine ExJ.thenN ?_
    refine CodeJ.condT rfl ?_
    refine CodeJ.seq ?_
    refine CodeJ.region ?_
    refine OpsJ.yld rfl rfl rfl (Yld.move rfl rfl) ?_
    refine OpsJ.yld rfl rfl rfl (Yld.move rfl rfl) ?_
    refine OpsJ.yld rfl rfl rfl (Yld.build places_139 zero_139 rfl rfl rfl) ?_
    refine OpsJ.op rfl ?_
    refine OpJ.box rfl rfl rfl rfl fun ne hne => ?_
    refine OpsJ.yld rfl rfl rfl (Yld.makeInterface rfl Tryd.underlying137 rfl rfl) ?_
    refine OpsJ.yld rfl rfl rfl (Yld.assign rfl rfl) ?_
    refine OpsJ.yld rfl rfl rfl (Yld.assign rfl rfl) ?_
    refine OpsJ.nil ?_
    refine ExJ.thenN ?_
    refine CodeJ.ret ?_
    refine ExJ.thenR ?_
    exact ExJ.ret2 Tryd.results59 rfl rfl ⟨_, _, rfl, rfl⟩ fun w hI => hI.pick (is := [1, 2]) (by decide) rfl
end Go.Proofs.YtdiememgbnplkaaDoor
