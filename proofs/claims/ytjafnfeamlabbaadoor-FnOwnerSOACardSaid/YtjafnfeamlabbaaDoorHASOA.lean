/-
  Contracts of the package and of impl: SOA records.
-/
import Derived.Test.YtjafnfeamlabbaaDoorBg
namespace Go.Proofs.YtjafnfeamlabbaaDoor
open Go
set_option maxRecDepth 100000

theorem soaType_spec (v : Value) : Spec Tryd.prog 84 [v] [] (fun _ => True) (fun x H' => x = .int .u16 ((6 : Nat) : Int) ∧ H' = []) := by
  refine Spec.of Tryd.func84 rfl Tryd.ntmps84 rfl fun w0 _ => ?_
  refine CodeJ.seq ?_
  refine CodeJ.region ?_
  refine OpsJ.yld rfl rfl rfl (Yld.assign rfl rfl) ?_
  refine OpsJ.nil ?_
  refine ExJ.thenN ?_
  refine CodeJ.seq ?_
  refine CodeJ.region ?_
  refine OpsJ.yld rfl rfl rfl (Yld.assign rfl rfl) ?_
  refine OpsJ.nil ?_
  refine ExJ.thenN ?_
  refine CodeJ.ret ?_
  exact ExJ.ret1 Tryd.results84 rfl ⟨rfl, rfl⟩ fun w hI => hI

/-- five numbers of 32 bits -/
def nums20 (x : RecD) : List UInt8 := b4 x.n1 ++ (b4 x.n2 ++ (b4 x.n3 ++ (b4 x.n4 ++ b4 x.n5)))
theorem nums20_len (x : RecD) : (nums20 x).length = 20 := rfl
/-- two names, then numbers -/
def soaP (base : Nat) (on : Bool) (l1 l2 : List UInt8) (x : RecD) (m : List (List UInt8 × Nat)) : PkRes :=
  match packN base on l1 m with
  | .err m1 => .err m1
  | .ok ys m1 =>
    match packN (base + ys.length) on l2 m1 with
    | .err m2 => .err m2
    | .ok zs m2 => .ok (ys ++ zs ++ nums20 x) m2
def soaCs (l1 l2 : List UInt8) (x : RecD) : List Value := nameCs l1 ++ nameCs l2 ++ [.int .u32 (x.n1 : Nat), .int .u32 (x.n2 : Nat), .int .u32 (x.n3 : Nat), .int .u32 (x.n4 : Nat), .int .u32 (x.n5 : Nat)]
theorem pk_len1 (base : Nat) (on : Bool) : ∀ (s lab ys : List UInt8) (m : List (List UInt8 × Nat)) (zs : List UInt8) (m' : List (List UInt8 × Nat)), pk base on s lab ys m = .ok zs m' → zs.length ≤ ys.length + lab.length + s.length + 2
  | [], lab, ys, m, zs, m', h => by
    simp only [pk] at h
    injection h with h1 h2
    subst h1
    simp
    omega
  | c :: r, lab, ys, m, zs, m', h => by
    rw [pk] at h
    split at h
    · split at h
      · cases h
      · split at h
        · cases h
        · have := pk_len1 base on r [] _ m zs m' h
          simp at this ⊢
          omega
    · split at h
      · split at h
        · injection h with h1 h2
          subst h1
          simp [ptrB]
          omega
        · split at h
          · have := pk_len1 base on r (lab ++ [c]) ys _ zs m' h
            simp at this ⊢
            omega
          · have := pk_len1 base on r (lab ++ [c]) ys _ zs m' h
            simp at this ⊢
            omega
      · have := pk_len1 base on r (lab ++ [c]) ys _ zs m' h
        simp at this ⊢
        omega
theorem packN_len1 {base : Nat} {on : Bool} {s : List UInt8} {m : List (List UInt8 × Nat)} {zs : List UInt8} {m' : List (List UInt8 × Nat)} (h : packN base on s m = .ok zs m') : zs.length ≤ s.length + 2 := by
  unfold packN at h
  split at h
  · injection h with h1 h2
    subst h1
    simp
  · have := pk_len1 base on s [] [] m zs m' h
    simpa using this
theorem soaPack_spec (G : GEnv) (l1 : List UInt8) (hn1 : PName l1) (l2 : List UInt8) (hn2 : PName l2) (x : RecD) (hx : x.wf) (bq off : Nat) (v : Value) (bs bs' : List UInt8) (p : Option Addr) (c : Nat) (r : Option Nat) (m : List (List UInt8 × Nat)) (hoff : off ≤ bs'.length) (hbig : bs'.length ≤ 158329674399744 - 400) (hm : ∀ x ∈ m, x.2 < 65536) :
    Spec Tryd.prog 85 [.pointer (some ⟨bq, 0, none⟩), .slice p bs'.length c, .map r, .int .i64 off] [appB 5 v bs (.slice p bs'.length c) bs', .mp r (kvV m)]
      (fun w => Cells w bq 0 (soaCs l1 l2 x) ∧ bq ∉ fp [appB 5 v bs (.slice p bs'.length c) bs', .mp r (kvV m)] ∧ GE G w (fp [appB 5 v bs (.slice p bs'.length c) bs', .mp r (kvV m)]))
      (PackPost 5 v bs bs' r (soaP (bs'.length - off) r.isSome l1 l2 x m)) := by
  refine Spec.of Tryd.func85 rfl Tryd.ntmps85 rfl fun w0 hR => ?_
  obtain ⟨hcs, hbq, hge⟩ := hR
  have h1l := hn1.le
  have h2l := hn2.le
  have e1 := nameCs_len l1 (by omega)
  have e2 := nameCs_len l2 (by omega)
  have hcl : (soaCs l1 l2 x).length = 517 := by simp [soaCs, e1, e2]
  have hname1 : Cells w0 bq (0 + 0) (nameCs l1) := hcs.part (k := 0) (by rw [List.drop_zero, soaCs, List.append_assoc, List.take_left' rfl]) (by rw [hcl, e1]; exact Nat.le_of_ble_eq_true rfl)
  have hname2 : Cells w0 bq (0 + 256) (nameCs l2) := hcs.part (k := 256) (by rw [soaCs, List.append_assoc, List.drop_left' e1, List.take_left' rfl]) (by rw [hcl, e2]; exact Nat.le_of_ble_eq_true rfl)
  have hdr : ∀ k, (soaCs l1 l2 x).drop (512 + k) = [Value.int .u32 (x.n1 : Nat), .int .u32 (x.n2 : Nat), .int .u32 (x.n3 : Nat), .int .u32 (x.n4 : Nat), .int .u32 (x.n5 : Nat)].drop k := fun k => by
    rw [soaCs, ← List.drop_drop, List.drop_left' (by simp [e1, e2])]
  have hc0 : Cells w0 bq (0 + 512) [.int .u32 (x.n1 : Nat)] := hcs.part (k := 512) (by rw [hdr 0]; rfl) (by rw [hcl]; exact Nat.le_of_ble_eq_true rfl)
  have hc1 : Cells w0 bq (0 + 513) [.int .u32 (x.n2 : Nat)] := hcs.part (k := 513) (by rw [hdr 1]; rfl) (by rw [hcl]; exact Nat.le_of_ble_eq_true rfl)
  have hc2 : Cells w0 bq (0 + 514) [.int .u32 (x.n3 : Nat)] := hcs.part (k := 514) (by rw [hdr 2]; rfl) (by rw [hcl]; exact Nat.le_of_ble_eq_true rfl)
  have hc3 : Cells w0 bq (0 + 515) [.int .u32 (x.n4 : Nat)] := hcs.part (k := 515) (by rw [hdr 3]; rfl) (by rw [hcl]; exact Nat.le_of_ble_eq_true rfl)
  have hc4 : Cells w0 bq (0 + 516) [.int .u32 (x.n5 : Nat)] := hcs.part (k := 516) (by rw [hdr 4]; rfl) (by rw [hcl]; exact Nat.le_of_ble_eq_true rfl)
  cases hq1 : packN (bs'.length - off) r.isSome l1 m with
  | err m1 =>
    have hpk : soaP (bs'.length - off) r.isSome l1 l2 x m = .err m1 := by simp only [soaP, hq1]
    rw [hpk]
    refine CodeJ.seq ?_
    refine CodeJ.region ?_
    refine OpsJ.yld rfl rfl rfl (Yld.assign rfl rfl) ?_
    refine OpsJ.yld rfl rfl rfl (Yld.assign rfl rfl) ?_
    refine OpsJ.nil ?_
    refine ExJ.thenN ?_
    refine CodeJ.seq ?_
    refine CodeJ.region ?_
    refine OpsJ.yld rfl rfl rfl (Yld.move rfl rfl) ?_
    refine OpsJ.yld rfl rfl rfl (Yld.assign rfl rfl) ?_
    refine OpsJ.nil ?_
    refine ExJ.thenN ?_
    refine CodeJ.seq ?_
    refine CodeJ.region ?_
    refine OpsJ.yld rfl rfl rfl (Yld.move rfl rfl) ?_
    refine OpsJ.yld rfl rfl rfl (Yld.nilCheck rfl rfl) ?_
    refine OpsJ.yld rfl rfl rfl (Yld.fieldAddr fa_101_0 rfl rfl) ?_
    refine OpsJ.yld rfl rfl rfl (Yld.move rfl rfl) ?_
    refine OpsJ.yld rfl rfl rfl (Yld.move rfl rfl) ?_
    refine OpsJ.yld rfl rfl rfl (Yld.move rfl rfl) ?_
    refine OpsJ.op rfl ?_
    refine OpJ.call (namePack_spec G l1 hn1.pos hn1.le hn1.last bq (0 + 0) off v bs bs' p c r m hoff (by omega) hm) has_94 rfl rfl rfl rfl rfl [0, 1] [] (by decide) rfl rfl (fun w hI => ⟨hI.old hname1 hbq, hI.notin hcs.lt hbq (is := [0, 1]) rfl, hge.call hI (is := [0, 1]) rfl⟩) ?_
    rintro _ _ hpost
    rw [hq1] at hpost
    obtain ⟨un, tn, en, rfl, rfl⟩ := hpost
    refine OpsJ.yld rfl rfl rfl (Yld.move rfl rfl) ?_
    refine OpsJ.yld rfl rfl rfl (Yld.extract rfl rfl rfl) ?_
    refine OpsJ.yld rfl rfl rfl (Yld.extract rfl rfl rfl) ?_
    refine OpsJ.yld rfl rfl rfl (Yld.assign rfl rfl) ?_
    refine OpsJ.yld rfl rfl rfl (Yld.assign rfl rfl) ?_
    refine OpsJ.nil ?_
    refine ExJ.thenN ?_
    refine CodeJ.seq ?_
    refine CodeJ.seq ?_
    refine CodeJ.region ?_
    refine OpsJ.yld rfl rfl rfl (Yld.move rfl rfl) ?_
    refine OpsJ.yld rfl rfl rfl (Yld.ifaceNeNil rfl Tryd.underlying69 rfl rfl) ?_
    refine OpsJ.nil ?_
    refine ExJ.thenN ?_
    refine CodeJ.condT rfl ?_
    refine CodeJ.seq ?_
    refine CodeJ.region ?_
    refine OpsJ.yld rfl rfl rfl (Yld.move rfl rfl) ?_
    refine OpsJ.yld rfl rfl rfl (Yld.move rfl rfl) ?_
    refine OpsJ.yld rfl rfl rfl (Yld.build places_138 zero_138 rfl rfl rfl) ?_
    refine OpsJ.op rfl ?_
    refine OpJ.box rfl rfl rfl rfl fun ne hne => ?_
    refine OpsJ.yld rfl rfl rfl (Yld.makeInterface rfl Tryd.underlying136 rfl rfl) ?_
    refine OpsJ.yld rfl rfl rfl (Yld.assign rfl rfl) ?_
    refine OpsJ.yld rfl rfl rfl (Yld.assign rfl rfl) ?_
    refine OpsJ.nil ?_
    refine ExJ.thenN ?_
    refine CodeJ.ret ?_
    refine ExJ.thenR ?_
    exact ExJ.ret2 Tryd.results85 rfl rfl ⟨_, _, _, rfl, rfl⟩ fun w hI => hI.pick (is := [1, 2]) (by decide) rfl
  | ok ys m1 =>
    have hys := packN_len1 hq1
    have hm1 : ∀ x ∈ m1, x.2 < 65536 := by
      have := packN_small (bs'.length - off) r.isSome l1 m hm
      rw [hq1] at this
      exact this
    have hrel : (bs' ++ ys).length - off = bs'.length - off + ys.length := by rw [List.length_append]; omega
    cases hq2 : packN (bs'.length - off + ys.length) r.isSome l2 m1 with
    | err m2 =>
      have hpk : soaP (bs'.length - off) r.isSome l1 l2 x m = .err m2 := by simp only [soaP, hq1, hq2]
      rw [hpk]
      refine CodeJ.seq ?_
      refine CodeJ.region ?_
      refine OpsJ.yld rfl rfl rfl (Yld.assign rfl rfl) ?_
      refine OpsJ.yld rfl rfl rfl (Yld.assign rfl rfl) ?_
      refine OpsJ.nil ?_
      refine ExJ.thenN ?_
      refine CodeJ.seq ?_
      refine CodeJ.region ?_
      refine OpsJ.yld rfl rfl rfl (Yld.move rfl rfl) ?_
      refine OpsJ.yld rfl rfl rfl (Yld.assign rfl rfl) ?_
      refine OpsJ.nil ?_
      refine ExJ.thenN ?_
      refine CodeJ.seq ?_
      refine CodeJ.region ?_
      refine OpsJ.yld rfl rfl rfl (Yld.move rfl rfl) ?_
      refine OpsJ.yld rfl rfl rfl (Yld.nilCheck rfl rfl) ?_
      refine OpsJ.yld rfl rfl rfl (Yld.fieldAddr fa_101_0 rfl rfl) ?_
      refine OpsJ.yld rfl rfl rfl (Yld.move rfl rfl) ?_
      refine OpsJ.yld rfl rfl rfl (Yld.move rfl rfl) ?_
      refine OpsJ.yld rfl rfl rfl (Yld.move rfl rfl) ?_
      refine OpsJ.op rfl ?_
      refine OpJ.call (namePack_spec G l1 hn1.pos hn1.le hn1.last bq (0 + 0) off v bs bs' p c r m hoff (by omega) hm) has_94 rfl rfl rfl rfl rfl [0, 1] [] (by decide) rfl rfl (fun w hI => ⟨hI.old hname1 hbq, hI.notin hcs.lt hbq (is := [0, 1]) rfl, hge.call hI (is := [0, 1]) rfl⟩) ?_
      rintro _ _ hpost
      rw [hq1] at hpost
      obtain ⟨p20, c20, rfl, rfl⟩ := hpost
      refine OpsJ.yld rfl rfl rfl (Yld.move rfl rfl) ?_
      refine OpsJ.yld rfl rfl rfl (Yld.extract rfl rfl rfl) ?_
      refine OpsJ.yld rfl rfl rfl (Yld.extract rfl rfl rfl) ?_
      refine OpsJ.yld rfl rfl rfl (Yld.assign rfl rfl) ?_
      refine OpsJ.yld rfl rfl rfl (Yld.assign rfl rfl) ?_
      refine OpsJ.nil ?_
      refine ExJ.thenN ?_
      refine CodeJ.seq ?_
      refine CodeJ.seq ?_
      refine CodeJ.region ?_
      refine OpsJ.yld rfl rfl rfl (Yld.move rfl rfl) ?_
      refine OpsJ.yld rfl rfl rfl (Yld.ifaceNeNil rfl Tryd.underlying69 rfl rfl) ?_
      refine OpsJ.nil ?_
      refine ExJ.thenN ?_
      refine CodeJ.condF rfl ?_
      refine CodeJ.skip ?_
      refine ExJ.thenN ?_
      refine CodeJ.seq ?_
      refine CodeJ.region ?_
      refine OpsJ.yld rfl rfl rfl (Yld.move rfl rfl) ?_
      refine OpsJ.yld rfl rfl rfl (Yld.nilCheck rfl rfl) ?_
      refine OpsJ.yld rfl rfl rfl (Yld.fieldAddr fa_101_1 rfl rfl) ?_
      refine OpsJ.yld rfl rfl rfl (Yld.move rfl rfl) ?_
      refine OpsJ.yld rfl rfl rfl (Yld.move rfl rfl) ?_
      refine OpsJ.yld rfl rfl rfl (Yld.move rfl rfl) ?_
      refine OpsJ.op rfl ?_
      refine OpJ.call (namePack_spec G l2 hn2.pos hn2.le hn2.last bq (0 + 256) off v bs (bs' ++ ys) p20 c20 r m1 (by simp; omega) (by simp; omega) hm1) has_94 rfl rfl rfl rfl rfl [0, 1] [] (by decide) rfl rfl (fun w hI => ⟨hI.old hname2 hbq, hI.notin hcs.lt hbq (is := [0, 1]) rfl, hge.call hI (is := [0, 1]) rfl⟩) ?_
      rintro _ _ hpost
      rw [hrel, hq2] at hpost
      obtain ⟨un, tn, en, rfl, rfl⟩ := hpost
      refine OpsJ.yld rfl rfl rfl (Yld.move rfl rfl) ?_
      refine OpsJ.yld rfl rfl rfl (Yld.extract rfl rfl rfl) ?_
      refine OpsJ.yld rfl rfl rfl (Yld.extract rfl rfl rfl) ?_
      refine OpsJ.yld rfl rfl rfl (Yld.assign rfl rfl) ?_
      refine OpsJ.yld rfl rfl rfl (Yld.assign rfl rfl) ?_
      refine OpsJ.nil ?_
      refine ExJ.thenN ?_
      refine CodeJ.seq ?_
      refine CodeJ.seq ?_
      refine CodeJ.region ?_
      refine OpsJ.yld rfl rfl rfl (Yld.move rfl rfl) ?_
      refine OpsJ.yld rfl rfl rfl (Yld.ifaceNeNil rfl Tryd.underlying69 rfl rfl) ?_
      refine OpsJ.nil ?_
      refine ExJ.thenN ?_
      refine CodeJ.condT rfl ?_
      refine CodeJ.seq ?_
      refine CodeJ.region ?_
      refine OpsJ.yld rfl rfl rfl (Yld.move rfl rfl) ?_
      refine OpsJ.yld rfl rfl rfl (Yld.move rfl rfl) ?_
      refine OpsJ.yld rfl rfl rfl (Yld.build places_138 zero_138 rfl rfl rfl) ?_
      refine OpsJ.op rfl ?_
      refine OpJ.box rfl rfl rfl rfl fun ne hne => ?_
      refine OpsJ.yld rfl rfl rfl (Yld.makeInterface rfl Tryd.underlying136 rfl rfl) ?_
      refine OpsJ.yld rfl rfl rfl (Yld.assign rfl rfl) ?_
      refine OpsJ.yld rfl rfl rfl (Yld.assign rfl rfl) ?_
      refine OpsJ.nil ?_
      refine ExJ.thenN ?_
      refine CodeJ.ret ?_
      refine ExJ.thenR ?_
      exact ExJ.ret2 Tryd.results85 rfl rfl ⟨_, _, _, rfl, rfl⟩ fun w hI => hI.pick (is := [1, 2]) (by decide) rfl
    | ok zs m2 =>
      have hzs := packN_len1 hq2
      have hpk : soaP (bs'.length - off) r.isSome l1 l2 x m = .ok (ys ++ zs ++ nums20 x) m2 := by simp only [soaP, hq1, hq2]
      rw [hpk]
      refine CodeJ.seq ?_
      refine CodeJ.region ?_
      refine OpsJ.yld rfl rfl rfl (Yld.assign rfl rfl) ?_
      refine OpsJ.yld rfl rfl rfl (Yld.assign rfl rfl) ?_
      refine OpsJ.nil ?_
      refine ExJ.thenN ?_
      refine CodeJ.seq ?_
      refine CodeJ.region ?_
      refine OpsJ.yld rfl rfl rfl (Yld.move rfl rfl) ?_
      refine OpsJ.yld rfl rfl rfl (Yld.assign rfl rfl) ?_
      refine OpsJ.nil ?_
      refine ExJ.thenN ?_
      refine CodeJ.seq ?_
      refine CodeJ.region ?_
      refine OpsJ.yld rfl rfl rfl (Yld.move rfl rfl) ?_
      refine OpsJ.yld rfl rfl rfl (Yld.nilCheck rfl rfl) ?_
      refine OpsJ.yld rfl rfl rfl (Yld.fieldAddr fa_101_0 rfl rfl) ?_
      refine OpsJ.yld rfl rfl rfl (Yld.move rfl rfl) ?_
      refine OpsJ.yld rfl rfl rfl (Yld.move rfl rfl) ?_
      refine OpsJ.yld rfl rfl rfl (Yld.move rfl rfl) ?_
      refine OpsJ.op rfl ?_
      refine OpJ.call (namePack_spec G l1 hn1.pos hn1.le hn1.last bq (0 + 0) off v bs bs' p c r m hoff (by omega) hm) has_94 rfl rfl rfl rfl rfl [0, 1] [] (by decide) rfl rfl (fun w hI => ⟨hI.old hname1 hbq, hI.notin hcs.lt hbq (is := [0, 1]) rfl, hge.call hI (is := [0, 1]) rfl⟩) ?_
      rintro _ _ hpost
      rw [hq1] at hpost
      obtain ⟨p20, c20, rfl, rfl⟩ := hpost
      refine OpsJ.yld rfl rfl rfl (Yld.move rfl rfl) ?_
      refine OpsJ.yld rfl rfl rfl (Yld.extract rfl rfl rfl) ?_
      refine OpsJ.yld rfl rfl rfl (Yld.extract rfl rfl rfl) ?_
      refine OpsJ.yld rfl rfl rfl (Yld.assign rfl rfl) ?_
      refine OpsJ.yld rfl rfl rfl (Yld.assign rfl rfl) ?_
      refine OpsJ.nil ?_
      refine ExJ.thenN ?_
      refine CodeJ.seq ?_
      refine CodeJ.seq ?_
      refine CodeJ.region ?_
      refine OpsJ.yld rfl rfl rfl (Yld.move rfl rfl) ?_
      refine OpsJ.yld rfl rfl rfl (Yld.ifaceNeNil rfl Tryd.underlying69 rfl rfl) ?_
      refine OpsJ.nil ?_
      refine ExJ.thenN ?_
      refine CodeJ.condF rfl ?_
      refine CodeJ.skip ?_
      refine ExJ.thenN ?_
      refine CodeJ.seq ?_
      refine CodeJ.region ?_
      refine OpsJ.yld rfl rfl rfl (Yld.move rfl rfl) ?_
      refine OpsJ.yld rfl rfl rfl (Yld.nilCheck rfl rfl) ?_
      refine OpsJ.yld rfl rfl rfl (Yld.fieldAddr fa_101_1 rfl rfl) ?_
      refine OpsJ.yld rfl rfl rfl (Yld.move rfl rfl) ?_
      refine OpsJ.yld rfl rfl rfl (Yld.move rfl rfl) ?_
      refine OpsJ.yld rfl rfl rfl (Yld.move rfl rfl) ?_
      refine OpsJ.op rfl ?_
      refine OpJ.call (namePack_spec G l2 hn2.pos hn2.le hn2.last bq (0 + 256) off v bs (bs' ++ ys) p20 c20 r m1 (by simp; omega) (by simp; omega) hm1) has_94 rfl rfl rfl rfl rfl [0, 1] [] (by decide) rfl rfl (fun w hI => ⟨hI.old hname2 hbq, hI.notin hcs.lt hbq (is := [0, 1]) rfl, hge.call hI (is := [0, 1]) rfl⟩) ?_
      rintro _ _ hpost
      rw [hrel, hq2] at hpost
      obtain ⟨p37, c37, rfl, rfl⟩ := hpost
      refine OpsJ.yld rfl rfl rfl (Yld.move rfl rfl) ?_
      refine OpsJ.yld rfl rfl rfl (Yld.extract rfl rfl rfl) ?_
      refine OpsJ.yld rfl rfl rfl (Yld.extract rfl rfl rfl) ?_
      refine OpsJ.yld rfl rfl rfl (Yld.assign rfl rfl) ?_
      refine OpsJ.yld rfl rfl rfl (Yld.assign rfl rfl) ?_
      refine OpsJ.nil ?_
      refine ExJ.thenN ?_
      refine CodeJ.seq ?_
      refine CodeJ.seq ?_
      refine CodeJ.region ?_
      refine OpsJ.yld rfl rfl rfl (Yld.move rfl rfl) ?_
      refine OpsJ.yld rfl rfl rfl (Yld.ifaceNeNil rfl Tryd.underlying69 rfl rfl) ?_
      refine OpsJ.nil ?_
      refine ExJ.thenN ?_
      refine CodeJ.condF rfl ?_
      refine CodeJ.skip ?_
      refine ExJ.thenN ?_
      refine CodeJ.seq ?_
      refine CodeJ.region ?_
      refine OpsJ.yld rfl rfl rfl (Yld.move rfl rfl) ?_
      refine OpsJ.yld rfl rfl rfl (Yld.move rfl rfl) ?_
      refine OpsJ.yld rfl rfl rfl (Yld.nilCheck rfl rfl) ?_
      refine OpsJ.yld rfl rfl rfl (Yld.fieldAddr fa_101_2 rfl rfl) ?_
      refine OpsJ.yld rfl rfl rfl (Yld.load1 rfl Tryd.underlying25 rfl rfl (fun w hI => hI.old hc0 hbq)) ?_
      refine OpsJ.op rfl ?_
      refine OpJ.call (packUint32_spec x.n1 hx.n1 v _ bs (bs' ++ ys ++ zs) (by simp [b4_len]; omega)) has_97 rfl rfl rfl rfl rfl [0] [1] (by decide) rfl rfl (fun _ _ => trivial) ?_
      rintro _ _ ⟨p52, c52, rfl, rfl⟩
      refine OpsJ.yld rfl rfl rfl (Yld.assign rfl rfl) ?_
      refine OpsJ.nil ?_
      refine ExJ.thenN ?_
      refine CodeJ.seq ?_
      refine CodeJ.region ?_
      refine OpsJ.yld rfl rfl rfl (Yld.move rfl rfl) ?_
      refine OpsJ.yld rfl rfl rfl (Yld.move rfl rfl) ?_
      refine OpsJ.yld rfl rfl rfl (Yld.nilCheck rfl rfl) ?_
      refine OpsJ.yld rfl rfl rfl (Yld.fieldAddr fa_101_3 rfl rfl) ?_
      refine OpsJ.yld rfl rfl rfl (Yld.load1 rfl Tryd.underlying25 rfl rfl (fun w hI => hI.old hc1 hbq)) ?_
      refine OpsJ.op rfl ?_
      refine OpJ.call (packUint32_spec x.n2 hx.n2 v _ bs (bs' ++ ys ++ zs ++ b4 x.n1) (by simp [b4_len]; omega)) has_97 rfl rfl rfl rfl rfl [0] [1] (by decide) rfl rfl (fun _ _ => trivial) ?_
      rintro _ _ ⟨p58, c58, rfl, rfl⟩
      refine OpsJ.yld rfl rfl rfl (Yld.assign rfl rfl) ?_
      refine OpsJ.nil ?_
      refine ExJ.thenN ?_
      refine CodeJ.seq ?_
      refine CodeJ.region ?_
      refine OpsJ.yld rfl rfl rfl (Yld.move rfl rfl) ?_
      refine OpsJ.yld rfl rfl rfl (Yld.move rfl rfl) ?_
      refine OpsJ.yld rfl rfl rfl (Yld.nilCheck rfl rfl) ?_
      refine OpsJ.yld rfl rfl rfl (Yld.fieldAddr fa_101_4 rfl rfl) ?_
      refine OpsJ.yld rfl rfl rfl (Yld.load1 rfl Tryd.underlying25 rfl rfl (fun w hI => hI.old hc2 hbq)) ?_
      refine OpsJ.op rfl ?_
      refine OpJ.call (packUint32_spec x.n3 hx.n3 v _ bs (bs' ++ ys ++ zs ++ b4 x.n1 ++ b4 x.n2) (by simp [b4_len]; omega)) has_97 rfl rfl rfl rfl rfl [0] [1] (by decide) rfl rfl (fun _ _ => trivial) ?_
      rintro _ _ ⟨p64, c64, rfl, rfl⟩
      refine OpsJ.yld rfl rfl rfl (Yld.assign rfl rfl) ?_
      refine OpsJ.nil ?_
      refine ExJ.thenN ?_
      refine CodeJ.seq ?_
      refine CodeJ.region ?_
      refine OpsJ.yld rfl rfl rfl (Yld.move rfl rfl) ?_
      refine OpsJ.yld rfl rfl rfl (Yld.move rfl rfl) ?_
      refine OpsJ.yld rfl rfl rfl (Yld.nilCheck rfl rfl) ?_
      refine OpsJ.yld rfl rfl rfl (Yld.fieldAddr fa_101_5 rfl rfl) ?_
      refine OpsJ.yld rfl rfl rfl (Yld.load1 rfl Tryd.underlying25 rfl rfl (fun w hI => hI.old hc3 hbq)) ?_
      refine OpsJ.op rfl ?_
      refine OpJ.call (packUint32_spec x.n4 hx.n4 v _ bs (bs' ++ ys ++ zs ++ b4 x.n1 ++ b4 x.n2 ++ b4 x.n3) (by simp [b4_len]; omega)) has_97 rfl rfl rfl rfl rfl [0] [1] (by decide) rfl rfl (fun _ _ => trivial) ?_
      rintro _ _ ⟨p70, c70, rfl, rfl⟩
      refine OpsJ.yld rfl rfl rfl (Yld.assign rfl rfl) ?_
      refine OpsJ.nil ?_
      refine ExJ.thenN ?_
      refine CodeJ.seq ?_
      refine CodeJ.region ?_
      refine OpsJ.yld rfl rfl rfl (Yld.move rfl rfl) ?_
      refine OpsJ.yld rfl rfl rfl (Yld.move rfl rfl) ?_
      refine OpsJ.yld rfl rfl rfl (Yld.nilCheck rfl rfl) ?_
      refine OpsJ.yld rfl rfl rfl (Yld.fieldAddr fa_101_6 rfl rfl) ?_
      refine OpsJ.yld rfl rfl rfl (Yld.load1 rfl Tryd.underlying25 rfl rfl (fun w hI => hI.old hc4 hbq)) ?_
      refine OpsJ.op rfl ?_
      refine OpJ.call (packUint32_spec x.n5 hx.n5 v _ bs (bs' ++ ys ++ zs ++ b4 x.n1 ++ b4 x.n2 ++ b4 x.n3 ++ b4 x.n4) (by simp [b4_len]; omega)) has_97 rfl rfl rfl rfl rfl [0] [1] (by decide) rfl rfl (fun _ _ => trivial) ?_
      rintro _ _ ⟨p76, c76, rfl, rfl⟩
      refine OpsJ.yld rfl rfl rfl (Yld.assign rfl rfl) ?_
      refine OpsJ.yld rfl rfl rfl (Yld.assign rfl rfl) ?_
      refine OpsJ.nil ?_
      refine ExJ.thenN ?_
      refine CodeJ.ret ?_
      have e : bs' ++ ys ++ zs ++ b4 x.n1 ++ b4 x.n2 ++ b4 x.n3 ++ b4 x.n4 ++ b4 x.n5 = bs' ++ (ys ++ zs ++ nums20 x) := by simp [nums20, List.append_assoc]
      exact ExJ.ret2 Tryd.results85 rfl rfl ⟨p76, c76, by rw [← e], by rw [← e]⟩ fun w hI => hI.pick (is := [0, 1]) (by decide) rfl

theorem soaOf_spec (x : RecD) : Spec Tryd.prog 48 [.agg x.cells.toArray] [] (fun _ => True) (fun r H' => r = .agg (soaCs (cut255 x.host) (cut255 x.box) x).toArray ∧ H' = []) := by
  refine Spec.of Tryd.func48 rfl Tryd.ntmps48 rfl fun w0 _ => ?_
  have e1 := nameCs_len (cut255 x.host) (cut255_len x.host)
  have e2 := nameCs_len (cut255 x.box) (cut255_len x.box)
  have hfl : flat [Value.agg (nameCs (cut255 x.host)).toArray, Value.agg (nameCs (cut255 x.box)).toArray, .int .u32 (x.n1 : Nat), .int .u32 (x.n2 : Nat), .int .u32 (x.n3 : Nat), .int .u32 (x.n4 : Nat), .int .u32 (x.n5 : Nat)] = soaCs (cut255 x.host) (cut255 x.box) x := by simp [flat, Value.cells, soaCs]
  have hq : (soaCs (cut255 x.host) (cut255 x.box) x).length = 517 := by simp [soaCs, e1, e2]
  have hone : oneCells (soaCs (cut255 x.host) (cut255 x.box) x) = true := by
    have h1 := nameCs_one (cut255 x.host)
    have h2 := nameCs_one (cut255 x.box)
    simp only [oneCells, soaCs, List.all_append] at h1 h2 ⊢
    rw [h1, h2]
    rfl
  refine CodeJ.seq ?_
  refine CodeJ.region ?_
  refine OpsJ.op rfl ?_
  refine OpJ.box rfl rfl rfl rfl fun rb hrb => ?_
  refine OpsJ.op rfl ?_
  refine OpJ.alloc rfl rfl rfl zero_101 fun res hres => ?_
  refine OpsJ.nil ?_
  refine ExJ.thenN ?_
  refine CodeJ.seq ?_
  refine CodeJ.any (fuel := 18) (listed := #[false, false, false, false, false, false, false, false, false, false, false, false, false, false, false, false, false, false]) [1] rfl follows_mixed rfl rfl ?_
  refine AnyJ.take (fuel := 17) (listed' := #[true, false, false, false, false, false, false, false, false, false, false, false, false, false, false, false, false, false]) 0 rfl (by kernel_rfl) (by kernel_rfl) (by kernel_rfl) rfl rfl rfl rfl (Yld.fieldAddr fa_30_7 rfl rfl) (fun w hI => hI.pick (is := [1]) (by decide) rfl) ?_
  refine AnyJ.take (fuel := 16) (listed' := #[true, true, false, false, false, false, false, false, false, false, false, false, false, false, false, false, false, false]) 1 rfl (by kernel_rfl) (by kernel_rfl) (by kernel_rfl) rfl rfl rfl rfl (Yld.load1 rfl Tryd.underlying9 rfl rfl (fun w hI => Inv.cell1 hI (i := 0) rfl rfl)) (fun w hI => hI.pick (is := [1]) (by decide) rfl) ?_
  refine AnyJ.take (fuel := 15) (listed' := #[true, true, false, true, false, false, false, false, false, false, false, false, false, false, false, false, false, false]) 3 rfl (by kernel_rfl) (by kernel_rfl) (by kernel_rfl) rfl rfl rfl rfl (Yld.fieldAddr fa_30_8 rfl rfl) (fun w hI => hI.pick (is := [1]) (by decide) rfl) ?_
  refine AnyJ.take (fuel := 14) (listed' := #[true, true, false, true, true, false, false, false, false, false, false, false, false, false, false, false, false, false]) 4 rfl (by kernel_rfl) (by kernel_rfl) (by kernel_rfl) rfl rfl rfl rfl (Yld.load1 rfl Tryd.underlying9 rfl rfl (fun w hI => Inv.cell1 hI (i := 0) rfl rfl)) (fun w hI => hI.pick (is := [1]) (by decide) rfl) ?_
  refine AnyJ.take (fuel := 13) (listed' := #[true, true, false, true, true, false, true, false, false, false, false, false, false, false, false, false, false, false]) 6 rfl (by kernel_rfl) (by kernel_rfl) (by kernel_rfl) rfl rfl rfl rfl (Yld.fieldAddr fa_30_9 rfl rfl) (fun w hI => hI.pick (is := [1]) (by decide) rfl) ?_
  refine AnyJ.take (fuel := 12) (listed' := #[true, true, false, true, true, false, true, true, false, false, false, false, false, false, false, false, false, false]) 7 rfl (by kernel_rfl) (by kernel_rfl) (by kernel_rfl) rfl rfl rfl rfl (Yld.load1 rfl Tryd.underlying25 rfl rfl (fun w hI => Inv.cell1 hI (i := 0) rfl rfl)) (fun w hI => hI.pick (is := [1]) (by decide) rfl) ?_
  refine AnyJ.take (fuel := 11) (listed' := #[true, true, false, true, true, false, true, true, true, false, false, false, false, false, false, false, false, false]) 8 rfl (by kernel_rfl) (by kernel_rfl) (by kernel_rfl) rfl rfl rfl rfl (Yld.fieldAddr fa_30_10 rfl rfl) (fun w hI => hI.pick (is := [1]) (by decide) rfl) ?_
  refine AnyJ.take (fuel := 10) (listed' := #[true, true, false, true, true, false, true, true, true, true, false, false, false, false, false, false, false, false]) 9 rfl (by kernel_rfl) (by kernel_rfl) (by kernel_rfl) rfl rfl rfl rfl (Yld.load1 rfl Tryd.underlying25 rfl rfl (fun w hI => Inv.cell1 hI (i := 0) rfl rfl)) (fun w hI => hI.pick (is := [1]) (by decide) rfl) ?_
  refine AnyJ.take (fuel := 9) (listed' := #[true, true, false, true, true, false, true, true, true, true, true, false, false, false, false, false, false, false]) 10 rfl (by kernel_rfl) (by kernel_rfl) (by kernel_rfl) rfl rfl rfl rfl (Yld.fieldAddr fa_30_11 rfl rfl) (fun w hI => hI.pick (is := [1]) (by decide) rfl) ?_
  refine AnyJ.take (fuel := 8) (listed' := #[true, true, false, true, true, false, true, true, true, true, true, true, false, false, false, false, false, false]) 11 rfl (by kernel_rfl) (by kernel_rfl) (by kernel_rfl) rfl rfl rfl rfl (Yld.load1 rfl Tryd.underlying25 rfl rfl (fun w hI => Inv.cell1 hI (i := 0) rfl rfl)) (fun w hI => hI.pick (is := [1]) (by decide) rfl) ?_
  refine AnyJ.take (fuel := 7) (listed' := #[true, true, false, true, true, false, true, true, true, true, true, true, true, false, false, false, false, false]) 12 rfl (by kernel_rfl) (by kernel_rfl) (by kernel_rfl) rfl rfl rfl rfl (Yld.fieldAddr fa_30_12 rfl rfl) (fun w hI => hI.pick (is := [1]) (by decide) rfl) ?_
  refine AnyJ.take (fuel := 6) (listed' := #[true, true, false, true, true, false, true, true, true, true, true, true, true, true, false, false, false, false]) 13 rfl (by kernel_rfl) (by kernel_rfl) (by kernel_rfl) rfl rfl rfl rfl (Yld.load1 rfl Tryd.underlying25 rfl rfl (fun w hI => Inv.cell1 hI (i := 0) rfl rfl)) (fun w hI => hI.pick (is := [1]) (by decide) rfl) ?_
  refine AnyJ.take (fuel := 5) (listed' := #[true, true, false, true, true, false, true, true, true, true, true, true, true, true, true, false, false, false]) 14 rfl (by kernel_rfl) (by kernel_rfl) (by kernel_rfl) rfl rfl rfl rfl (Yld.fieldAddr fa_30_13 rfl rfl) (fun w hI => hI.pick (is := [1]) (by decide) rfl) ?_
  refine AnyJ.take (fuel := 4) (listed' := #[true, true, false, true, true, false, true, true, true, true, true, true, true, true, true, true, false, false]) 15 rfl (by kernel_rfl) (by kernel_rfl) (by kernel_rfl) rfl rfl rfl rfl (Yld.load1 rfl Tryd.underlying25 rfl rfl (fun w hI => Inv.cell1 hI (i := 0) rfl rfl)) (fun w hI => hI.pick (is := [1]) (by decide) rfl) ?_
  refine AnyJ.one (fuel := 3) 2 (by kernel_rfl) ?_
  refine StepJ.op (listed' := #[true, true, true, true, true, false, true, true, true, true, true, true, true, true, true, true, false, false]) rfl rfl rfl ?_
  refine OpJ.call (nameOf_spec x.host) has_86 rfl rfl rfl rfl rfl [] [0, 1] (by decide) rfl rfl (fun _ _ => trivial) ?_
  rintro _ _ ⟨rfl, rfl⟩
  refine ⟨fun w hI => hI.pick (is := [1]) (by decide) rfl, ?_⟩
  refine AnyJ.one (fuel := 2) 5 (by kernel_rfl) ?_
  refine StepJ.op (listed' := #[true, true, true, true, true, true, true, true, true, true, true, true, true, true, true, true, false, false]) rfl rfl rfl ?_
  refine OpJ.call (nameOf_spec x.box) has_86 rfl rfl rfl rfl rfl [] [0, 1] (by decide) rfl rfl (fun _ _ => trivial) ?_
  rintro _ _ ⟨rfl, rfl⟩
  refine ⟨fun w hI => hI.pick (is := [1]) (by decide) rfl, ?_⟩
  refine AnyJ.take (fuel := 1) (listed' := #[true, true, true, true, true, true, true, true, true, true, true, true, true, true, true, true, true, false]) 16 rfl (by kernel_rfl) (by kernel_rfl) (by kernel_rfl) rfl rfl rfl rfl (Yld.buildAll places_101 zero_101 rfl rfl ⟨by show _ = some (0, (nameCs (cut255 x.host)).toArray.size); rw [List.size_toArray, e1]; rfl, by show _ = some (0 + (nameCs (cut255 x.host)).toArray.size, (nameCs (cut255 x.box)).toArray.size); rw [List.size_toArray, List.size_toArray, e1, e2]; rfl, by show _ = some (0 + (nameCs (cut255 x.host)).toArray.size + (nameCs (cut255 x.box)).toArray.size, 1); rw [List.size_toArray, List.size_toArray, e1, e2]; rfl, by show _ = some (0 + (nameCs (cut255 x.host)).toArray.size + (nameCs (cut255 x.box)).toArray.size + 1, 1); rw [List.size_toArray, List.size_toArray, e1, e2]; rfl, by show _ = some (0 + (nameCs (cut255 x.host)).toArray.size + (nameCs (cut255 x.box)).toArray.size + 1 + 1, 1); rw [List.size_toArray, List.size_toArray, e1, e2]; rfl, by show _ = some (0 + (nameCs (cut255 x.host)).toArray.size + (nameCs (cut255 x.box)).toArray.size + 1 + 1 + 1, 1); rw [List.size_toArray, List.size_toArray, e1, e2]; rfl, by show _ = some (0 + (nameCs (cut255 x.host)).toArray.size + (nameCs (cut255 x.box)).toArray.size + 1 + 1 + 1 + 1, 1); rw [List.size_toArray, List.size_toArray, e1, e2]; rfl, trivial⟩ (by show (flat [Value.agg (nameCs (cut255 x.host)).toArray, Value.agg (nameCs (cut255 x.box)).toArray, .int .u32 (x.n1 : Nat), .int .u32 (x.n2 : Nat), .int .u32 (x.n3 : Nat), .int .u32 (x.n4 : Nat), .int .u32 (x.n5 : Nat)]).length = _; rw [hfl, hq]; rfl)) (fun w hI => hI.pick (is := [1]) (by decide) rfl) ?_
  refine AnyJ.one (fuel := 0) 17 (by kernel_rfl) ?_
  refine StepJ.op (listed' := #[true, true, true, true, true, true, true, true, true, true, true, true, true, true, true, true, true, true]) rfl rfl rfl ?_
  refine OpJ.storeW (i := 0) rfl rfl rfl rfl (by show _ = some (flat [Value.agg (nameCs (cut255 x.host)).toArray, Value.agg (nameCs (cut255 x.box)).toArray, .int .u32 (x.n1 : Nat), .int .u32 (x.n2 : Nat), .int .u32 (x.n3 : Nat), .int .u32 (x.n4 : Nat), .int .u32 (x.n5 : Nat)]).toArray.size; rw [hfl, List.size_toArray, hq]; exact sz_101) rfl (by show oneCells (flat [Value.agg (nameCs (cut255 x.host)).toArray, Value.agg (nameCs (cut255 x.box)).toArray, .int .u32 (x.n1 : Nat), .int .u32 (x.n2 : Nat), .int .u32 (x.n3 : Nat), .int .u32 (x.n4 : Nat), .int .u32 (x.n5 : Nat)]) = true; rw [hfl]; exact hone) (by show (flat [Value.agg (nameCs (cut255 x.host)).toArray, Value.agg (nameCs (cut255 x.box)).toArray, .int .u32 (x.n1 : Nat), .int .u32 (x.n2 : Nat), .int .u32 (x.n3 : Nat), .int .u32 (x.n4 : Nat), .int .u32 (x.n5 : Nat)]).toArray.size = _; rw [hfl, List.size_toArray, hq]; rfl) ?_
  refine ⟨fun w hI => hI.pick (is := [1]) (by decide) rfl, ?_⟩
  refine AnyJ.done (by kernel_rfl) ?_
  refine ExJ.thenN ?_
  refine CodeJ.ret ?_
  refine ExJ.retC (vs := flat [Value.agg (nameCs (cut255 x.host)).toArray, Value.agg (nameCs (cut255 x.box)).toArray, .int .u32 (x.n1 : Nat), .int .u32 (x.n2 : Nat), .int .u32 (x.n3 : Nat), .int .u32 (x.n4 : Nat), .int .u32 (x.n5 : Nat)]) Tryd.results48 rfl Tryd.underlying101 rfl (by rw [hfl, hq]; exact sz_101) (fun w hI => Inv.whole hI (i := 0) rfl) ⟨by rw [hfl], rfl⟩ fun w hI => hI.pick (is := []) (by decide) rfl

/-- how SOA records are added -/
def soaPk : BodyPk := fun base on x m => soaP base on (cut255 x.host) (cut255 x.box) x m
def soaAdder : Adder := recAdder (fun _ => 6) soaPk (fun x => PName (cut255 x.host) ∧ PName (cut255 x.box))

theorem soaResource_spec (G : GEnv) (x : RecD) (on : Bool) (b : Bd) (bb : Nat) (p : Option Addr) (c : Nat) (r : Option Nat) (hok : soaAdder.ok x on b) (hb : BdOk b) (hr : r.isSome = on) :
    Spec Tryd.prog 47 [.pointer (some ⟨bb, 0, none⟩), .agg (rhCs (cut255 x.name) x.typ x.cls x.ttl x.len).toArray, .agg (soaCs (cut255 x.host) (cut255 x.box) x).toArray] (bdR b bb p c r) (fun w => GE G w (fp (bdR b bb p c r)))
      (fun y H' => ErrIs G y (soaAdder.eff x on b).2 ∧ ∃ p' c', H' = bdR (soaAdder.eff x on b).1 bb p' c' r) := by
  obtain ⟨h3, h5, hcnt, hpn, hwf, hbody⟩ := hok
  have httl := hwf.ttl
  refine Spec.of Tryd.func47 rfl Tryd.ntmps47 rfl fun w0 hge => ?_
  have hst := hb.start
  have hbig := hb.big
  subst hr
  have hnl := hpn.le
  have hrl : (rhCs (cut255 x.name) x.typ x.cls x.ttl x.len).length = 260 := rhCs_len _ (by omega) _ _ _ _
  cases hp : packN (b.buf.length - b.start) r.isSome (cut255 x.name) b.m with
  | err m1 =>
    have heff : soaAdder.eff x r.isSome b = ({ b with m := m1 }, 3) := by simp only [soaAdder, recAdder, recF, hp]
    rw [heff]
    refine CodeJ.seq ?_
    refine CodeJ.region ?_
    refine OpsJ.op rfl ?_
    refine OpJ.box rfl rfl rfl rfl fun hd hhd => ?_
    refine OpsJ.op rfl ?_
    refine OpJ.box rfl rfl rfl rfl fun rb hrb => ?_
    refine OpsJ.yld rfl rfl rfl (Yld.assign rfl rfl) ?_
    refine OpsJ.nil ?_
    refine ExJ.thenN ?_
    refine CodeJ.seq ?_
    refine CodeJ.seq ?_
    refine CodeJ.region ?_
    refine OpsJ.yld rfl rfl rfl (Yld.move rfl rfl) ?_
    refine OpsJ.op rfl ?_
    refine OpJ.call (checkRes_ok b bb p c r h3 h5) has_64 rfl rfl rfl rfl rfl [2, 3, 4] [0, 1] (by decide) rfl rfl (fun _ _ => trivial) ?_
    rintro _ _ ⟨rfl, rfl⟩
    refine OpsJ.yld rfl rfl rfl (Yld.assign rfl rfl) ?_
    refine OpsJ.nil ?_
    refine ExJ.thenN ?_
    refine CodeJ.seq ?_
    refine CodeJ.region ?_
    refine OpsJ.yld rfl rfl rfl (Yld.move rfl rfl) ?_
    refine OpsJ.yld rfl rfl rfl (Yld.ifaceNeNil rfl Tryd.underlying69 rfl rfl) ?_
    refine OpsJ.nil ?_
    refine ExJ.thenN ?_
    refine CodeJ.condF rfl ?_
    refine CodeJ.skip ?_
    refine ExJ.thenN ?_
    refine CodeJ.seq ?_
    refine CodeJ.region ?_
    refine OpsJ.op rfl ?_
    refine OpJ.call (soaType_spec _) has_84 rfl rfl rfl rfl rfl [] [0, 1, 2, 3, 4] (by decide) rfl rfl (fun _ _ => trivial) ?_
    rintro _ _ ⟨rfl, rfl⟩
    refine OpsJ.yld rfl rfl rfl (Yld.fieldAddr fa_67_1 rfl rfl) ?_
    refine OpsJ.op rfl ?_
    refine OpJ.store1 (i := 4) rfl rfl rfl rfl rfl sz_64 rfl (by show (0 + 256 + 1).ble (rhCs (cut255 x.name) x.typ x.cls x.ttl x.len).toArray.size = true; rw [List.size_toArray, hrl]; rfl) ?_
    refine OpsJ.congrH (congrArg (fun z => List.set _ 4 (Res.blk hd z _)) (rh_setT (cut255 x.name) (by omega) x.typ x.cls x.ttl x.len (6))) ?_
    refine OpsJ.nil ?_
    refine ExJ.thenN ?_
    refine CodeJ.seq ?_
    refine CodeJ.any (fuel := 20) (listed := #[false, false, false, false, false, false, false, false, false, false, false, false, false, false, false, false, false, false, false, false]) [0, 3, 4] rfl follows_mixed rfl rfl ?_
    refine AnyJ.take (fuel := 19) (listed' := #[true, false, false, false, false, false, false, false, false, false, false, false, false, false, false, false, false, false, false, false]) 0 rfl (by kernel_rfl) (by kernel_rfl) (by kernel_rfl) rfl rfl rfl rfl (Yld.move rfl rfl) (fun w hI => hI.pick (is := [0, 3, 4]) (by decide) rfl) ?_
    refine AnyJ.take (fuel := 18) (listed' := #[true, true, false, false, false, false, false, false, false, false, false, false, false, false, false, false, false, false, false, false]) 1 rfl (by kernel_rfl) (by kernel_rfl) (by kernel_rfl) rfl rfl rfl rfl (Yld.nilCheck rfl rfl) (fun w hI => hI.pick (is := [0, 3, 4]) (by decide) rfl) ?_
    refine AnyJ.take (fuel := 17) (listed' := #[true, true, true, false, false, false, false, false, false, false, false, false, false, false, false, false, false, false, false, false]) 2 rfl (by kernel_rfl) (by kernel_rfl) (by kernel_rfl) rfl rfl rfl rfl (Yld.fieldAddr fa_117_0 rfl rfl) (fun w hI => hI.pick (is := [0, 3, 4]) (by decide) rfl) ?_
    refine AnyJ.take (fuel := 16) (listed' := #[true, true, true, true, false, false, false, false, false, false, false, false, false, false, false, false, false, false, false, false]) 3 rfl (by kernel_rfl) (by kernel_rfl) (by kernel_rfl) rfl rfl rfl rfl (Yld.load1 rfl Tryd.underlying26 rfl rfl (fun w hI => Inv.cell1 hI (i := 0) rfl rfl)) (fun w hI => hI.pick (is := [0, 3, 4]) (by decide) rfl) ?_
    refine AnyJ.take (fuel := 15) (listed' := #[true, true, true, true, true, false, false, false, false, false, false, false, false, false, false, false, false, false, false, false]) 4 rfl (by kernel_rfl) (by kernel_rfl) (by kernel_rfl) rfl rfl rfl rfl (Yld.move rfl rfl) (fun w hI => hI.pick (is := [0, 3, 4]) (by decide) rfl) ?_
    refine AnyJ.take (fuel := 14) (listed' := #[true, true, true, true, true, true, false, false, false, false, false, false, false, false, false, false, false, false, false, false]) 5 rfl (by kernel_rfl) (by kernel_rfl) (by kernel_rfl) rfl rfl rfl rfl (Yld.nilCheck rfl rfl) (fun w hI => hI.pick (is := [0, 3, 4]) (by decide) rfl) ?_
    refine AnyJ.take (fuel := 13) (listed' := #[true, true, true, true, true, true, true, false, false, false, false, false, false, false, false, false, false, false, false, false]) 6 rfl (by kernel_rfl) (by kernel_rfl) (by kernel_rfl) rfl rfl rfl rfl (Yld.fieldAddr fa_117_4 rfl rfl) (fun w hI => hI.pick (is := [0, 3, 4]) (by decide) rfl) ?_
    refine AnyJ.take (fuel := 12) (listed' := #[true, true, true, true, true, true, true, true, false, false, false, false, false, false, false, false, false, false, false, false]) 7 rfl (by kernel_rfl) (by kernel_rfl) (by kernel_rfl) rfl rfl rfl rfl (Yld.load1 rfl Tryd.underlying115 rfl rfl (fun w hI => Inv.cell1 hI (i := 0) rfl rfl)) (fun w hI => hI.pick (is := [0, 3, 4]) (by decide) rfl) ?_
    refine AnyJ.take (fuel := 11) (listed' := #[true, true, true, true, true, true, true, true, true, false, false, false, false, false, false, false, false, false, false, false]) 8 rfl (by kernel_rfl) (by kernel_rfl) (by kernel_rfl) rfl rfl rfl rfl (Yld.move rfl rfl) (fun w hI => hI.pick (is := [0, 3, 4]) (by decide) rfl) ?_
    refine AnyJ.take (fuel := 10) (listed' := #[true, true, true, true, true, true, true, true, true, true, false, false, false, false, false, false, false, false, false, false]) 9 rfl (by kernel_rfl) (by kernel_rfl) (by kernel_rfl) rfl rfl rfl rfl (Yld.nilCheck rfl rfl) (fun w hI => hI.pick (is := [0, 3, 4]) (by decide) rfl) ?_
    refine AnyJ.take (fuel := 9) (listed' := #[true, true, true, true, true, true, true, true, true, true, true, false, false, false, false, false, false, false, false, false]) 10 rfl (by kernel_rfl) (by kernel_rfl) (by kernel_rfl) rfl rfl rfl rfl (Yld.fieldAddr fa_117_3 rfl rfl) (fun w hI => hI.pick (is := [0, 3, 4]) (by decide) rfl) ?_
    refine AnyJ.take (fuel := 8) (listed' := #[true, true, true, true, true, true, true, true, true, true, true, true, false, false, false, false, false, false, false, false]) 11 rfl (by kernel_rfl) (by kernel_rfl) (by kernel_rfl) rfl rfl rfl rfl (Yld.load1 rfl Tryd.underlying3 rfl rfl (fun w hI => Inv.cell1 hI (i := 0) rfl rfl)) (fun w hI => hI.pick (is := [0, 3, 4]) (by decide) rfl) ?_
    refine AnyJ.one (fuel := 7) 12 (by kernel_rfl) ?_
    refine StepJ.op (listed' := #[true, true, true, true, true, true, true, true, true, true, true, true, true, false, false, false, false, false, false, false]) rfl rfl rfl ?_
    refine OpJ.call (rhPack_spec G (cut255 x.name) hpn (6) x.cls x.ttl x.len httl hd b.start (.slice p b.buf.length c) b.buf b.buf p c r b.m (by omega) hbig hb.small) has_66 rfl rfl rfl rfl rfl [1, 2] [0, 3, 4] (by decide) rfl rfl (fun w hI => ⟨Inv.whole hI (i := 4) rfl, hI.apart (i := 4) rfl (is := [1, 2]) (by decide) rfl hd (by simp [Res.ats]), hge.call hI (is := [1, 2]) rfl⟩) ?_
    rintro _ _ hpost
    rw [hp] at hpost
    obtain ⟨u1, u2, a34, rfl, rfl⟩ := hpost
    refine ⟨fun w hI => hI.pick (is := [2, 3, 4]) (by decide) rfl, ?_⟩
    refine AnyJ.take (fuel := 6) (listed' := #[true, true, true, true, true, true, true, true, true, true, true, true, true, true, false, false, false, false, false, false]) 13 rfl (by kernel_rfl) (by kernel_rfl) (by kernel_rfl) rfl rfl rfl rfl (Yld.move rfl rfl) (fun w hI => hI.pick (is := [2, 3, 4]) (by decide) rfl) ?_
    refine AnyJ.take (fuel := 5) (listed' := #[true, true, true, true, true, true, true, true, true, true, true, true, true, true, true, false, false, false, false, false]) 14 rfl (by kernel_rfl) (by kernel_rfl) (by kernel_rfl) rfl rfl rfl rfl (Yld.extract rfl rfl rfl) (fun w hI => hI.pick (is := [2, 3, 4]) (by decide) rfl) ?_
    refine AnyJ.take (fuel := 4) (listed' := #[true, true, true, true, true, true, true, true, true, true, true, true, true, true, true, true, false, false, false, false]) 15 rfl (by kernel_rfl) (by kernel_rfl) (by kernel_rfl) rfl rfl rfl rfl (Yld.extract rfl rfl rfl) (fun w hI => hI.pick (is := [2, 3, 4]) (by decide) rfl) ?_
    refine AnyJ.take (fuel := 3) (listed' := #[true, true, true, true, true, true, true, true, true, true, true, true, true, true, true, true, true, false, false, false]) 16 rfl (by kernel_rfl) (by kernel_rfl) (by kernel_rfl) rfl rfl rfl rfl (Yld.extract rfl rfl rfl) (fun w hI => hI.pick (is := [2, 3, 4]) (by decide) rfl) ?_
    refine AnyJ.take (fuel := 2) (listed' := #[true, true, true, true, true, true, true, true, true, true, true, true, true, true, true, true, true, true, false, false]) 17 rfl (by kernel_rfl) (by kernel_rfl) (by kernel_rfl) rfl rfl rfl rfl (Yld.assign rfl rfl) (fun w hI => hI.pick (is := [2, 3, 4]) (by decide) rfl) ?_
    refine AnyJ.take (fuel := 1) (listed' := #[true, true, true, true, true, true, true, true, true, true, true, true, true, true, true, true, true, true, true, false]) 18 rfl (by kernel_rfl) (by kernel_rfl) (by kernel_rfl) rfl rfl rfl rfl (Yld.assign rfl rfl) (fun w hI => hI.pick (is := [2, 3, 4]) (by decide) rfl) ?_
    refine AnyJ.take (fuel := 0) (listed' := #[true, true, true, true, true, true, true, true, true, true, true, true, true, true, true, true, true, true, true, true]) 19 rfl (by kernel_rfl) (by kernel_rfl) (by kernel_rfl) rfl rfl rfl rfl (Yld.assign rfl rfl) (fun w hI => hI.pick (is := [2, 3, 4]) (by decide) rfl) ?_
    refine AnyJ.done (by kernel_rfl) ?_
    refine ExJ.thenN ?_
    refine CodeJ.seq ?_
    refine CodeJ.seq ?_
    refine CodeJ.region ?_
    refine OpsJ.yld rfl rfl rfl (Yld.move rfl rfl) ?_
    refine OpsJ.yld rfl rfl rfl (Yld.ifaceNeNil rfl Tryd.underlying69 rfl rfl) ?_
    refine OpsJ.nil ?_
    refine ExJ.thenN ?_
    refine CodeJ.condT rfl ?_
    refine CodeJ.seq ?_
    refine CodeJ.region ?_
    refine OpsJ.yld rfl rfl rfl (Yld.move rfl rfl) ?_
    refine OpsJ.yld rfl rfl rfl (Yld.build places_138 zero_138 rfl rfl rfl) ?_
    refine OpsJ.op rfl ?_
    refine OpJ.box rfl rfl rfl rfl fun ne hne => ?_
    refine OpsJ.yld rfl rfl rfl (Yld.makeInterface rfl Tryd.underlying136 rfl rfl) ?_
    refine OpsJ.yld rfl rfl rfl (Yld.assign rfl rfl) ?_
    refine OpsJ.nil ?_
    refine ExJ.thenN ?_
    refine CodeJ.ret ?_
    refine ExJ.thenR ?_
    exact ExJ.ret1 Tryd.results47 rfl ⟨.inr (.inr ⟨rfl, _, rfl⟩), p, c, rfl⟩ fun w hI => hI.pick (is := [3, 1, 2]) (by decide) rfl
  | ok ys m1 =>
    obtain ⟨hpok, hblen⟩ := hbody ⟨ys, m1, hp⟩
    have hys := packN_len hp
    have hm1 : ∀ x ∈ m1, x.2 < 65536 := by
      have := packN_small (b.buf.length - b.start) r.isSome (cut255 x.name) b.m hb.small
      rw [hp] at this
      exact this
    have hrel : (b.buf ++ ys ++ rh10 (6) x.cls x.ttl x.len).length - b.start = b.rel + ys.length + 10 := by
      simp only [List.length_append, rh10_len, Bd.rel]
      omega
    cases hq : soaPk (b.rel + ys.length + 10) r.isSome x m1 with
    | err m2 =>
      have heff : soaAdder.eff x r.isSome b = ({ b with m := m2 }, 3) := by simp only [soaAdder, recAdder, recF, hp, hq]
      simp only [soaPk] at hq
      rw [heff]
      refine CodeJ.seq ?_
      refine CodeJ.region ?_
      refine OpsJ.op rfl ?_
      refine OpJ.box rfl rfl rfl rfl fun hd hhd => ?_
      refine OpsJ.op rfl ?_
      refine OpJ.box rfl rfl rfl rfl fun rb hrb => ?_
      refine OpsJ.yld rfl rfl rfl (Yld.assign rfl rfl) ?_
      refine OpsJ.nil ?_
      refine ExJ.thenN ?_
      refine CodeJ.seq ?_
      refine CodeJ.seq ?_
      refine CodeJ.region ?_
      refine OpsJ.yld rfl rfl rfl (Yld.move rfl rfl) ?_
      refine OpsJ.op rfl ?_
      refine OpJ.call (checkRes_ok b bb p c r h3 h5) has_64 rfl rfl rfl rfl rfl [2, 3, 4] [0, 1] (by decide) rfl rfl (fun _ _ => trivial) ?_
      rintro _ _ ⟨rfl, rfl⟩
      refine OpsJ.yld rfl rfl rfl (Yld.assign rfl rfl) ?_
      refine OpsJ.nil ?_
      refine ExJ.thenN ?_
      refine CodeJ.seq ?_
      refine CodeJ.region ?_
      refine OpsJ.yld rfl rfl rfl (Yld.move rfl rfl) ?_
      refine OpsJ.yld rfl rfl rfl (Yld.ifaceNeNil rfl Tryd.underlying69 rfl rfl) ?_
      refine OpsJ.nil ?_
      refine ExJ.thenN ?_
      refine CodeJ.condF rfl ?_
      refine CodeJ.skip ?_
      refine ExJ.thenN ?_
      refine CodeJ.seq ?_
      refine CodeJ.region ?_
      refine OpsJ.op rfl ?_
      refine OpJ.call (soaType_spec _) has_84 rfl rfl rfl rfl rfl [] [0, 1, 2, 3, 4] (by decide) rfl rfl (fun _ _ => trivial) ?_
      rintro _ _ ⟨rfl, rfl⟩
      refine OpsJ.yld rfl rfl rfl (Yld.fieldAddr fa_67_1 rfl rfl) ?_
      refine OpsJ.op rfl ?_
      refine OpJ.store1 (i := 4) rfl rfl rfl rfl rfl sz_64 rfl (by show (0 + 256 + 1).ble (rhCs (cut255 x.name) x.typ x.cls x.ttl x.len).toArray.size = true; rw [List.size_toArray, hrl]; rfl) ?_
      refine OpsJ.congrH (congrArg (fun z => List.set _ 4 (Res.blk hd z _)) (rh_setT (cut255 x.name) (by omega) x.typ x.cls x.ttl x.len (6))) ?_
      refine OpsJ.nil ?_
      refine ExJ.thenN ?_
      refine CodeJ.seq ?_
      refine CodeJ.any (fuel := 20) (listed := #[false, false, false, false, false, false, false, false, false, false, false, false, false, false, false, false, false, false, false, false]) [0, 3, 4] rfl follows_mixed rfl rfl ?_
      refine AnyJ.take (fuel := 19) (listed' := #[true, false, false, false, false, false, false, false, false, false, false, false, false, false, false, false, false, false, false, false]) 0 rfl (by kernel_rfl) (by kernel_rfl) (by kernel_rfl) rfl rfl rfl rfl (Yld.move rfl rfl) (fun w hI => hI.pick (is := [0, 3, 4]) (by decide) rfl) ?_
      refine AnyJ.take (fuel := 18) (listed' := #[true, true, false, false, false, false, false, false, false, false, false, false, false, false, false, false, false, false, false, false]) 1 rfl (by kernel_rfl) (by kernel_rfl) (by kernel_rfl) rfl rfl rfl rfl (Yld.nilCheck rfl rfl) (fun w hI => hI.pick (is := [0, 3, 4]) (by decide) rfl) ?_
      refine AnyJ.take (fuel := 17) (listed' := #[true, true, true, false, false, false, false, false, false, false, false, false, false, false, false, false, false, false, false, false]) 2 rfl (by kernel_rfl) (by kernel_rfl) (by kernel_rfl) rfl rfl rfl rfl (Yld.fieldAddr fa_117_0 rfl rfl) (fun w hI => hI.pick (is := [0, 3, 4]) (by decide) rfl) ?_
      refine AnyJ.take (fuel := 16) (listed' := #[true, true, true, true, false, false, false, false, false, false, false, false, false, false, false, false, false, false, false, false]) 3 rfl (by kernel_rfl) (by kernel_rfl) (by kernel_rfl) rfl rfl rfl rfl (Yld.load1 rfl Tryd.underlying26 rfl rfl (fun w hI => Inv.cell1 hI (i := 0) rfl rfl)) (fun w hI => hI.pick (is := [0, 3, 4]) (by decide) rfl) ?_
      refine AnyJ.take (fuel := 15) (listed' := #[true, true, true, true, true, false, false, false, false, false, false, false, false, false, false, false, false, false, false, false]) 4 rfl (by kernel_rfl) (by kernel_rfl) (by kernel_rfl) rfl rfl rfl rfl (Yld.move rfl rfl) (fun w hI => hI.pick (is := [0, 3, 4]) (by decide) rfl) ?_
      refine AnyJ.take (fuel := 14) (listed' := #[true, true, true, true, true, true, false, false, false, false, false, false, false, false, false, false, false, false, false, false]) 5 rfl (by kernel_rfl) (by kernel_rfl) (by kernel_rfl) rfl rfl rfl rfl (Yld.nilCheck rfl rfl) (fun w hI => hI.pick (is := [0, 3, 4]) (by decide) rfl) ?_
      refine AnyJ.take (fuel := 13) (listed' := #[true, true, true, true, true, true, true, false, false, false, false, false, false, false, false, false, false, false, false, false]) 6 rfl (by kernel_rfl) (by kernel_rfl) (by kernel_rfl) rfl rfl rfl rfl (Yld.fieldAddr fa_117_4 rfl rfl) (fun w hI => hI.pick (is := [0, 3, 4]) (by decide) rfl) ?_
      refine AnyJ.take (fuel := 12) (listed' := #[true, true, true, true, true, true, true, true, false, false, false, false, false, false, false, false, false, false, false, false]) 7 rfl (by kernel_rfl) (by kernel_rfl) (by kernel_rfl) rfl rfl rfl rfl (Yld.load1 rfl Tryd.underlying115 rfl rfl (fun w hI => Inv.cell1 hI (i := 0) rfl rfl)) (fun w hI => hI.pick (is := [0, 3, 4]) (by decide) rfl) ?_
      refine AnyJ.take (fuel := 11) (listed' := #[true, true, true, true, true, true, true, true, true, false, false, false, false, false, false, false, false, false, false, false]) 8 rfl (by kernel_rfl) (by kernel_rfl) (by kernel_rfl) rfl rfl rfl rfl (Yld.move rfl rfl) (fun w hI => hI.pick (is := [0, 3, 4]) (by decide) rfl) ?_
      refine AnyJ.take (fuel := 10) (listed' := #[true, true, true, true, true, true, true, true, true, true, false, false, false, false, false, false, false, false, false, false]) 9 rfl (by kernel_rfl) (by kernel_rfl) (by kernel_rfl) rfl rfl rfl rfl (Yld.nilCheck rfl rfl) (fun w hI => hI.pick (is := [0, 3, 4]) (by decide) rfl) ?_
      refine AnyJ.take (fuel := 9) (listed' := #[true, true, true, true, true, true, true, true, true, true, true, false, false, false, false, false, false, false, false, false]) 10 rfl (by kernel_rfl) (by kernel_rfl) (by kernel_rfl) rfl rfl rfl rfl (Yld.fieldAddr fa_117_3 rfl rfl) (fun w hI => hI.pick (is := [0, 3, 4]) (by decide) rfl) ?_
      refine AnyJ.take (fuel := 8) (listed' := #[true, true, true, true, true, true, true, true, true, true, true, true, false, false, false, false, false, false, false, false]) 11 rfl (by kernel_rfl) (by kernel_rfl) (by kernel_rfl) rfl rfl rfl rfl (Yld.load1 rfl Tryd.underlying3 rfl rfl (fun w hI => Inv.cell1 hI (i := 0) rfl rfl)) (fun w hI => hI.pick (is := [0, 3, 4]) (by decide) rfl) ?_
      refine AnyJ.one (fuel := 7) 12 (by kernel_rfl) ?_
      refine StepJ.op (listed' := #[true, true, true, true, true, true, true, true, true, true, true, true, true, false, false, false, false, false, false, false]) rfl rfl rfl ?_
      refine OpJ.call (rhPack_spec G (cut255 x.name) hpn (6) x.cls x.ttl x.len httl hd b.start (.slice p b.buf.length c) b.buf b.buf p c r b.m (by omega) hbig hb.small) has_66 rfl rfl rfl rfl rfl [1, 2] [0, 3, 4] (by decide) rfl rfl (fun w hI => ⟨Inv.whole hI (i := 4) rfl, hI.apart (i := 4) rfl (is := [1, 2]) (by decide) rfl hd (by simp [Res.ats]), hge.call hI (is := [1, 2]) rfl⟩) ?_
      rintro _ _ hpost
      rw [hp] at hpost
      obtain ⟨p34, c34, rfl, rfl⟩ := hpost
      refine ⟨fun w hI => hI.pick (is := [2, 3, 4]) (by decide) rfl, ?_⟩
      refine AnyJ.take (fuel := 6) (listed' := #[true, true, true, true, true, true, true, true, true, true, true, true, true, true, false, false, false, false, false, false]) 13 rfl (by kernel_rfl) (by kernel_rfl) (by kernel_rfl) rfl rfl rfl rfl (Yld.move rfl rfl) (fun w hI => hI.pick (is := [2, 3, 4]) (by decide) rfl) ?_
      refine AnyJ.take (fuel := 5) (listed' := #[true, true, true, true, true, true, true, true, true, true, true, true, true, true, true, false, false, false, false, false]) 14 rfl (by kernel_rfl) (by kernel_rfl) (by kernel_rfl) rfl rfl rfl rfl (Yld.extract rfl rfl rfl) (fun w hI => hI.pick (is := [2, 3, 4]) (by decide) rfl) ?_
      refine AnyJ.take (fuel := 4) (listed' := #[true, true, true, true, true, true, true, true, true, true, true, true, true, true, true, true, false, false, false, false]) 15 rfl (by kernel_rfl) (by kernel_rfl) (by kernel_rfl) rfl rfl rfl rfl (Yld.extract rfl rfl rfl) (fun w hI => hI.pick (is := [2, 3, 4]) (by decide) rfl) ?_
      refine AnyJ.take (fuel := 3) (listed' := #[true, true, true, true, true, true, true, true, true, true, true, true, true, true, true, true, true, false, false, false]) 16 rfl (by kernel_rfl) (by kernel_rfl) (by kernel_rfl) rfl rfl rfl rfl (Yld.extract rfl rfl rfl) (fun w hI => hI.pick (is := [2, 3, 4]) (by decide) rfl) ?_
      refine AnyJ.take (fuel := 2) (listed' := #[true, true, true, true, true, true, true, true, true, true, true, true, true, true, true, true, true, true, false, false]) 17 rfl (by kernel_rfl) (by kernel_rfl) (by kernel_rfl) rfl rfl rfl rfl (Yld.assign rfl rfl) (fun w hI => hI.pick (is := [2, 3, 4]) (by decide) rfl) ?_
      refine AnyJ.take (fuel := 1) (listed' := #[true, true, true, true, true, true, true, true, true, true, true, true, true, true, true, true, true, true, true, false]) 18 rfl (by kernel_rfl) (by kernel_rfl) (by kernel_rfl) rfl rfl rfl rfl (Yld.assign rfl rfl) (fun w hI => hI.pick (is := [2, 3, 4]) (by decide) rfl) ?_
      refine AnyJ.take (fuel := 0) (listed' := #[true, true, true, true, true, true, true, true, true, true, true, true, true, true, true, true, true, true, true, true]) 19 rfl (by kernel_rfl) (by kernel_rfl) (by kernel_rfl) rfl rfl rfl rfl (Yld.assign rfl rfl) (fun w hI => hI.pick (is := [2, 3, 4]) (by decide) rfl) ?_
      refine AnyJ.done (by kernel_rfl) ?_
      refine ExJ.thenN ?_
      refine CodeJ.seq ?_
      refine CodeJ.seq ?_
      refine CodeJ.region ?_
      refine OpsJ.yld rfl rfl rfl (Yld.move rfl rfl) ?_
      refine OpsJ.yld rfl rfl rfl (Yld.ifaceNeNil rfl Tryd.underlying69 rfl rfl) ?_
      refine OpsJ.nil ?_
      refine ExJ.thenN ?_
      refine CodeJ.condF rfl ?_
      refine CodeJ.skip ?_
      refine ExJ.thenN ?_
      refine CodeJ.seq ?_
      refine CodeJ.region ?_
      refine OpsJ.yld rfl rfl rfl (Yld.move rfl rfl) ?_
      refine OpsJ.yld rfl rfl rfl (Yld.lenSlice rfl rfl rfl Tryd.underlying26 rfl) ?_
      refine OpsJ.yld rfl rfl rfl (Yld.assign rfl rfl) ?_
      refine OpsJ.nil ?_
      refine ExJ.thenN ?_
      refine CodeJ.seq ?_
      refine CodeJ.seq ?_
      refine CodeJ.any (fuel := 15) (listed := #[false, false, false, false, false, false, false, false, false, false, false, false, false, false, false]) [2, 3, 4] rfl follows_mixed rfl rfl ?_
      refine AnyJ.take (fuel := 14) (listed' := #[true, false, false, false, false, false, false, false, false, false, false, false, false, false, false]) 0 rfl (by kernel_rfl) (by kernel_rfl) (by kernel_rfl) rfl rfl rfl rfl (Yld.move rfl rfl) (fun w hI => hI.pick (is := [2, 3, 4]) (by decide) rfl) ?_
      refine AnyJ.take (fuel := 13) (listed' := #[true, true, false, false, false, false, false, false, false, false, false, false, false, false, false]) 1 rfl (by kernel_rfl) (by kernel_rfl) (by kernel_rfl) rfl rfl rfl rfl (Yld.move rfl rfl) (fun w hI => hI.pick (is := [2, 3, 4]) (by decide) rfl) ?_
      refine AnyJ.take (fuel := 12) (listed' := #[true, true, true, false, false, false, false, false, false, false, false, false, false, false, false]) 2 rfl (by kernel_rfl) (by kernel_rfl) (by kernel_rfl) rfl rfl rfl rfl (Yld.nilCheck rfl rfl) (fun w hI => hI.pick (is := [2, 3, 4]) (by decide) rfl) ?_
      refine AnyJ.take (fuel := 11) (listed' := #[true, true, true, true, false, false, false, false, false, false, false, false, false, false, false]) 3 rfl (by kernel_rfl) (by kernel_rfl) (by kernel_rfl) rfl rfl rfl rfl (Yld.fieldAddr fa_117_4 rfl rfl) (fun w hI => hI.pick (is := [2, 3, 4]) (by decide) rfl) ?_
      refine AnyJ.take (fuel := 10) (listed' := #[true, true, true, true, true, false, false, false, false, false, false, false, false, false, false]) 4 rfl (by kernel_rfl) (by kernel_rfl) (by kernel_rfl) rfl rfl rfl rfl (Yld.load1 rfl Tryd.underlying115 rfl rfl (fun w hI => Inv.cell1 hI (i := 0) rfl rfl)) (fun w hI => hI.pick (is := [2, 3, 4]) (by decide) rfl) ?_
      refine AnyJ.take (fuel := 9) (listed' := #[true, true, true, true, true, true, false, false, false, false, false, false, false, false, false]) 5 rfl (by kernel_rfl) (by kernel_rfl) (by kernel_rfl) rfl rfl rfl rfl (Yld.move rfl rfl) (fun w hI => hI.pick (is := [2, 3, 4]) (by decide) rfl) ?_
      refine AnyJ.take (fuel := 8) (listed' := #[true, true, true, true, true, true, true, false, false, false, false, false, false, false, false]) 6 rfl (by kernel_rfl) (by kernel_rfl) (by kernel_rfl) rfl rfl rfl rfl (Yld.nilCheck rfl rfl) (fun w hI => hI.pick (is := [2, 3, 4]) (by decide) rfl) ?_
      refine AnyJ.take (fuel := 7) (listed' := #[true, true, true, true, true, true, true, true, false, false, false, false, false, false, false]) 7 rfl (by kernel_rfl) (by kernel_rfl) (by kernel_rfl) rfl rfl rfl rfl (Yld.fieldAddr fa_117_3 rfl rfl) (fun w hI => hI.pick (is := [2, 3, 4]) (by decide) rfl) ?_
      refine AnyJ.take (fuel := 6) (listed' := #[true, true, true, true, true, true, true, true, true, false, false, false, false, false, false]) 8 rfl (by kernel_rfl) (by kernel_rfl) (by kernel_rfl) rfl rfl rfl rfl (Yld.load1 rfl Tryd.underlying3 rfl rfl (fun w hI => Inv.cell1 hI (i := 0) rfl rfl)) (fun w hI => hI.pick (is := [2, 3, 4]) (by decide) rfl) ?_
      refine AnyJ.one (fuel := 5) 9 (by kernel_rfl) ?_
      refine StepJ.op (listed' := #[true, true, true, true, true, true, true, true, true, true, false, false, false, false, false]) rfl rfl rfl ?_
      refine OpJ.call (soaPack_spec G (cut255 x.host) hpok.1 (cut255 x.box) hpok.2 x hwf rb b.start (.slice p b.buf.length c) b.buf (b.buf ++ ys ++ rh10 (6) x.cls x.ttl x.len) p34 c34 r m1 (by simp; omega) (by simp [rh10_len]; omega) hm1) has_85 rfl rfl rfl rfl rfl [0, 1] [2, 3, 4] (by decide) rfl rfl (fun w hI => ⟨Inv.whole hI (i := 3) rfl, hI.apart (i := 3) rfl (is := [0, 1]) (by decide) rfl rb (by simp [Res.ats]), hge.call hI (is := [0, 1]) rfl⟩) ?_
      rintro _ _ hpost
      rw [hrel] at hpost
      rw [hq] at hpost
      obtain ⟨u56, t56, e56, rfl, rfl⟩ := hpost
      refine ⟨fun w hI => hI.pick (is := [2, 3, 4]) (by decide) rfl, ?_⟩
      refine AnyJ.take (fuel := 4) (listed' := #[true, true, true, true, true, true, true, true, true, true, true, false, false, false, false]) 10 rfl (by kernel_rfl) (by kernel_rfl) (by kernel_rfl) rfl rfl rfl rfl (Yld.move rfl rfl) (fun w hI => hI.pick (is := [2, 3, 4]) (by decide) rfl) ?_
      refine AnyJ.take (fuel := 3) (listed' := #[true, true, true, true, true, true, true, true, true, true, true, true, false, false, false]) 11 rfl (by kernel_rfl) (by kernel_rfl) (by kernel_rfl) rfl rfl rfl rfl (Yld.extract rfl rfl rfl) (fun w hI => hI.pick (is := [2, 3, 4]) (by decide) rfl) ?_
      refine AnyJ.take (fuel := 2) (listed' := #[true, true, true, true, true, true, true, true, true, true, true, true, true, false, false]) 12 rfl (by kernel_rfl) (by kernel_rfl) (by kernel_rfl) rfl rfl rfl rfl (Yld.extract rfl rfl rfl) (fun w hI => hI.pick (is := [2, 3, 4]) (by decide) rfl) ?_
      refine AnyJ.take (fuel := 1) (listed' := #[true, true, true, true, true, true, true, true, true, true, true, true, true, true, false]) 13 rfl (by kernel_rfl) (by kernel_rfl) (by kernel_rfl) rfl rfl rfl rfl (Yld.assign rfl rfl) (fun w hI => hI.pick (is := [2, 3, 4]) (by decide) rfl) ?_
      refine AnyJ.take (fuel := 0) (listed' := #[true, true, true, true, true, true, true, true, true, true, true, true, true, true, true]) 14 rfl (by kernel_rfl) (by kernel_rfl) (by kernel_rfl) rfl rfl rfl rfl (Yld.assign rfl rfl) (fun w hI => hI.pick (is := [2, 3, 4]) (by decide) rfl) ?_
      refine AnyJ.done (by kernel_rfl) ?_
      refine ExJ.thenN ?_
      refine CodeJ.seq ?_
      refine CodeJ.region ?_
      refine OpsJ.yld rfl rfl rfl (Yld.move rfl rfl) ?_
      refine OpsJ.yld rfl rfl rfl (Yld.ifaceNeNil rfl Tryd.underlying69 rfl rfl) ?_
      refine OpsJ.nil ?_
      refine ExJ.thenN ?_
      refine CodeJ.condT rfl ?_
      refine CodeJ.seq ?_
      refine CodeJ.region ?_
      refine OpsJ.yld rfl rfl rfl (Yld.move rfl rfl) ?_
      refine OpsJ.yld rfl rfl rfl (Yld.build places_138 zero_138 rfl rfl rfl) ?_
      refine OpsJ.op rfl ?_
      refine OpJ.box rfl rfl rfl rfl fun ne hne => ?_
      refine OpsJ.yld rfl rfl rfl (Yld.makeInterface rfl Tryd.underlying136 rfl rfl) ?_
      refine OpsJ.yld rfl rfl rfl (Yld.assign rfl rfl) ?_
      refine OpsJ.nil ?_
      refine ExJ.thenN ?_
      refine CodeJ.ret ?_
      refine ExJ.thenR ?_
      exact ExJ.ret1 Tryd.results47 rfl ⟨.inr (.inr ⟨rfl, _, rfl⟩), p, c, rfl⟩ fun w hI => hI.pick (is := [3, 1, 2]) (by decide) rfl
    | ok zs m2 =>
      have hzl := hblen _ _ _ _ hq
      have heff : soaAdder.eff x r.isSome b = (({ b with buf := b.buf ++ ys ++ rh10 (6) x.cls x.ttl zs.length ++ zs, m := m2 } : Bd).incr, 0) := by simp only [soaAdder, recAdder, recF, hp, hq]
      simp only [soaPk] at hq
      rw [heff]
      refine CodeJ.seq ?_
      refine CodeJ.region ?_
      refine OpsJ.op rfl ?_
      refine OpJ.box rfl rfl rfl rfl fun hd hhd => ?_
      refine OpsJ.op rfl ?_
      refine OpJ.box rfl rfl rfl rfl fun rb hrb => ?_
      refine OpsJ.yld rfl rfl rfl (Yld.assign rfl rfl) ?_
      refine OpsJ.nil ?_
      refine ExJ.thenN ?_
      refine CodeJ.seq ?_
      refine CodeJ.seq ?_
      refine CodeJ.region ?_
      refine OpsJ.yld rfl rfl rfl (Yld.move rfl rfl) ?_
      refine OpsJ.op rfl ?_
      refine OpJ.call (checkRes_ok b bb p c r h3 h5) has_64 rfl rfl rfl rfl rfl [2, 3, 4] [0, 1] (by decide) rfl rfl (fun _ _ => trivial) ?_
      rintro _ _ ⟨rfl, rfl⟩
      refine OpsJ.yld rfl rfl rfl (Yld.assign rfl rfl) ?_
      refine OpsJ.nil ?_
      refine ExJ.thenN ?_
      refine CodeJ.seq ?_
      refine CodeJ.region ?_
      refine OpsJ.yld rfl rfl rfl (Yld.move rfl rfl) ?_
      refine OpsJ.yld rfl rfl rfl (Yld.ifaceNeNil rfl Tryd.underlying69 rfl rfl) ?_
      refine OpsJ.nil ?_
      refine ExJ.thenN ?_
      refine CodeJ.condF rfl ?_
      refine CodeJ.skip ?_
      refine ExJ.thenN ?_
      refine CodeJ.seq ?_
      refine CodeJ.region ?_
      refine OpsJ.op rfl ?_
      refine OpJ.call (soaType_spec _) has_84 rfl rfl rfl rfl rfl [] [0, 1, 2, 3, 4] (by decide) rfl rfl (fun _ _ => trivial) ?_
      rintro _ _ ⟨rfl, rfl⟩
      refine OpsJ.yld rfl rfl rfl (Yld.fieldAddr fa_67_1 rfl rfl) ?_
      refine OpsJ.op rfl ?_
      refine OpJ.store1 (i := 4) rfl rfl rfl rfl rfl sz_64 rfl (by show (0 + 256 + 1).ble (rhCs (cut255 x.name) x.typ x.cls x.ttl x.len).toArray.size = true; rw [List.size_toArray, hrl]; rfl) ?_
      refine OpsJ.congrH (congrArg (fun z => List.set _ 4 (Res.blk hd z _)) (rh_setT (cut255 x.name) (by omega) x.typ x.cls x.ttl x.len (6))) ?_
      refine OpsJ.nil ?_
      refine ExJ.thenN ?_
      refine CodeJ.seq ?_
      refine CodeJ.any (fuel := 20) (listed := #[false, false, false, false, false, false, false, false, false, false, false, false, false, false, false, false, false, false, false, false]) [0, 3, 4] rfl follows_mixed rfl rfl ?_
      refine AnyJ.take (fuel := 19) (listed' := #[true, false, false, false, false, false, false, false, false, false, false, false, false, false, false, false, false, false, false, false]) 0 rfl (by kernel_rfl) (by kernel_rfl) (by kernel_rfl) rfl rfl rfl rfl (Yld.move rfl rfl) (fun w hI => hI.pick (is := [0, 3, 4]) (by decide) rfl) ?_
      refine AnyJ.take (fuel := 18) (listed' := #[true, true, false, false, false, false, false, false, false, false, false, false, false, false, false, false, false, false, false, false]) 1 rfl (by kernel_rfl) (by kernel_rfl) (by kernel_rfl) rfl rfl rfl rfl (Yld.nilCheck rfl rfl) (fun w hI => hI.pick (is := [0, 3, 4]) (by decide) rfl) ?_
      refine AnyJ.take (fuel := 17) (listed' := #[true, true, true, false, false, false, false, false, false, false, false, false, false, false, false, false, false, false, false, false]) 2 rfl (by kernel_rfl) (by kernel_rfl) (by kernel_rfl) rfl rfl rfl rfl (Yld.fieldAddr fa_117_0 rfl rfl) (fun w hI => hI.pick (is := [0, 3, 4]) (by decide) rfl) ?_
      refine AnyJ.take (fuel := 16) (listed' := #[true, true, true, true, false, false, false, false, false, false, false, false, false, false, false, false, false, false, false, false]) 3 rfl (by kernel_rfl) (by kernel_rfl) (by kernel_rfl) rfl rfl rfl rfl (Yld.load1 rfl Tryd.underlying26 rfl rfl (fun w hI => Inv.cell1 hI (i := 0) rfl rfl)) (fun w hI => hI.pick (is := [0, 3, 4]) (by decide) rfl) ?_
      refine AnyJ.take (fuel := 15) (listed' := #[true, true, true, true, true, false, false, false, false, false, false, false, false, false, false, false, false, false, false, false]) 4 rfl (by kernel_rfl) (by kernel_rfl) (by kernel_rfl) rfl rfl rfl rfl (Yld.move rfl rfl) (fun w hI => hI.pick (is := [0, 3, 4]) (by decide) rfl) ?_
      refine AnyJ.take (fuel := 14) (listed' := #[true, true, true, true, true, true, false, false, false, false, false, false, false, false, false, false, false, false, false, false]) 5 rfl (by kernel_rfl) (by kernel_rfl) (by kernel_rfl) rfl rfl rfl rfl (Yld.nilCheck rfl rfl) (fun w hI => hI.pick (is := [0, 3, 4]) (by decide) rfl) ?_
      refine AnyJ.take (fuel := 13) (listed' := #[true, true, true, true, true, true, true, false, false, false, false, false, false, false, false, false, false, false, false, false]) 6 rfl (by kernel_rfl) (by kernel_rfl) (by kernel_rfl) rfl rfl rfl rfl (Yld.fieldAddr fa_117_4 rfl rfl) (fun w hI => hI.pick (is := [0, 3, 4]) (by decide) rfl) ?_
      refine AnyJ.take (fuel := 12) (listed' := #[true, true, true, true, true, true, true, true, false, false, false, false, false, false, false, false, false, false, false, false]) 7 rfl (by kernel_rfl) (by kernel_rfl) (by kernel_rfl) rfl rfl rfl rfl (Yld.load1 rfl Tryd.underlying115 rfl rfl (fun w hI => Inv.cell1 hI (i := 0) rfl rfl)) (fun w hI => hI.pick (is := [0, 3, 4]) (by decide) rfl) ?_
      refine AnyJ.take (fuel := 11) (listed' := #[true, true, true, true, true, true, true, true, true, false, false, false, false, false, false, false, false, false, false, false]) 8 rfl (by kernel_rfl) (by kernel_rfl) (by kernel_rfl) rfl rfl rfl rfl (Yld.move rfl rfl) (fun w hI => hI.pick (is := [0, 3, 4]) (by decide) rfl) ?_
      refine AnyJ.take (fuel := 10) (listed' := #[true, true, true, true, true, true, true, true, true, true, false, false, false, false, false, false, false, false, false, false]) 9 rfl (by kernel_rfl) (by kernel_rfl) (by kernel_rfl) rfl rfl rfl rfl (Yld.nilCheck rfl rfl) (fun w hI => hI.pick (is := [0, 3, 4]) (by decide) rfl) ?_
      refine AnyJ.take (fuel := 9) (listed' := #[true, true, true, true, true, true, true, true, true, true, true, false, false, false, false, false, false, false, false, false]) 10 rfl (by kernel_rfl) (by kernel_rfl) (by kernel_rfl) rfl rfl rfl rfl (Yld.fieldAddr fa_117_3 rfl rfl) (fun w hI => hI.pick (is := [0, 3, 4]) (by decide) rfl) ?_
      refine AnyJ.take (fuel := 8) (listed' := #[true, true, true, true, true, true, true, true, true, true, true, true, false, false, false, false, false, false, false, false]) 11 rfl (by kernel_rfl) (by kernel_rfl) (by kernel_rfl) rfl rfl rfl rfl (Yld.load1 rfl Tryd.underlying3 rfl rfl (fun w hI => Inv.cell1 hI (i := 0) rfl rfl)) (fun w hI => hI.pick (is := [0, 3, 4]) (by decide) rfl) ?_
      refine AnyJ.one (fuel := 7) 12 (by kernel_rfl) ?_
      refine StepJ.op (listed' := #[true, true, true, true, true, true, true, true, true, true, true, true, true, false, false, false, false, false, false, false]) rfl rfl rfl ?_
      refine OpJ.call (rhPack_spec G (cut255 x.name) hpn (6) x.cls x.ttl x.len httl hd b.start (.slice p b.buf.length c) b.buf b.buf p c r b.m (by omega) hbig hb.small) has_66 rfl rfl rfl rfl rfl [1, 2] [0, 3, 4] (by decide) rfl rfl (fun w hI => ⟨Inv.whole hI (i := 4) rfl, hI.apart (i := 4) rfl (is := [1, 2]) (by decide) rfl hd (by simp [Res.ats]), hge.call hI (is := [1, 2]) rfl⟩) ?_
      rintro _ _ hpost
      rw [hp] at hpost
      obtain ⟨p34, c34, rfl, rfl⟩ := hpost
      refine ⟨fun w hI => hI.pick (is := [2, 3, 4]) (by decide) rfl, ?_⟩
      refine AnyJ.take (fuel := 6) (listed' := #[true, true, true, true, true, true, true, true, true, true, true, true, true, true, false, false, false, false, false, false]) 13 rfl (by kernel_rfl) (by kernel_rfl) (by kernel_rfl) rfl rfl rfl rfl (Yld.move rfl rfl) (fun w hI => hI.pick (is := [2, 3, 4]) (by decide) rfl) ?_
      refine AnyJ.take (fuel := 5) (listed' := #[true, true, true, true, true, true, true, true, true, true, true, true, true, true, true, false, false, false, false, false]) 14 rfl (by kernel_rfl) (by kernel_rfl) (by kernel_rfl) rfl rfl rfl rfl (Yld.extract rfl rfl rfl) (fun w hI => hI.pick (is := [2, 3, 4]) (by decide) rfl) ?_
      refine AnyJ.take (fuel := 4) (listed' := #[true, true, true, true, true, true, true, true, true, true, true, true, true, true, true, true, false, false, false, false]) 15 rfl (by kernel_rfl) (by kernel_rfl) (by kernel_rfl) rfl rfl rfl rfl (Yld.extract rfl rfl rfl) (fun w hI => hI.pick (is := [2, 3, 4]) (by decide) rfl) ?_
      refine AnyJ.take (fuel := 3) (listed' := #[true, true, true, true, true, true, true, true, true, true, true, true, true, true, true, true, true, false, false, false]) 16 rfl (by kernel_rfl) (by kernel_rfl) (by kernel_rfl) rfl rfl rfl rfl (Yld.extract rfl rfl rfl) (fun w hI => hI.pick (is := [2, 3, 4]) (by decide) rfl) ?_
      refine AnyJ.take (fuel := 2) (listed' := #[true, true, true, true, true, true, true, true, true, true, true, true, true, true, true, true, true, true, false, false]) 17 rfl (by kernel_rfl) (by kernel_rfl) (by kernel_rfl) rfl rfl rfl rfl (Yld.assign rfl rfl) (fun w hI => hI.pick (is := [2, 3, 4]) (by decide) rfl) ?_
      refine AnyJ.take (fuel := 1) (listed' := #[true, true, true, true, true, true, true, true, true, true, true, true, true, true, true, true, true, true, true, false]) 18 rfl (by kernel_rfl) (by kernel_rfl) (by kernel_rfl) rfl rfl rfl rfl (Yld.assign rfl rfl) (fun w hI => hI.pick (is := [2, 3, 4]) (by decide) rfl) ?_
      refine AnyJ.take (fuel := 0) (listed' := #[true, true, true, true, true, true, true, true, true, true, true, true, true, true, true, true, true, true, true, true]) 19 rfl (by kernel_rfl) (by kernel_rfl) (by kernel_rfl) rfl rfl rfl rfl (Yld.assign rfl rfl) (fun w hI => hI.pick (is := [2, 3, 4]) (by decide) rfl) ?_
      refine AnyJ.done (by kernel_rfl) ?_
      refine ExJ.thenN ?_
      refine CodeJ.seq ?_
      refine CodeJ.seq ?_
      refine CodeJ.region ?_
      refine OpsJ.yld rfl rfl rfl (Yld.move rfl rfl) ?_
      refine OpsJ.yld rfl rfl rfl (Yld.ifaceNeNil rfl Tryd.underlying69 rfl rfl) ?_
      refine OpsJ.nil ?_
      refine ExJ.thenN ?_
      refine CodeJ.condF rfl ?_
      refine CodeJ.skip ?_
      refine ExJ.thenN ?_
      refine CodeJ.seq ?_
      refine CodeJ.region ?_
      refine OpsJ.yld rfl rfl rfl (Yld.move rfl rfl) ?_
      refine OpsJ.yld rfl rfl rfl (Yld.lenSlice rfl rfl rfl Tryd.underlying26 rfl) ?_
      refine OpsJ.yld rfl rfl rfl (Yld.assign rfl rfl) ?_
      refine OpsJ.nil ?_
      refine ExJ.thenN ?_
      refine CodeJ.seq ?_
      refine CodeJ.seq ?_
      refine CodeJ.any (fuel := 15) (listed := #[false, false, false, false, false, false, false, false, false, false, false, false, false, false, false]) [2, 3, 4] rfl follows_mixed rfl rfl ?_
      refine AnyJ.take (fuel := 14) (listed' := #[true, false, false, false, false, false, false, false, false, false, false, false, false, false, false]) 0 rfl (by kernel_rfl) (by kernel_rfl) (by kernel_rfl) rfl rfl rfl rfl (Yld.move rfl rfl) (fun w hI => hI.pick (is := [2, 3, 4]) (by decide) rfl) ?_
      refine AnyJ.take (fuel := 13) (listed' := #[true, true, false, false, false, false, false, false, false, false, false, false, false, false, false]) 1 rfl (by kernel_rfl) (by kernel_rfl) (by kernel_rfl) rfl rfl rfl rfl (Yld.move rfl rfl) (fun w hI => hI.pick (is := [2, 3, 4]) (by decide) rfl) ?_
      refine AnyJ.take (fuel := 12) (listed' := #[true, true, true, false, false, false, false, false, false, false, false, false, false, false, false]) 2 rfl (by kernel_rfl) (by kernel_rfl) (by kernel_rfl) rfl rfl rfl rfl (Yld.nilCheck rfl rfl) (fun w hI => hI.pick (is := [2, 3, 4]) (by decide) rfl) ?_
      refine AnyJ.take (fuel := 11) (listed' := #[true, true, true, true, false, false, false, false, false, false, false, false, false, false, false]) 3 rfl (by kernel_rfl) (by kernel_rfl) (by kernel_rfl) rfl rfl rfl rfl (Yld.fieldAddr fa_117_4 rfl rfl) (fun w hI => hI.pick (is := [2, 3, 4]) (by decide) rfl) ?_
      refine AnyJ.take (fuel := 10) (listed' := #[true, true, true, true, true, false, false, false, false, false, false, false, false, false, false]) 4 rfl (by kernel_rfl) (by kernel_rfl) (by kernel_rfl) rfl rfl rfl rfl (Yld.load1 rfl Tryd.underlying115 rfl rfl (fun w hI => Inv.cell1 hI (i := 0) rfl rfl)) (fun w hI => hI.pick (is := [2, 3, 4]) (by decide) rfl) ?_
      refine AnyJ.take (fuel := 9) (listed' := #[true, true, true, true, true, true, false, false, false, false, false, false, false, false, false]) 5 rfl (by kernel_rfl) (by kernel_rfl) (by kernel_rfl) rfl rfl rfl rfl (Yld.move rfl rfl) (fun w hI => hI.pick (is := [2, 3, 4]) (by decide) rfl) ?_
      refine AnyJ.take (fuel := 8) (listed' := #[true, true, true, true, true, true, true, false, false, false, false, false, false, false, false]) 6 rfl (by kernel_rfl) (by kernel_rfl) (by kernel_rfl) rfl rfl rfl rfl (Yld.nilCheck rfl rfl) (fun w hI => hI.pick (is := [2, 3, 4]) (by decide) rfl) ?_
      refine AnyJ.take (fuel := 7) (listed' := #[true, true, true, true, true, true, true, true, false, false, false, false, false, false, false]) 7 rfl (by kernel_rfl) (by kernel_rfl) (by kernel_rfl) rfl rfl rfl rfl (Yld.fieldAddr fa_117_3 rfl rfl) (fun w hI => hI.pick (is := [2, 3, 4]) (by decide) rfl) ?_
      refine AnyJ.take (fuel := 6) (listed' := #[true, true, true, true, true, true, true, true, true, false, false, false, false, false, false]) 8 rfl (by kernel_rfl) (by kernel_rfl) (by kernel_rfl) rfl rfl rfl rfl (Yld.load1 rfl Tryd.underlying3 rfl rfl (fun w hI => Inv.cell1 hI (i := 0) rfl rfl)) (fun w hI => hI.pick (is := [2, 3, 4]) (by decide) rfl) ?_
      refine AnyJ.one (fuel := 5) 9 (by kernel_rfl) ?_
      refine StepJ.op (listed' := #[true, true, true, true, true, true, true, true, true, true, false, false, false, false, false]) rfl rfl rfl ?_
      refine OpJ.call (soaPack_spec G (cut255 x.host) hpok.1 (cut255 x.box) hpok.2 x hwf rb b.start (.slice p b.buf.length c) b.buf (b.buf ++ ys ++ rh10 (6) x.cls x.ttl x.len) p34 c34 r m1 (by simp; omega) (by simp [rh10_len]; omega) hm1) has_85 rfl rfl rfl rfl rfl [0, 1] [2, 3, 4] (by decide) rfl rfl (fun w hI => ⟨Inv.whole hI (i := 3) rfl, hI.apart (i := 3) rfl (is := [0, 1]) (by decide) rfl rb (by simp [Res.ats]), hge.call hI (is := [0, 1]) rfl⟩) ?_
      rintro _ _ hpost
      rw [hrel] at hpost
      rw [hq] at hpost
      obtain ⟨p56, c56, rfl, rfl⟩ := hpost
      refine ⟨fun w hI => hI.pick (is := [2, 3, 4]) (by decide) rfl, ?_⟩
      refine AnyJ.take (fuel := 4) (listed' := #[true, true, true, true, true, true, true, true, true, true, true, false, false, false, false]) 10 rfl (by kernel_rfl) (by kernel_rfl) (by kernel_rfl) rfl rfl rfl rfl (Yld.move rfl rfl) (fun w hI => hI.pick (is := [2, 3, 4]) (by decide) rfl) ?_
      refine AnyJ.take (fuel := 3) (listed' := #[true, true, true, true, true, true, true, true, true, true, true, true, false, false, false]) 11 rfl (by kernel_rfl) (by kernel_rfl) (by kernel_rfl) rfl rfl rfl rfl (Yld.extract rfl rfl rfl) (fun w hI => hI.pick (is := [2, 3, 4]) (by decide) rfl) ?_
      refine AnyJ.take (fuel := 2) (listed' := #[true, true, true, true, true, true, true, true, true, true, true, true, true, false, false]) 12 rfl (by kernel_rfl) (by kernel_rfl) (by kernel_rfl) rfl rfl rfl rfl (Yld.extract rfl rfl rfl) (fun w hI => hI.pick (is := [2, 3, 4]) (by decide) rfl) ?_
      refine AnyJ.take (fuel := 1) (listed' := #[true, true, true, true, true, true, true, true, true, true, true, true, true, true, false]) 13 rfl (by kernel_rfl) (by kernel_rfl) (by kernel_rfl) rfl rfl rfl rfl (Yld.assign rfl rfl) (fun w hI => hI.pick (is := [2, 3, 4]) (by decide) rfl) ?_
      refine AnyJ.take (fuel := 0) (listed' := #[true, true, true, true, true, true, true, true, true, true, true, true, true, true, true]) 14 rfl (by kernel_rfl) (by kernel_rfl) (by kernel_rfl) rfl rfl rfl rfl (Yld.assign rfl rfl) (fun w hI => hI.pick (is := [2, 3, 4]) (by decide) rfl) ?_
      refine AnyJ.done (by kernel_rfl) ?_
      refine ExJ.thenN ?_
      refine CodeJ.seq ?_
      refine CodeJ.region ?_
      refine OpsJ.yld rfl rfl rfl (Yld.move rfl rfl) ?_
      refine OpsJ.yld rfl rfl rfl (Yld.ifaceNeNil rfl Tryd.underlying69 rfl rfl) ?_
      refine OpsJ.nil ?_
      refine ExJ.thenN ?_
      refine CodeJ.condF rfl ?_
      refine CodeJ.skip ?_
      refine ExJ.thenN ?_
      refine CodeJ.seq ?_
      refine CodeJ.seq ?_
      refine CodeJ.turnH (fun w hI => hI.sl2 (i := 0) rfl) ?_
      obtain ⟨A, hA⟩ : ∃ A, A = b.buf ++ ys ++ be16 (6) ++ be16 x.cls ++ b4 x.ttl := ⟨_, rfl⟩
      have hA1 : b.buf ++ ys ++ rh10 (6) x.cls x.ttl x.len ++ zs = A ++ be16 x.len ++ zs := by simp [hA, rh10]
      have hA2 : b.buf.length + ys.length + 8 = A.length := by simp [hA, be16_len, b4_len]; omega
      have hA3 : (b.buf ++ ys ++ rh10 (6) x.cls x.ttl x.len).length = A.length + 2 := by simp [hA, rh10_len, be16_len, b4_len]; omega
      have hA4 : b.buf ++ ys ++ rh10 (6) x.cls x.ttl zs.length ++ zs = A ++ be16 zs.length ++ zs := by simp [hA, rh10]
      have hA5 : (A ++ be16 x.len ++ zs).length = (A ++ be16 zs.length ++ zs).length := by simp [be16_len]
      rw [hA4]
      simp only [hA1, hA2, hA3]
      refine CodeJ.region ?_
      refine OpsJ.yld rfl rfl rfl (Yld.move rfl rfl) ?_
      refine OpsJ.yld rfl rfl rfl (Yld.move rfl rfl) ?_
      refine OpsJ.yld rfl rfl rfl (Yld.move rfl rfl) ?_
      refine OpsJ.op rfl ?_
      refine OpJ.call (fixLen_spec hd _ (by rw [List.size_toArray]; exact rhCs_len _ (by omega) _ _ _ _) A zs x.len p56 c56 hzl (by simp only [List.length_append, be16_len]; omega)) has_68 rfl rfl rfl rfl rfl [4, 0] [1, 2, 3] (by decide) rfl rfl (fun _ _ => trivial) ?_
      rintro _ _ ⟨rfl, cs68, rfl⟩
      simp only [hA5]
      refine OpsJ.yld rfl rfl rfl (Yld.assign rfl rfl) ?_
      refine OpsJ.nil ?_
      refine ExJ.thenN ?_
      refine CodeJ.seq ?_
      refine CodeJ.region ?_
      refine OpsJ.yld rfl rfl rfl (Yld.move rfl rfl) ?_
      refine OpsJ.yld rfl rfl rfl (Yld.ifaceNeNil rfl Tryd.underlying69 rfl rfl) ?_
      refine OpsJ.nil ?_
      refine ExJ.thenN ?_
      refine CodeJ.condF rfl ?_
      refine CodeJ.skip ?_
      refine ExJ.thenN ?_
      refine CodeJ.seq ?_
      refine CodeJ.seq ?_
      refine CodeJ.region ?_
      refine OpsJ.yld rfl rfl rfl (Yld.move rfl rfl) ?_
      refine OpsJ.op rfl ?_
      refine OpJ.call (incr_spec G b bb p c r h3 h5 hcnt) has_69 rfl rfl rfl rfl rfl [3] [0, 1, 2, 4] (by decide) rfl rfl (fun w hI => hge.call hI (is := [3]) rfl) ?_
      rintro _ _ ⟨rfl, rfl⟩
      refine OpsJ.yld rfl rfl rfl (Yld.assign rfl rfl) ?_
      refine OpsJ.nil ?_
      refine ExJ.thenN ?_
      refine CodeJ.seq ?_
      refine CodeJ.region ?_
      refine OpsJ.yld rfl rfl rfl (Yld.move rfl rfl) ?_
      refine OpsJ.yld rfl rfl rfl (Yld.ifaceNeNil rfl Tryd.underlying69 rfl rfl) ?_
      refine OpsJ.nil ?_
      refine ExJ.thenN ?_
      refine CodeJ.condF rfl ?_
      refine CodeJ.skip ?_
      refine ExJ.thenN ?_
      refine CodeJ.seq ?_
      refine CodeJ.region ?_
      refine OpsJ.yld rfl rfl rfl (Yld.move rfl rfl) ?_
      refine OpsJ.yld rfl rfl rfl (Yld.move rfl rfl) ?_
      refine OpsJ.yld rfl rfl rfl (Yld.nilCheck rfl rfl) ?_
      refine OpsJ.yld rfl rfl rfl (Yld.fieldAddr fa_117_0 rfl rfl) ?_
      refine OpsJ.op rfl ?_
      refine OpJ.store1 (i := 0) rfl rfl rfl rfl rfl sz_26 rfl rfl ?_
      refine OpsJ.nil ?_
      refine ExJ.thenN ?_
      refine CodeJ.seq ?_
      refine CodeJ.region ?_
      refine OpsJ.yld rfl rfl rfl (Yld.assign rfl rfl) ?_
      refine OpsJ.nil ?_
      refine ExJ.thenN ?_
      refine CodeJ.ret ?_
      exact ExJ.ret1 Tryd.results47 rfl ⟨.inl ⟨rfl, rfl⟩, p56, c56, rfl⟩ fun w hI => hI.pick (is := [0, 2, 3]) (by decide) rfl

theorem soa_meets : soaAdder.Meets 46 := by
  intro G x on b bb p c r hok hb hr
  refine Spec.of Tryd.func46 rfl Tryd.ntmps46 rfl fun w0 hR => ?_
  obtain ⟨hge, w1, hrec, hkeep, hnew⟩ := hR
  have hrl : (rhCs (cut255 x.name) x.typ x.cls x.ttl x.len).length = 260 := rhCs_len _ (cut255_len x.name) _ _ _ _
  refine CodeJ.seq ?_
  refine CodeJ.region ?_
  refine OpsJ.op rfl ?_
  refine OpJ.box rfl rfl rfl rfl fun hd hhd => ?_
  refine OpsJ.op rfl ?_
  refine OpJ.box rfl rfl rfl rfl fun rc hrc => ?_
  refine OpsJ.yld rfl rfl rfl (Yld.assign rfl rfl) ?_
  refine OpsJ.nil ?_
  refine ExJ.thenN ?_
  refine CodeJ.seq ?_
  refine CodeJ.any (fuel := 6) (listed := #[false, false, false, false, false, false]) [0, 1] rfl follows_mixed rfl rfl ?_
  refine AnyJ.take (fuel := 5) (listed' := #[true, false, false, false, false, false]) 0 rfl (by kernel_rfl) (by kernel_rfl) (by kernel_rfl) rfl rfl rfl rfl (Yld.move rfl rfl) (fun w hI => hI.pick (is := [0, 1]) (by decide) rfl) ?_
  refine AnyJ.take (fuel := 4) (listed' := #[true, true, false, false, false, false]) 1 rfl (by kernel_rfl) (by kernel_rfl) (by kernel_rfl) rfl rfl rfl rfl (Yld.loadN (vs := rhCs (cut255 x.name) x.typ x.cls x.ttl x.len) rfl Tryd.underlying67 rfl (by rw [hrl]; exact sz_67) rfl (fun w hI => Inv.whole hI (i := 1) rfl)) (fun w hI => hI.pick (is := [0, 1]) (by decide) rfl) ?_
  refine AnyJ.take (fuel := 3) (listed' := #[true, true, true, false, false, false]) 2 rfl (by kernel_rfl) (by kernel_rfl) (by kernel_rfl) rfl rfl rfl rfl (Yld.loadN (vs := x.cells) rfl Tryd.underlying30 rfl sz_30 rfl (fun w hI => Inv.whole hI (i := 0) rfl)) (fun w hI => hI.pick (is := [0, 1]) (by decide) rfl) ?_
  refine AnyJ.one (fuel := 2) 3 (by kernel_rfl) ?_
  refine StepJ.op (listed' := #[true, true, true, true, false, false]) rfl rfl rfl ?_
  refine OpJ.call (soaOf_spec x) has_48 rfl rfl rfl rfl rfl [] [0, 1, 2, 3, 4] (by decide) rfl rfl (fun _ _ => trivial) ?_
  rintro _ _ ⟨rfl, rfl⟩
  refine ⟨fun w hI => hI.pick (is := [0, 1]) (by decide) rfl, ?_⟩
  refine AnyJ.one (fuel := 1) 4 (by kernel_rfl) ?_
  refine StepJ.op (listed' := #[true, true, true, true, true, false]) rfl rfl rfl ?_
  refine OpJ.call (soaResource_spec G x on b bb p c r hok hb hr) has_47 rfl rfl rfl rfl rfl [2, 3, 4] [0, 1] (by decide) rfl rfl (fun w hI => hge.call hI (is := [2, 3, 4]) rfl) ?_
  rintro _ _ ⟨he11, p11, c11, rfl⟩
  refine ⟨fun w hI => hI.pick (is := [3, 4]) (by decide) rfl, ?_⟩
  refine AnyJ.take (fuel := 0) (listed' := #[true, true, true, true, true, true]) 5 rfl (by kernel_rfl) (by kernel_rfl) (by kernel_rfl) rfl rfl rfl rfl (Yld.assign rfl rfl) (fun w hI => hI.pick (is := [3, 4]) (by decide) rfl) ?_
  refine AnyJ.done (by kernel_rfl) ?_
  refine ExJ.thenN ?_
  refine CodeJ.ret ?_
  exact ExJ.ret1 Tryd.results46 rfl ⟨he11, p11, c11, rfl⟩ fun w hI => hI.pick (is := [0, 1, 2]) (by decide) rfl

theorem buildSOA_spec (G : GEnv) (h : Hd) (hw : h.wf) (pre : List UInt8) (bufV stepsV : Value) (ss : List StepD) (hn : ss.length ≤ 1099511627776) (hpre : pre.length ≤ 140737488355328) (hok : RunOk soaAdder ss false (newB pre h)) :
    Spec Tryd.prog 25 [bufV, .agg (hdCs h).toArray, stepsV] [] (RunIn G bufV pre stepsV ss) (RunPost (runF soaAdder ss false (newB pre h)).1.fin (runF soaAdder ss false (newB pre h)).2) := by
  refine Spec.of Tryd.func25 rfl Tryd.ntmps25 rfl fun w0 hR => ?_
  obtain ⟨hge, hbuf, hrow, hrec⟩ := hR
  refine CodeJ.seq ?_
  refine CodeJ.region ?_
  refine OpsJ.op rfl ?_
  refine OpJ.box rfl rfl rfl rfl fun hd hhd => ?_
  refine OpsJ.op rfl ?_
  refine OpJ.alloc rfl rfl rfl zero_50 fun res hres => ?_
  refine OpsJ.nil ?_
  refine ExJ.thenN ?_
  refine CodeJ.seq ?_
  refine CodeJ.region ?_
  refine OpsJ.yld rfl rfl rfl (Yld.move rfl rfl) ?_
  refine OpsJ.yld rfl rfl rfl (Yld.loadN (vs := hdCs h) rfl Tryd.underlying24 rfl sz_24 rfl (fun w hI => Inv.whole hI (i := 1) rfl)) ?_
  refine OpsJ.yld rfl rfl rfl (Yld.move rfl rfl) ?_
  refine OpsJ.op rfl ?_
  refine OpJ.call (run_spec soaAdder 46 has_46 soa_meets G h hw pre bufV stepsV ss hn hpre hok) has_27 rfl rfl rfl rfl rfl [] [0, 1] (by decide) rfl rfl (fun w hI => ⟨hge.call hI (is := []) rfl, hbuf.keep hI.keep (by simp [fp]), hrow.keep hI.keep (by simp [fp]), fun s hs => (hrec s hs).keep0 hI.keep⟩) ?_
  rintro _ _ ⟨p1, c1, p2, c2, rfl, rfl⟩
  refine OpsJ.op rfl ?_
  refine OpJ.storeW (i := 2) rfl rfl rfl rfl sz_50 rfl rfl rfl ?_
  refine OpsJ.nil ?_
  refine ExJ.thenN ?_
  refine CodeJ.ret ?_
  exact ExJ.retC (vs := [.slice p1 _ c1, .slice p2 _ c2, .int .i64 0]) Tryd.results25 rfl Tryd.underlying50 rfl sz_50 (fun w hI => Inv.cells hI (i := 2) rfl rfl (Nat.le_of_ble_eq_true rfl)) ⟨p1, c1, p2, c2, rfl, rfl⟩ fun w hI => hI.pick (is := [0, 1]) (by decide) rfl
end Go.Proofs.YtjafnfeamlabbaaDoor
