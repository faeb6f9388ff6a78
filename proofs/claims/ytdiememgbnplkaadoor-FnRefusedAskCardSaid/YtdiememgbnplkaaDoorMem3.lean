/-
  Maps keyed by strings; slices of arrays; bytes to text; copies.
-/
import Derived.Test.YtdiememgbnplkaaDoorAny
namespace Go.Proofs.YtdiememgbnplkaaDoor
open Go

/-! ### a map from texts to numbers -/
def strV (l : List UInt8) : Value := .string ⟨l.toArray⟩
def kvV (m : List (List UInt8 × Nat)) : List (Value × Value) := m.map fun p => (strV p.1, .int .u16 p.2)

theorem toList_strV (l : List UInt8) : (⟨l.toArray⟩ : ByteArray).toList = l := ByteArray.toList_mk l
theorem bytes_beq (a b : List UInt8) : ((⟨a.toArray⟩ : ByteArray) == ⟨b.toArray⟩) = (a == b) := by
  show (a.toArray == b.toArray) = _
  rw [Bool.eq_iff_iff]
  simp

theorem findNow_str (k : List UInt8) : ∀ (es : List MapEntry) (m : List (List UInt8 × Nat)) (i : Nat), es.map (fun e => (e.key, e.val)) = kvV m →
    ∃ r, Instr.findNow .string (strV k) es i = some r ∧ (match m.lookup k with | some p => ∃ j, r = some (j, .int .u16 p) | none => r = none)
  | [], [], i, _ => ⟨none, rfl, rfl⟩
  | [], _ :: _, i, h => by simp [kvV] at h
  | _ :: _, [], i, h => by simp [kvV] at h
  | e :: es, (k', p) :: m, i, h => by
    simp only [kvV, List.map_cons, List.cons.injEq, Prod.mk.injEq] at h
    obtain ⟨⟨h1, h2⟩, h3⟩ := h
    have hs : Instr.sameNow .string (strV k) e.key = some (k == k') := by
      rw [h1]
      simp only [strV, Instr.sameNow, Option.some.injEq]
      exact bytes_beq k k'
    simp only [Instr.findNow, hs, List.lookup]
    cases hk : k == k' with
    | true => exact ⟨some (i, e.val), rfl, i, by rw [h2]⟩
    | false => exact findNow_str k es m (i + 1) h3

section
variable {P : Program} {Q : Exit → Act → World → Prop} {n : Nat} {w0 : World} {S : List Nat} {o : Oper} {L : List (Nat × Value)} {H : List Res} {M : List (Nat × Value) → List Res → Prop} {I : World → Prop}

/-- a map type from strings to uint16 -/
structure MapT (P : Program) (T K E : TypeId) : Prop where
  und : P.underlying T = some (.map K E)
  key : P.underlying K = some .string
  zer : (P.info? E).map (·.zero) = some (some (.int .u16 0))

theorem run_checkKey {K : TypeId} (hk : P.underlying K = some .string) (e : Bool) (m : Nat) (s : ByteArray) (w : World) : (Instr.checkKey e (m + 1) K (.string s)).run P w = .ok () w := by
  simp [Instr.checkKey, run_underlying hk]
theorem checkKey_step (e : Bool) (K : TypeId) (v : Value) : ∃ m, Instr.checkKey e 10000 K v = Instr.checkKey e (m + 1) K v := ⟨9999, rfl⟩

theorem Yld.lookupOk {T K E' : TypeId} {x y : Operand} {b : Nat} {k : List UInt8} {m : List (List UInt8 × Nat)} (hT : MapT P T K E') (ho : o.op = .lookup T x y true) (hx : ev L x = some (.map (some b))) (hy : ev L y = some (strV k)) (hI : ∀ w, I w → (Res.mp (some b) (kvV m)).holds w) :
    Yld P o n L I (.tuple #[.int .u16 ((m.lookup k).getD 0 : Nat), .bool (m.lookup k).isSome]) :=
  fun a w hE hw => by
    obtain ⟨es, clock, hb, hes⟩ := hI w hw
    obtain ⟨r, hr, hm⟩ := findNow_str k es.toList m 0 hes
    obtain ⟨mm, hck⟩ := checkKey_step es.isEmpty K (strV k)
    have hz : ∃ i, P.info? E' = some i ∧ i.zero = some (.int .u16 0) := by
      have := hT.zer
      cases hq : P.info? E' with
      | none => simp [hq] at this
      | some i => simp [hq] at this; exact ⟨i, rfl, this⟩
    obtain ⟨i, hi, hiz⟩ := hz
    have hgo : (getObj b).run P w = .ok (.map es clock) w := by simp [getObj, Sem.run, hb]
    have hcr : (Instr.checkKey es.isEmpty (mm + 1) K (strV k)).run P w = .ok () w := run_checkKey hT.key _ _ _ _
    simp only [execOp, ho, hE.eval hx, hE.eval hy, Instr.lookup, run_underlying hT.und, Sem.run_bind, Result.andThen_ok, hgo, Sem.run_pure, hck, hcr, Instr.findKey, run_underlying hT.key, hr]
    cases hl : m.lookup k with
    | some p =>
      rw [hl] at hm
      obtain ⟨j, rfl⟩ := hm
      simp
    | none =>
      rw [hl] at hm
      subst hm
      simp [zeroValue, typeInfo, hi, hiz]

/-- a new key -/
theorem OpJ.mapNew {T K E' : TypeId} {x y z : Operand} {b i p : Nat} {k : List UInt8} {m : List (List UInt8 × Nat)} (hT : MapT P T K E') (ho : o.op = .mapUpdate T x y z) (hd : o.dst = none) (hx : ev L x = some (.map (some b))) (hy : ev L y = some (strV k)) (hz : ev L z = some (.int .u16 p)) (hi : H[i]? = some (.mp (some b) (kvV m))) (hk : m.lookup k = none)
    (h : M L (H.set i (.mp (some b) (kvV (m ++ [(k, p)]))))) : OpJ P Q n w0 S o L H M :=
  OpJ.eff hd fun a w hE hI => by
    obtain ⟨es, clock, hb, hes⟩ := hI.hs _ (List.mem_of_getElem? hi)
    obtain ⟨r, hr, hm⟩ := findNow_str k es.toList m 0 hes
    rw [hk] at hm
    subst hm
    obtain ⟨mm, hck⟩ := checkKey_step false K (strV k)
    have hbl : b < w.heap.size := (Array.getElem?_eq_some_iff.1 hb).1
    have hgo : (getObj b).run P w = .ok (.map es clock) w := by simp [getObj, Sem.run, hb]
    have hso : ∀ ob, (setObj b ob).run P w = .ok () { w with heap := w.heap.setIfInBounds b ob } := fun ob => by simp [setObj, Sem.run, hb]
    have hcr : (Instr.checkKey false (mm + 1) K (strV k)).run P w = .ok () w := run_checkKey hT.key _ _ _ _
    refine ⟨{ w with heap := w.heap.setIfInBounds b (.map (es.push { key := strV k, val := .int .u16 p, born := clock }) (clock + 1)) }, _, ?_, hI.turn hi _ rfl rfl rfl (by simp) ?_ ?_ ?_, h⟩
    · simp only [execOp, ho, hE.eval hx, hE.eval hy, hE.eval hz, Instr.mapUpdate, run_underlying hT.und, Sem.run_bind, Result.andThen_ok, hgo, hck, hcr, Instr.findKey, run_underlying hT.key, hr, Sem.run_pure, hso]
    · intro b' _ hb'
      simp only [Array.getElem?_setIfInBounds]
      rw [if_neg (by simpa [Res.ats, eq_comm] using hb')]
    · refine ⟨es.push { key := strV k, val := .int .u16 p, born := clock }, clock + 1, by simp [hbl], ?_⟩
      simp [hes, kvV]
    · intro b' hb'
      exact .inl hb'

/-! ### arrays -/
theorem Yld.sliceArr {T e : TypeId} {x y z : Operand} {b off N lo hi : Nat} {k1 k2 : IntKind} (ho : o.op = .slice T x (some y) (some z) none) (hu : P.underlying T = some (.array N e)) (hz : (P.info? e).map (·.size) = some 1) (hx : ev L x = some (.pointer (some ⟨b, off, none⟩))) (hy : ev L y = some (.int k1 lo)) (hh : ev L z = some (.int k2 hi)) (h1 : lo ≤ hi) (h2 : hi ≤ N) (h3 : lo < N) :
    Yld P o n L I (.slice (some ⟨b, off + lo, none⟩) (hi - lo) (N - lo)) :=
  fun a w hE _ => by
    cases hq : P.info? e with
    | none => simp [hq] at hz
    | some t =>
      have ht : t.size = 1 := by simpa [hq] using hz
      have hne : ¬ N = lo := by omega
      simp [execOp, ho, hE.eval hx, hE.eval hy, hE.eval hh, Instr.sliceAt, run_underlying hu, Instr.sureAddr, Instr.sliceBounds, Instr.sliceBound, asIntOf, h1, h2, sizeOf, typeInfo, hq, ht, hne, addr_add]
theorem Yld.sliceArrTo {T e : TypeId} {x z : Operand} {b off N hi : Nat} {k2 : IntKind} (ho : o.op = .slice T x none (some z) none) (hu : P.underlying T = some (.array N e)) (hz : (P.info? e).map (·.size) = some 1) (hx : ev L x = some (.pointer (some ⟨b, off, none⟩))) (hh : ev L z = some (.int k2 hi)) (h2 : hi ≤ N) :
    Yld P o n L I (.slice (some ⟨b, off, none⟩) hi N) :=
  fun a w hE _ => by
    cases hq : P.info? e with
    | none => simp [hq] at hz
    | some t =>
      simp [execOp, ho, hE.eval hx, hE.eval hh, Instr.sliceAt, run_underlying hu, Instr.sureAddr, Instr.sliceBounds, Instr.sliceBound, asIntOf, h2, sizeOf, typeInfo, hq, addr_add]
theorem Yld.sliceArrAll {T e : TypeId} {x : Operand} {b off N : Nat} (ho : o.op = .slice T x none none none) (hu : P.underlying T = some (.array N e)) (hz : (P.info? e).map (·.size) = some 1) (hx : ev L x = some (.pointer (some ⟨b, off, none⟩))) :
    Yld P o n L I (.slice (some ⟨b, off, none⟩) N N) :=
  fun a w hE _ => by
    cases hq : P.info? e with
    | none => simp [hq] at hz
    | some t =>
      simp [execOp, ho, hE.eval hx, Instr.sliceAt, run_underlying hu, Instr.sureAddr, Instr.sliceBounds, sizeOf, typeInfo, hq, addr_add]

/-- s[lo:hi] of a slice -/
theorem Yld.sliceSl {T e : TypeId} {x y z : Operand} {b off l c lo hi : Nat} {k1 k2 : IntKind} (ho : o.op = .slice T x (some y) (some z) none) (hu : P.underlying T = some (.slice e)) (hz : (P.info? e).map (·.size) = some 1) (hx : ev L x = some (.slice (some ⟨b, off, none⟩) l c)) (hy : ev L y = some (.int k1 lo)) (hh : ev L z = some (.int k2 hi)) (h1 : lo ≤ hi) (h2 : hi ≤ c) (h3 : lo < c) :
    Yld P o n L I (.slice (some ⟨b, off + lo, none⟩) (hi - lo) (c - lo)) :=
  fun a w hE _ => by
    cases hq : P.info? e with
    | none => simp [hq] at hz
    | some t =>
      have ht : t.size = 1 := by simpa [hq] using hz
      have hne : ¬ c = lo := by omega
      simp [execOp, ho, hE.eval hx, hE.eval hy, hE.eval hh, Instr.sliceAt, Instr.slice, run_underlying hu, Instr.sliceBounds, Instr.sliceBound, asIntOf, h1, h2, sizeOf, typeInfo, hq, ht, hne, addr_add]

/-- s[lo:] of a text -/
theorem extract_str (s : ByteArray) (lo : Nat) : s.extract lo s.size = ⟨(s.data.toList.drop lo).toArray⟩ := by
  apply ByteArray.ext
  apply Array.ext'
  rw [ByteArray.data_extract, Array.toList_extract, List.extract_eq_take_drop]
  show List.take (s.data.size - lo) (List.drop lo s.data.toList) = List.drop lo s.data.toList
  exact List.take_of_length_le (by simp)
theorem Yld.sliceStr {T : TypeId} {x y : Operand} {s : ByteArray} {lo : Nat} {k1 : IntKind} (ho : o.op = .slice T x (some y) none none) (hu : P.underlying T = some .string) (hx : ev L x = some (.string s)) (hy : ev L y = some (.int k1 lo)) (h1 : lo ≤ s.size) :
    Yld P o n L I (strV (s.data.toList.drop lo)) :=
  fun a w hE _ => by
    simp [execOp, ho, hE.eval hx, hE.eval hy, Instr.sliceAt, Instr.slice, run_underlying hu, Instr.sliceBounds, Instr.sliceBound, asIntOf, h1, strV, extract_str]

/-- string(bytes) -/
theorem foldl_push (bs : List UInt8) : ∀ s : ByteArray, (bs.map fun b => (b.toNat : Int)).foldl (fun r n => r.push (UInt8.ofNat n.toNat)) s = ⟨s.data ++ bs.toArray⟩ := by
  induction bs with
  | nil => intro s; simp
  | cons x r ih =>
    intro s
    rw [List.map_cons, List.foldl_cons, ih]
    apply ByteArray.ext
    apply Array.ext'
    simp [ByteArray.push]
theorem run_bytes {w : World} {b off c : Nat} {bs : List UInt8} (h : Cells w b off (bytesV bs)) : (Conv.bytesToString (.slice (some ⟨b, off, none⟩) bs.length c)).run P w = .ok (strV bs) w := by
  have hl := run_loadCells_list (P := P) w ⟨b, off, none⟩ (bytesV bs) fun j v hj => by rw [addr_add]; exact h.cell j v hj
  have he : bytesV bs = (bs.map fun b => (b.toNat : Int)).map (Value.int .u8) := by simp [bytesV]
  rw [bytesV_len, he] at hl
  rw [run_bytesToString (P := P) w ⟨b, off, none⟩ bs.length c _ hl, foldl_push]
  have : ByteArray.empty.data ++ bs.toArray = bs.toArray := Array.empty_append
  rw [this]
  rfl
theorem Yld.bytesStr {A B e : TypeId} {x : Operand} {b off c ln : Nat} {bs : List UInt8} (hl : ln = bs.length) (ho : o.op = .convert A B x) (hA : P.underlying A = some (.slice e)) (he : P.underlying e = some (.int .u8)) (hB : P.underlying B = some .string) (hx : ev L x = some (.slice (some ⟨b, off, none⟩) ln c)) (hc : ∀ w, I w → Cells w b off (bytesV bs)) : Yld P o n L I (strV bs) :=
  fun a w hE hI => by
    subst hl
    simp [execOp, ho, hE.eval hx, convert, run_underlying hA, run_underlying hB, run_underlying he, run_bytes (hc w hI)]
theorem Yld.bytesStrV {A B e : TypeId} {x : Operand} {v : Value} {bs : List UInt8} (ho : o.op = .convert A B x) (hA : P.underlying A = some (.slice e)) (he : P.underlying e = some (.int .u8)) (hB : P.underlying B = some .string) (hx : ev L x = some v) (hc : ∀ w, I w → Bytes w v bs) : Yld P o n L I (strV bs) :=
  fun a w hE hI => by
    rcases hc w hI with ⟨p, c, rfl, rfl⟩ | ⟨b, off, c, rfl, hcc⟩
    · cases p with
      | none =>
        simp [execOp, ho, hE.eval hx, convert, run_underlying hA, run_underlying hB, run_underlying he, Conv.bytesToString, strV]
        rfl
      | some q =>
        have h := run_loadCells_list (P := P) w q [] (fun j v hj => by simp at hj)
        simp only [List.length_nil] at h
        simp [execOp, ho, hE.eval hx, convert, run_underlying hA, run_underlying hB, run_underlying he, Conv.bytesToString, strV, h]
        rfl
    · simp [execOp, ho, hE.eval hx, convert, run_underlying hA, run_underlying hB, run_underlying he, run_bytes hcc]
end
end Go.Proofs.YtdiememgbnplkaaDoor
