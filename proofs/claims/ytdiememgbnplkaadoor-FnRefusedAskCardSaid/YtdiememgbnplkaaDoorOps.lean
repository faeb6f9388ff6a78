/-
  What the quiet operations yield; what the others do to memory.
-/
import Derived.Test.YtdiememgbnplkaaDoorRules
namespace Go.Proofs.YtdiememgbnplkaaDoor
open Go

section
variable {P : Program} {Q : Exit → Act → World → Prop} {n : Nat} {w0 : World} {S : List Nat} {I : World → Prop} {o : Oper} {L : List (Nat × Value)} {H : List Res} {M : List (Nat × Value) → List Res → Prop}

theorem Yld.move {x : Operand} {v : Value} (ho : o.op = .move x) (hx : ev L x = some v) : Yld P o n L I v :=
  fun a w hE _ => by simp only [execOp, ho, hE.eval hx]; rfl
theorem Yld.assign {x : Operand} {v : Value} (ho : o.op = .assign x) (hx : ev L x = some v) : Yld P o n L I v :=
  fun a w hE _ => by simp only [execOp, ho, hE.eval hx]; rfl
theorem Yld.extract {x : Operand} {vs : Array Value} {i : Nat} {v : Value} (ho : o.op = .extract x i) (hx : ev L x = some (.tuple vs)) (hv : vs[i]? = some v) : Yld P o n L I v :=
  fun a w hE _ => by simp [execOp, ho, hE.eval hx, Instr.extract, hv]
theorem Yld.pickT {c x y : Operand} {v : Value} (ho : o.op = .pick c x y) (hc : ev L c = some (.bool true)) (hx : ev L x = some v) : Yld P o n L I v :=
  fun a w hE _ => by simp [execOp, ho, hE.eval hc, asBool, hE.eval hx]
theorem Yld.pickF {c x y : Operand} {v : Value} (ho : o.op = .pick c x y) (hc : ev L c = some (.bool false)) (hy : ev L y = some v) : Yld P o n L I v :=
  fun a w hE _ => by simp [execOp, ho, hE.eval hc, asBool, hE.eval hy]
theorem Yld.nilCheck {x : Operand} {p : Addr} (ho : o.op = .nilCheck x) (hx : ev L x = some (.pointer (some p))) : Yld P o n L I (.pointer (some p)) :=
  fun a w hE _ => by simp [execOp, ho, hE.eval hx]
theorem Yld.nilCheckF {x : Operand} {f : FuncId} {u v : Array Value} (ho : o.op = .nilCheck x) (hx : ev L x = some (.func (.func f) u v)) : Yld P o n L I (.func (.func f) u v) :=
  fun a w hE _ => by simp [execOp, ho, hE.eval hx]
theorem Yld.not {T : TypeId} {x : Operand} {b : Bool} (ho : o.op = .unOp .not T x) (hx : ev L x = some (.bool b)) : Yld P o n L I (.bool (!b)) :=
  fun a w hE _ => by simp [execOp, ho, hE.eval hx, Op.unary]

/-- a struct's field: where it lies -/
def FieldAt (P : Program) (T : TypeId) (f k : Nat) : Prop :=
  (match P.underlying T with
    | some (.struct fs) => (match fs[f]? with
      | some fl => (match P.info? fl.type with
        | some i => if i.size = 0 then none else some fl.offset
        | none => none)
      | none => none)
    | _ => none) = some k
theorem FieldAt.ex {P : Program} {T : TypeId} {f k : Nat} (h : FieldAt P T f k) : ∃ fs fl, P.underlying T = some (.struct fs) ∧ fs[f]? = some fl ∧ fl.offset = k ∧ ∃ i, P.info? fl.type = some i ∧ i.size ≠ 0 := by
  unfold FieldAt at h
  split at h
  · rename_i fs hfs
    split at h
    · rename_i fl hfl
      split at h
      · rename_i i hi
        split at h
        · cases h
        · rename_i hz
          simp at h
          exact ⟨fs, fl, hfs, hfl, h, i, hi, hz⟩
      · cases h
    · cases h
  · cases h

theorem addr_add (b off k : Nat) : (⟨b, off, none⟩ : Addr).add k = ⟨b, off + k, none⟩ := by
  unfold Addr.add
  split
  · subst_vars; rfl
  · rfl

theorem Yld.fieldAddr {T : TypeId} {x : Operand} {f k b off : Nat} (hf : FieldAt P T f k) (ho : o.op = .fieldAddr T x f) (hx : ev L x = some (.pointer (some ⟨b, off, none⟩))) : Yld P o n L I (.pointer (some ⟨b, off + k, none⟩)) :=
  fun a w hE _ => by
    obtain ⟨fs, fl, h1, h2, rfl, i, h3, h4⟩ := hf.ex
    simp [execOp, ho, hE.eval hx, Instr.fieldAt, run_underlying h1, h2, Instr.sureAddr, fieldPlace, sizeOf, typeInfo, h3, h4, addr_add]

theorem Yld.lenString {xs : Array Operand} {ats : Array TypeId} {x : Operand} {T : TypeId} {s : ByteArray} (ho : o.op = .call ⟨.builtin .len, xs, ats⟩) (h1 : xs = #[x]) (h2 : ats = #[T]) (hu : P.underlying T = some .string) (hx : ev L x = some (.string s)) : Yld P o n L I (.int .i64 s.size) :=
  fun a w hE _ => by simp [execOp, ho, h1, h2, resolve, invoke, builtin, hE.eval hx, Builtin.len_, run_underlying hu, goInt]
theorem Yld.lenSlice {xs : Array Operand} {ats : Array TypeId} {x : Operand} {T e : TypeId} {p : Option Addr} {l c : Nat} (ho : o.op = .call ⟨.builtin .len, xs, ats⟩) (h1 : xs = #[x]) (h2 : ats = #[T]) (hu : P.underlying T = some (.slice e)) (hx : ev L x = some (.slice p l c)) : Yld P o n L I (.int .i64 l) :=
  fun a w hE _ => by simp [execOp, ho, h1, h2, resolve, invoke, builtin, hE.eval hx, Builtin.len_, run_underlying hu, goInt]

/-- two integers of one kind -/
def intBin : BinOp → IntKind → Int → Int → Option Value
  | .add, k, x, y => some (.int k (k.wrap (x + y)))
  | .sub, k, x, y => some (.int k (k.wrap (x - y)))
  | .mul, k, x, y => some (.int k (k.wrap (x * y)))
  | .and, k, x, y => some (.int k (k.wrap (BitVec.ofInt k.bits x &&& BitVec.ofInt k.bits y).toNat))
  | .or, k, x, y => some (.int k (k.wrap (BitVec.ofInt k.bits x ||| BitVec.ofInt k.bits y).toNat))
  | .andNot, k, x, y => some (.int k (k.wrap (BitVec.ofInt k.bits x &&& ~~~BitVec.ofInt k.bits y).toNat))
  | .eql, _, x, y => some (.bool (x == y))
  | .neq, _, x, y => some (.bool (x != y))
  | .lss, _, x, y => some (.bool (decide (x < y)))
  | .leq, _, x, y => some (.bool (decide (x ≤ y)))
  | .gtr, _, x, y => some (.bool (decide (x > y)))
  | .geq, _, x, y => some (.bool (decide (x ≥ y)))
  | _, _, _, _ => none

theorem Yld.intBin {op : BinOp} {T T2 : TypeId} {x y : Operand} {k : IntKind} {p q : Int} {v : Value} (ho : o.op = .binOp op T x y T2) (hx : ev L x = some (.int k p)) (hy : ev L y = some (.int k q)) (hv : intBin op k p q = some v) : Yld P o n L I v :=
  fun a w hE _ => by
    simp only [execOp, ho, hE.eval hx, hE.eval hy]
    cases op <;> simp only [Proofs.YtdiememgbnplkaaDoor.intBin, Option.some.injEq, reduceCtorEq] at hv <;> subst hv <;>
      simp [eqGuard, binOp, Op.intArith, Op.intBits, Op.intCmp]

theorem Yld.shr {T T2 : TypeId} {x y : Operand} {k k2 : IntKind} {p q : Int} (ho : o.op = .binOp .shr T x y T2) (hx : ev L x = some (.int k p)) (hy : ev L y = some (.int k2 q)) (hq : decide (0 ≤ q) = true) : Yld P o n L I (.int k (p.fdiv (2 ^ min q.toNat k.bits))) :=
  fun a w hE _ => by
    simp only [execOp, ho, hE.eval hx, hE.eval hy]
    have : ¬ (q < 0) := by have := of_decide_eq_true hq; omega
    simp [eqGuard, binOp, Op.shift, this]
theorem Yld.shl {T T2 : TypeId} {x y : Operand} {k k2 : IntKind} {p q : Int} (ho : o.op = .binOp .shl T x y T2) (hx : ev L x = some (.int k p)) (hy : ev L y = some (.int k2 q)) (hq : decide (0 ≤ q) = true) : Yld P o n L I (.int k (k.wrap (p * 2 ^ min q.toNat k.bits))) :=
  fun a w hE _ => by
    simp only [execOp, ho, hE.eval hx, hE.eval hy]
    have : ¬ (q < 0) := by have := of_decide_eq_true hq; omega
    simp [eqGuard, binOp, Op.shift, this]

theorem Yld.strEq {T T2 : TypeId} {x y : Operand} {s t : ByteArray} (ho : o.op = .binOp .eql T x y T2) (hx : ev L x = some (.string s)) (hy : ev L y = some (.string t)) : Yld P o n L I (.bool (s.toList == t.toList)) :=
  fun a w hE _ => by
    simp only [execOp, ho, hE.eval hx, hE.eval hy]
    simp [eqGuard, binOp, Op.stringOp]
theorem equal_step (t : TypeId) (x y : Value) : ∃ d, Op.equal t x y = Op.equalIn (d + 1) t x y := ⟨9999, rfl⟩
theorem Yld.boolEq {T T2 : TypeId} {x y : Operand} {s t : Bool} (ho : o.op = .binOp .eql T x y T2) (hu : P.underlying T = some .bool) (hx : ev L x = some (.bool s)) (hy : ev L y = some (.bool t)) : Yld P o n L I (.bool (s == t)) :=
  fun a w hE _ => by
    simp only [execOp, ho, hE.eval hx, hE.eval hy]
    obtain ⟨d, hd⟩ := equal_step T (.bool s) (.bool t)
    simp [eqGuard, binOp, hd, Op.equalIn, run_underlying hu]
theorem Yld.boolNe {T T2 : TypeId} {x y : Operand} {s t : Bool} (ho : o.op = .binOp .neq T x y T2) (hu : P.underlying T = some .bool) (hx : ev L x = some (.bool s)) (hy : ev L y = some (.bool t)) : Yld P o n L I (.bool (!(s == t))) :=
  fun a w hE _ => by
    simp only [execOp, ho, hE.eval hx, hE.eval hy]
    obtain ⟨d, hd⟩ := equal_step T (.bool s) (.bool t)
    simp [eqGuard, binOp, hd, Op.equalIn, run_underlying hu]

/-- an interface value against the literal nil -/
def isNilI : Value → Option Bool
  | .nilIface => some true
  | .iface _ _ => some false
  | _ => none
theorem Yld.ifaceEqNil {T T2 : TypeId} {x : Operand} {v : Value} {b : Bool} {ms : Array (String × TypeId)} (ho : o.op = .binOp .eql T x (.const .nilIface) T2) (hu : P.underlying T = some (.interface ms)) (hx : ev L x = some v) (hb : isNilI v = some b) : Yld P o n L I (.bool b) :=
  fun a w hE _ => by
    have he : a.eval (.const .nilIface) = .nilIface := rfl
    simp only [execOp, ho, hE.eval hx, he]
    obtain ⟨d, hd⟩ := equal_step T v .nilIface
    cases v <;> simp only [isNilI, Option.some.injEq, reduceCtorEq] at hb <;> subst hb <;> simp [eqGuard, binOp, hd, Op.equalIn, run_underlying hu]
theorem Yld.ifaceNeNil {T T2 : TypeId} {x : Operand} {v : Value} {b : Bool} {ms : Array (String × TypeId)} (ho : o.op = .binOp .neq T x (.const .nilIface) T2) (hu : P.underlying T = some (.interface ms)) (hx : ev L x = some v) (hb : isNilI v = some b) : Yld P o n L I (.bool (!b)) :=
  fun a w hE _ => by
    have he : a.eval (.const .nilIface) = .nilIface := rfl
    simp only [execOp, ho, hE.eval hx, he]
    obtain ⟨d, hd⟩ := equal_step T v .nilIface
    cases v <;> simp only [isNilI, Option.some.injEq, reduceCtorEq] at hb <;> subst hb <;> simp [eqGuard, binOp, hd, Op.equalIn, run_underlying hu]
theorem Yld.mapNeNil {T T2 k e : TypeId} {x : Operand} {r : Option Nat} (ho : o.op = .binOp .neq T x (.const (.map none)) T2) (hu : P.underlying T = some (.map k e)) (hx : ev L x = some (.map r)) : Yld P o n L I (.bool r.isSome) :=
  fun a w hE _ => by
    have he : a.eval (.const (.map none)) = .map none := rfl
    simp only [execOp, ho, hE.eval hx, he]
    obtain ⟨d, hd⟩ := equal_step T (.map r) (.map none)
    cases r <;> simp [eqGuard, binOp, hd, Op.equalIn, run_underlying hu]
theorem Yld.sliceEqNil {T T2 e : TypeId} {x : Operand} {p : Option Addr} {l c : Nat} (ho : o.op = .binOp .eql T x (.const (.slice none 0 0)) T2) (hu : P.underlying T = some (.slice e)) (hx : ev L x = some (.slice p l c)) : Yld P o n L I (.bool p.isNone) :=
  fun a w hE _ => by
    have he : a.eval (.const (.slice none 0 0)) = .slice none 0 0 := rfl
    simp only [execOp, ho, hE.eval hx, he]
    obtain ⟨d, hd⟩ := equal_step T (.slice p l c) (.slice none 0 0)
    cases p <;> simp [eqGuard, binOp, hd, Op.equalIn, run_underlying hu]

theorem Yld.convInt {src dst : TypeId} {x : Operand} {k k2 : IntKind} {p : Int} {d : TypeDesc} (ho : o.op = .convert src dst x) (hs : P.underlying src = some d) (hu : P.underlying dst = some (.int k2)) (hx : ev L x = some (.int k p)) : Yld P o n L I (.int k2 (k2.wrap p)) :=
  fun a w hE _ => by simp [execOp, ho, hE.eval hx, convert, run_underlying hs, run_underlying hu, Conv.intToInt]

theorem Yld.makeInterface {T : TypeId} {x : Operand} {v : Value} {d : TypeDesc} (ho : o.op = .makeInterface T x) (hu : P.underlying T = some d) (hd : (match d with | .interface _ => false | _ => true) = true) (hx : ev L x = some v) : Yld P o n L I (.iface T v) :=
  fun a w hE _ => by
    simp only [execOp, ho, hE.eval hx]
    cases d <;> simp_all [Instr.makeInterface, run_underlying hu]

theorem Yld.index {T : TypeId} {x y : Operand} {s : ByteArray} {k : IntKind} {i : Nat} {b : UInt8} (ho : o.op = .index T x y) (hu : P.underlying T = some .string) (hx : ev L x = some (.string s)) (hy : ev L y = some (.int k i)) (hb : s.data.toList[i]? = some b) : Yld P o n L I (.int .u8 b.toNat) :=
  fun a w hE _ => by
    have hi : i < s.size := by
      have := (List.getElem?_eq_some_iff.1 hb).1
      simpa using this
    have hb' : s[i] = b := by
      have := (List.getElem?_eq_some_iff.1 hb).2
      simp only [Array.getElem_toList] at this
      exact this
    simp [execOp, ho, hE.eval hx, hE.eval hy, Instr.index, asIntOf, run_underlying hu, hi, hb']

/-- the cells of a slice's element i -/
theorem Yld.indexAddr {T e : TypeId} {x y : Operand} {b off l c : Nat} {k : IntKind} {i sz : Nat} (ho : o.op = .indexAddr T x y) (hu : P.underlying T = some (.slice e)) (hz : (P.info? e).map (·.size) = some sz) (hx : ev L x = some (.slice (some ⟨b, off, none⟩) l c)) (hy : ev L y = some (.int k i)) (hi : i < l) :
    Yld P o n L I (.pointer (some ⟨b, off + i * sz, none⟩)) :=
  fun a w hE _ => by
    cases hq : P.info? e with
    | none => simp [hq] at hz
    | some t =>
      have ht : t.size = sz := by simpa [hq] using hz
      simp [execOp, ho, hE.eval hx, hE.eval hy, Instr.indexAt, asIntOf, run_underlying hu, hi, sizeOf, typeInfo, hq, ht, addr_add]
theorem Yld.indexAddrArr {T e : TypeId} {x y : Operand} {b off l : Nat} {k : IntKind} {i sz : Nat} (ho : o.op = .indexAddr T x y) (hu : P.underlying T = some (.array l e)) (hz : (P.info? e).map (·.size) = some sz) (hx : ev L x = some (.pointer (some ⟨b, off, none⟩))) (hy : ev L y = some (.int k i)) (hi : i < l) :
    Yld P o n L I (.pointer (some ⟨b, off + i * sz, none⟩)) :=
  fun a w hE _ => by
    cases hq : P.info? e with
    | none => simp [hq] at hz
    | some t =>
      have ht : t.size = sz := by simpa [hq] using hz
      simp [execOp, ho, hE.eval hx, hE.eval hy, Instr.indexAt, asIntOf, run_underlying hu, hi, sizeOf, typeInfo, hq, ht, addr_add, Instr.sureAddr]

/-! ### reading memory -/
/-- the k cells at (b, off) hold vs -/
def Cells (w : World) (b off : Nat) (vs : List Value) : Prop := ∃ c T fr, w.heap[b]? = some (.cells c T fr) ∧ off + vs.length ≤ c.size ∧ (c.toList.drop off).take vs.length = vs

theorem Cells.cell {w : World} {b off : Nat} {vs : List Value} (h : Cells w b off vs) (j : Nat) (v : Value) (hj : vs[j]? = some v) : w.cell? ⟨b, off + j, none⟩ = some v := by
  obtain ⟨c, T, fr, hb, hl, hv⟩ := h
  have hjl : j < vs.length := (List.getElem?_eq_some_iff.1 hj).1
  have h1 : c[off + j]? = some v := by
    rw [← hv, List.getElem?_take, if_pos hjl, List.getElem?_drop] at hj
    simpa using hj
  simp [World.cell?, hb, h1]

theorem Cells.congr {w w' : World} {b off : Nat} {vs : List Value} (h : Cells w b off vs) (hb : w'.heap[b]? = w.heap[b]?) : Cells w' b off vs := by
  obtain ⟨c, T, fr, h1, h2⟩ := h
  exact ⟨c, T, fr, hb.trans h1, h2⟩

theorem Cells.lt {w : World} {b off : Nat} {vs : List Value} (h : Cells w b off vs) : b < w.heap.size := by
  obtain ⟨c, T, fr, hb, _⟩ := h
  exact (Array.getElem?_eq_some_iff.1 hb).1

theorem Cells.keep {w w' : World} {S : List Nat} {b off : Nat} {vs : List Value} (h : Cells w b off vs) (hk : Keep S w w') (hS : b ∉ S) : Cells w' b off vs :=
  h.congr (hk.block b h.lt hS)

theorem Cells.part {w : World} {b off : Nat} {vs us : List Value} {k : Nat} (h : Cells w b off vs) (hu : (vs.drop k).take us.length = us) (hk : k + us.length ≤ vs.length) : Cells w b (off + k) us := by
  obtain ⟨c, T, fr, hb, hl, hv⟩ := h
  refine ⟨c, T, fr, hb, by omega, ?_⟩
  rw [← hu, ← hv]
  have h1 : min us.length (min vs.length (c.toList.length - off) - k) = us.length := by
    simp only [Array.length_toList]; omega
  apply List.ext_getElem?
  intro j
  simp only [List.getElem?_take, List.getElem?_drop, List.length_take, List.length_drop, h1]
  by_cases hj : j < us.length
  · have h2 : k + j < vs.length := by omega
    simp [hj, h2, Nat.add_assoc]
  · simp [hj]

theorem Cells.one {w : World} {b off k : Nat} {vs : List Value} {v : Value} (h : Cells w b off vs) (hk : vs[k]? = some v) : Cells w b (off + k * 1) [v] := by
  have hl := List.getElem?_eq_some_iff.1 hk
  rw [Nat.mul_one]
  refine h.part (k := k) ?_ (by have := hl.1; simp only [List.length_cons, List.length_nil]; omega)
  rw [List.drop_eq_getElem_cons hl.1]
  simp [hl.2]

theorem Yld.load1 {T : TypeId} {x : Operand} {b off : Nat} {v : Value} {d : TypeDesc} (ho : o.op = .load T x) (hu : P.underlying T = some d) (hd : (match d with | .struct _ | .array _ _ => false | _ => true) = true) (hx : ev L x = some (.pointer (some ⟨b, off, none⟩)))
    (hc : ∀ w, I w → Cells w b off [v]) : Yld P o n L I v :=
  fun a w hE hI => by
    have h := (hc w hI).cell 0 v rfl
    simp only [Nat.add_zero] at h
    simp only [execOp, ho, hE.eval hx]
    cases d <;> simp_all [Instr.loadAt, Instr.sureAddr, loadVar, isAgg, run_underlying hu]

theorem Yld.loadN {T : TypeId} {x : Operand} {b off : Nat} {vs : List Value} {d : TypeDesc} (ho : o.op = .load T x) (hu : P.underlying T = some d) (hd : (match d with | .struct _ | .array _ _ => true | _ => false) = true) (hz : (P.info? T).map (·.size) = some vs.length) (hx : ev L x = some (.pointer (some ⟨b, off, none⟩)))
    (hc : ∀ w, I w → Cells w b off vs) : Yld P o n L I (.agg vs.toArray) :=
  fun a w hE hI => by
    have h := run_loadCells_list (P := P) w ⟨b, off, none⟩ vs fun j v hj => by rw [addr_add]; exact (hc w hI).cell j v hj
    cases hq : P.info? T with
    | none => simp [hq] at hz
    | some t =>
      have ht : t.size = vs.length := by simpa [hq] using hz
      simp only [execOp, ho, hE.eval hx]
      cases d <;> simp_all [Instr.loadAt, Instr.sureAddr, loadVar, isAgg, run_underlying hu, sizeOf, typeInfo]

theorem Inv.cells {w : World} (h : Inv w0 S H w) {i b : Nat} {cs : Array Value} {T : TypeId} (hi : H[i]? = some (.blk b cs T)) {off : Nat} {vs : List Value} (hv : (cs.toList.drop off).take vs.length = vs) (hl : off + vs.length ≤ cs.size) : Cells w b off vs :=
  ⟨cs, T, (0, 0), h.hs _ (List.mem_of_getElem? hi), hl, hv⟩
theorem Inv.cell1 {w : World} (h : Inv w0 S H w) {i b : Nat} {cs : Array Value} {T : TypeId} (hi : H[i]? = some (.blk b cs T)) {off : Nat} {v : Value} (hv : cs[off]? = some v) : Cells w b off [v] := by
  have hl := (Array.getElem?_eq_some_iff.1 hv)
  refine h.cells hi ?_ (by have := hl.1; simp only [List.length_cons, List.length_nil]; omega)
  have : off < cs.toList.length := by simpa using hl.1
  rw [List.drop_eq_getElem_cons this]
  simpa using hl.2
/-- memory that was there when the call began, and is none of its own -/
theorem Inv.old {w : World} (h : Inv w0 S H w) {b off : Nat} {vs : List Value} (hc : Cells w0 b off vs) (hb : b ∉ S) : Cells w b off vs := hc.keep h.keep hb
end
end Go.Proofs.YtdiememgbnplkaaDoor
