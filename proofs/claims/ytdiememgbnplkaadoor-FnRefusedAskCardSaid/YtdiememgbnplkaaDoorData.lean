/-
  How messages lie in memory, to be read.
-/
import Derived.Test.YtdiememgbnplkaaDoorSpecB
namespace Go.Proofs.YtdiememgbnplkaaDoor
open Go

/-- a slice of m elements of sz cells that can be read; xs: their cells -/
def Row (w : World) (sz : Nat) (v : Value) (m : Nat) (xs : List Value) : Prop :=
  (∃ p c, v = .slice p 0 c ∧ m = 0 ∧ xs = []) ∨ ∃ b off c, v = .slice (some ⟨b, off, none⟩) m c ∧ xs.length = m * sz ∧ Cells w b off xs

theorem Row.shape {w : World} {sz m : Nat} {v : Value} {xs : List Value} (h : Row w sz v m xs) : ∃ p c, v = .slice p m c := by
  rcases h with ⟨p, c, rfl, rfl, rfl⟩ | ⟨b, off, c, rfl, _⟩
  · exact ⟨_, _, rfl⟩
  · exact ⟨_, _, rfl⟩
theorem Row.keep {w w' : World} {sz m : Nat} {v : Value} {xs : List Value} (h : Row w sz v m xs) {S : List Nat} (hk : Keep S w w') (hb : ∀ b ∈ blkOf v, b ∉ S) : Row w' sz v m xs := by
  rcases h with h | ⟨b, off, c, rfl, hl, hc⟩
  · exact .inl h
  · exact .inr ⟨b, off, c, rfl, hl, hc.keep hk (hb b (by simp [blkOf]))⟩
theorem Row.congr {w w' : World} {sz m : Nat} {v : Value} {xs : List Value} (h : Row w sz v m xs) (hb : ∀ b ∈ blkOf v, w'.heap[b]? = w.heap[b]?) : Row w' sz v m xs := by
  rcases h with h | ⟨b, off, c, rfl, hl, hc⟩
  · exact .inl h
  · exact .inr ⟨b, off, c, rfl, hl, hc.congr (hb b (by simp [blkOf]))⟩
theorem Row.len {w : World} {sz m : Nat} {v : Value} {xs : List Value} (h : Row w sz v m xs) : xs.length = m * sz := by
  rcases h with ⟨p, c, rfl, rfl, rfl⟩ | ⟨b, off, c, rfl, hl, _⟩
  · simp
  · exact hl
theorem Own.row {w : World} {T sz m : Nat} {v : Value} {xs : List Value} (h : Own w T sz v m xs) : Row w sz v m xs := by
  rcases h with ⟨rfl, rfl, rfl⟩ | ⟨b, cap, c, rfl, hb, hn, hc, hlen, hx⟩
  · exact .inl ⟨none, 0, rfl, rfl, rfl⟩
  · exact .inr ⟨b, 0, cap, rfl, hlen, c, T, (0, 0), hb, by rw [hlen, hc]; simpa using Nat.mul_le_mul_right sz hn, by simp [hlen, ← hx]⟩
/-- the address of element i, and what it holds -/
theorem Row.at {w : World} {sz m : Nat} {v : Value} {xss : List (List Value)} (h : Row w sz v m xss.flatten) (hz : ∀ x ∈ xss, x.length = sz) (hm : m = xss.length) {i : Nat} (hi : i < m) :
    ∃ b off c, v = .slice (some ⟨b, off, none⟩) m c ∧ ∀ x, xss[i]? = some x → Cells w b (off + i * sz) x := by
  rcases h with ⟨p, c, rfl, rfl, _⟩ | ⟨b, off, c, rfl, hl, hc⟩
  · omega
  · refine ⟨b, off, c, rfl, fun x hx => ?_⟩
    have hlen : ∀ (l : List (List Value)), (∀ x ∈ l, x.length = sz) → l.flatten.length = l.length * sz := by
      intro l
      induction l with
      | nil => intro _; simp
      | cons y r ih =>
        intro h
        have h1 := h y (by simp)
        have h2 := ih fun z hz => h z (by simp [hz])
        simp only [List.flatten_cons, List.length_append, List.length_cons, h1, h2, Nat.add_mul]
        omega
    have hil := (List.getElem?_eq_some_iff.1 hx).1
    have hxl : x.length = sz := hz x (List.mem_of_getElem? hx)
    have h1 : (xss.take i).flatten.length = i * sz := by
      rw [hlen _ fun y hy => hz y (List.mem_of_mem_take hy), List.length_take, Nat.min_eq_left (by omega)]
    have hsplit : xss.flatten = (xss.take i).flatten ++ (x ++ (xss.drop (i + 1)).flatten) := by
      conv => lhs; rw [← List.take_append_drop i xss]
      rw [List.flatten_append]
      congr 1
      rw [List.drop_eq_getElem_cons hil, List.flatten_cons]
      congr 1
      exact (List.getElem?_eq_some_iff.1 hx).2
    refine hc.part (k := i * sz) ?_ ?_
    · rw [hsplit, ← h1, List.drop_left' rfl]
      simp
    · rw [hlen _ hz, hxl]
      have : (i + 1) * sz ≤ xss.length * sz := Nat.mul_le_mul_right sz (by omega)
      rw [Nat.add_mul] at this
      omega

theorem Row.keep0 {w w' : World} {sz m : Nat} {v : Value} {xs : List Value} (h : Row w sz v m xs) (hk : Keep [] w w') : Row w' sz v m xs := h.keep hk (by simp)

/-- integers -/
def Ints (w : World) (v : Value) (ns : List Nat) : Prop := Row w 1 v ns.length (ns.map fun k => Value.int .i64 (k : Nat))

/-! ### questions -/
structure AskD where
  name : ByteArray
  typ : Nat
  cls : Nat
def AskD.wf (a : AskD) : Prop := a.typ < 65536 ∧ a.cls < 65536 ∧ a.name.size ≤ 140737488351232
def AskD.cells (a : AskD) : List Value := [.string a.name, .int .u16 a.typ, .int .u16 a.cls]
def AskD.val (a : AskD) : Value := .agg #[.string a.name, .int .u16 a.typ, .int .u16 a.cls]
def Asks (w : World) (v : Value) (qs : List AskD) : Prop := Row w 3 v qs.length (qs.map AskD.cells).flatten
def askWire (a : AskD) : List UInt8 := wire a.name.data.toList ++ be16 a.typ ++ be16 a.cls

/-! ### records -/
structure PairD where
  key : Nat
  dataV : Value
  data : List UInt8
def PairD.cells (p : PairD) : List Value := [.int .u16 p.key, p.dataV]
structure RecD where
  name : ByteArray
  typ : Nat
  cls : Nat
  ttl : Nat
  len : Nat
  kind : Int
  dataV : Value
  data : List UInt8
  host : ByteArray
  box : ByteArray
  n1 : Nat
  n2 : Nat
  n3 : Nat
  n4 : Nat
  n5 : Nat
  textsV : Value
  texts : List ByteArray
  pairsV : Value
  pairs : List PairD
structure RecD.wf (r : RecD) : Prop where
  typ : r.typ < 65536
  cls : r.cls < 65536
  ttl : r.ttl < 4294967296
  len : r.len < 65536
  n1 : r.n1 < 4294967296
  n2 : r.n2 < 4294967296
  n3 : r.n3 < 4294967296
  n4 : r.n4 < 4294967296
  n5 : r.n5 < 4294967296
  name : r.name.size ≤ 140737488351232
  host : r.host.size ≤ 140737488351232
  box : r.box.size ≤ 140737488351232
  data : r.data.length ≤ 140737488351232
  texts : r.texts.length * 16 ≤ 140737488351232
  text : ∀ s ∈ r.texts, s.size ≤ 140737488351232
  pairs : r.pairs.length * 32 ≤ 140737488351232
  pair : ∀ p ∈ r.pairs, p.key < 65536 ∧ p.data.length ≤ 140737488351232
def RecD.cells (r : RecD) : List Value := [.string r.name, .int .u16 r.typ, .int .u16 r.cls, .int .u32 r.ttl, .int .u16 r.len, .int .i64 r.kind, r.dataV, .string r.host, .string r.box, .int .u32 r.n1, .int .u32 r.n2, .int .u32 r.n3, .int .u32 r.n4, .int .u32 r.n5, r.textsV, r.pairsV]
def RecD.val (r : RecD) : Value := .agg r.cells.toArray
def Pairs (w : World) (v : Value) (ps : List PairD) : Prop := Row w 2 v ps.length (ps.map PairD.cells).flatten
/-- what a record leads to -/
structure RecOk (w : World) (r : RecD) : Prop where
  data : Bytes w r.dataV r.data
  texts : Row w 1 r.textsV r.texts.length (r.texts.map Value.string)
  pairs : Pairs w r.pairsV r.pairs
  pdata : ∀ p ∈ r.pairs, Bytes w p.dataV p.data
theorem RecOk.keep0 {w w' : World} {r : RecD} (h : RecOk w r) (hk : Keep [] w w') : RecOk w' r :=
  ⟨h.data.keep hk (by simp), h.texts.keep0 hk, h.pairs.keep0 hk, fun p hp => (h.pdata p hp).keep hk (by simp)⟩
theorem RecOk.one {w : World} {r : RecD} (h : RecOk w r) : oneCells (Value.agg r.cells.toArray).cells.toList = true := by
  obtain ⟨p1, c1, h1⟩ := h.data.shape
  obtain ⟨p2, c2, h2⟩ := h.texts.shape
  obtain ⟨p3, c3, h3⟩ := h.pairs.shape
  simp [oneCells, Value.cells, RecD.cells, h1, h2, h3, Value.oneCell']
def Recs (w : World) (v : Value) (rs : List RecD) : Prop := Row w 16 v rs.length (rs.map RecD.cells).flatten ∧ ∀ r ∈ rs, RecOk w r
theorem Recs.keep0 {w w' : World} {v : Value} {rs : List RecD} (h : Recs w v rs) (hk : Keep [] w w') : Recs w' v rs := ⟨h.1.keep0 hk, fun r hr => (h.2 r hr).keep0 hk⟩

/-! ### messages -/
structure MsgD where
  head : Hd
  asksV : Value
  asks : List AskD
  oneV : Value
  one : List RecD
  twoV : Value
  two : List RecD
  threeV : Value
  three : List RecD
def headC (h : Hd) : List Value := [.int .u16 h.id, .bool h.qr, .int .u16 h.op, .bool h.aa, .bool h.tc, .bool h.rd, .bool h.ra, .bool h.ad, .bool h.cd, .int .u16 h.code]
def MsgD.cells (m : MsgD) : List Value := [.int .u16 m.head.id, .bool m.head.qr, .int .u16 m.head.op, .bool m.head.aa, .bool m.head.tc, .bool m.head.rd, .bool m.head.ra, .bool m.head.ad, .bool m.head.cd, .int .u16 m.head.code, m.asksV, m.oneV, m.twoV, m.threeV]
def MsgD.val (m : MsgD) : Value := .agg m.cells.toArray
structure MsgOk (w : World) (m : MsgD) : Prop where
  asks : Asks w m.asksV m.asks
  one : Recs w m.oneV m.one
  two : Recs w m.twoV m.two
  three : Recs w m.threeV m.three
theorem MsgOk.keep0 {w w' : World} {m : MsgD} (h : MsgOk w m) (hk : Keep [] w w') : MsgOk w' m := ⟨Row.keep0 h.asks hk, h.one.keep0 hk, h.two.keep0 hk, h.three.keep0 hk⟩
end Go.Proofs.YtdiememgbnplkaaDoor
