/-
  A law's arguments: headers, questions, records, and slices of them.
-/
import Derived.Test.YtdiememgbnplkaaDoorArgs
import Derived.Test.YtdiememgbnplkaaDoorDnsJ
namespace Go.Proofs.YtdiememgbnplkaaDoor
open Go Go.ChangeShapes Go.WideShapes Go.ChangeAt Go.RowKit Go.Deep
set_option maxRecDepth 100000

section
variable {H : Type} {enc : TypeId × Value → H} {w : World} {n : Nat} {cs : List Value} {d : DataW H}

theorem openHead (h : Rd enc Tryd.prog w n 24 cs d) : ∃ x : Hd, cs = hdCs x ∧ x.wf := by
  obtain ⟨hlen, n', hf⟩ := h.struct Tryd.underlying24 (by kernel_rfl) (by kernel_rfl)
  match cs, hlen with
  | [c0, c1, c2, c3, c4, c5, c6, c7, c8, c9], _ =>
    obtain ⟨d0, h0⟩ := hf 0 _ _ rfl rfl
    obtain ⟨x0, e0, l0⟩ := h0.u16 Tryd.underlying22
    obtain ⟨rfl, _⟩ := List.cons.inj e0
    obtain ⟨d1, h1⟩ := hf 1 _ _ rfl rfl
    obtain ⟨x1, e1⟩ := h1.bool Tryd.underlying4
    obtain ⟨rfl, _⟩ := List.cons.inj e1
    obtain ⟨d2, h2⟩ := hf 2 _ _ rfl rfl
    obtain ⟨x2, e2, l2⟩ := h2.u16 Tryd.underlying22
    obtain ⟨rfl, _⟩ := List.cons.inj e2
    obtain ⟨d3, h3⟩ := hf 3 _ _ rfl rfl
    obtain ⟨x3, e3⟩ := h3.bool Tryd.underlying4
    obtain ⟨rfl, _⟩ := List.cons.inj e3
    obtain ⟨d4, h4⟩ := hf 4 _ _ rfl rfl
    obtain ⟨x4, e4⟩ := h4.bool Tryd.underlying4
    obtain ⟨rfl, _⟩ := List.cons.inj e4
    obtain ⟨d5, h5⟩ := hf 5 _ _ rfl rfl
    obtain ⟨x5, e5⟩ := h5.bool Tryd.underlying4
    obtain ⟨rfl, _⟩ := List.cons.inj e5
    obtain ⟨d6, h6⟩ := hf 6 _ _ rfl rfl
    obtain ⟨x6, e6⟩ := h6.bool Tryd.underlying4
    obtain ⟨rfl, _⟩ := List.cons.inj e6
    obtain ⟨d7, h7⟩ := hf 7 _ _ rfl rfl
    obtain ⟨x7, e7⟩ := h7.bool Tryd.underlying4
    obtain ⟨rfl, _⟩ := List.cons.inj e7
    obtain ⟨d8, h8⟩ := hf 8 _ _ rfl rfl
    obtain ⟨x8, e8⟩ := h8.bool Tryd.underlying4
    obtain ⟨rfl, _⟩ := List.cons.inj e8
    obtain ⟨d9, h9⟩ := hf 9 _ _ rfl rfl
    obtain ⟨x9, e9, l9⟩ := h9.u16 Tryd.underlying22
    obtain ⟨rfl, _⟩ := List.cons.inj e9
    exact ⟨⟨x0, x1, x2, x3, x4, x5, x6, x7, x8, x9⟩, rfl, l0, l2, l9⟩
theorem openAsk (h : Rd enc Tryd.prog w n 41 cs d) : ∃ a : AskD, cs = a.cells ∧ a.wf := by
  obtain ⟨hlen, n', hf⟩ := h.struct Tryd.underlying41 (by kernel_rfl) (by kernel_rfl)
  match cs, hlen with
  | [c0, c1, c2], _ =>
    obtain ⟨d0, h0⟩ := hf 0 _ _ rfl rfl
    obtain ⟨x0, e0, l0⟩ := h0.string Tryd.underlying9
    obtain ⟨rfl, _⟩ := List.cons.inj e0
    obtain ⟨d1, h1⟩ := hf 1 _ _ rfl rfl
    obtain ⟨x1, e1, l1⟩ := h1.u16 Tryd.underlying22
    obtain ⟨rfl, _⟩ := List.cons.inj e1
    obtain ⟨d2, h2⟩ := hf 2 _ _ rfl rfl
    obtain ⟨x2, e2, l2⟩ := h2.u16 Tryd.underlying22
    obtain ⟨rfl, _⟩ := List.cons.inj e2
    exact ⟨⟨x0, x1, x2⟩, rfl, l1, l2, l0⟩
theorem openAsks {v : Value} (h : Rd enc Tryd.prog w n 25 [v] d) : ∃ qs : List AskD, Asks w v qs ∧ qs.length * 24 ≤ 140737488351232 ∧ ∀ a ∈ qs, a.wf := by
  obtain ⟨xss, n', hl, hr, hx⟩ := h.slice Tryd.underlying25 (sz := 3) (bytes := 24) (by kernel_rfl) (by kernel_rfl) (by decide)
  obtain ⟨qs, rfl, hq⟩ := list_of AskD.cells AskD.wf xss fun x hx' => by
    obtain ⟨_, d', h'⟩ := hx x hx'
    exact openAsk h'
  rw [List.length_map] at hl hr
  exact ⟨qs, hr, hl, hq⟩
theorem openTexts {v : Value} (h : Rd enc Tryd.prog w n 44 [v] d) : ∃ ts : List ByteArray, Row w 1 v ts.length (ts.map Value.string) ∧ ts.length * 16 ≤ 140737488351232 ∧ ∀ s ∈ ts, s.size ≤ 140737488351232 := by
  obtain ⟨xss, n', hl, hr, hx⟩ := h.slice Tryd.underlying44 (sz := 1) (bytes := 16) (by kernel_rfl) (by kernel_rfl) (by decide)
  obtain ⟨qs, rfl, hq⟩ := list_of (fun s : ByteArray => [Value.string s]) (fun s => s.size ≤ 140737488351232) xss fun x hx' => by
    obtain ⟨_, d', h'⟩ := hx x hx'
    exact h'.string Tryd.underlying9
  rw [List.length_map] at hl hr
  have hf : (qs.map fun s : ByteArray => [Value.string s]).flatten = qs.map Value.string := by
    clear hl hr hx hq
    induction qs with
    | nil => rfl
    | cons b r ih => simp [ih]
  rw [hf] at hr
  exact ⟨qs, hr, hl, hq⟩
theorem openPair (h : Rd enc Tryd.prog w n 133 cs d) : ∃ a : PairD, cs = a.cells ∧ (a.key < 65536 ∧ a.data.length ≤ 140737488351232) ∧ Bytes w a.dataV a.data := by
  obtain ⟨hlen, n', hf⟩ := h.struct Tryd.underlying133 (by kernel_rfl) (by kernel_rfl)
  match cs, hlen with
  | [c0, c1], _ =>
    obtain ⟨d0, h0⟩ := hf 0 _ _ rfl rfl
    obtain ⟨x0, e0, l0⟩ := h0.u16 Tryd.underlying22
    obtain ⟨rfl, _⟩ := List.cons.inj e0
    obtain ⟨d1, h1⟩ := hf 1 _ _ rfl rfl
    obtain ⟨x1, b1, l1⟩ := h1.bytes Tryd.underlying29 Tryd.underlying5 (by kernel_rfl) (by kernel_rfl)
    exact ⟨⟨x0, c1, x1⟩, rfl, ⟨l0, l1⟩, b1⟩
theorem openPairs {v : Value} (h : Rd enc Tryd.prog w n 45 [v] d) : ∃ qs : List PairD, Pairs w v qs ∧ qs.length * 32 ≤ 140737488351232 ∧ ∀ a ∈ qs, (a.key < 65536 ∧ a.data.length ≤ 140737488351232) ∧ Bytes w a.dataV a.data := by
  obtain ⟨xss, n', hl, hr, hx⟩ := h.slice Tryd.underlying45 (sz := 2) (bytes := 32) (by kernel_rfl) (by kernel_rfl) (by decide)
  obtain ⟨qs, rfl, hq⟩ := list_of PairD.cells (fun a => (a.key < 65536 ∧ a.data.length ≤ 140737488351232) ∧ Bytes w a.dataV a.data) xss fun x hx' => by
    obtain ⟨_, d', h'⟩ := hx x hx'
    exact openPair h'
  rw [List.length_map] at hl hr
  exact ⟨qs, hr, hl, hq⟩

theorem openRec (h : Rd enc Tryd.prog w n 47 cs d) : ∃ r : RecD, cs = r.cells ∧ r.wf ∧ RecOk w r := by
  obtain ⟨hlen, n', hf⟩ := h.struct Tryd.underlying47 (by kernel_rfl) (by kernel_rfl)
  match cs, hlen with
  | [c0, c1, c2, c3, c4, c5, c6, c7, c8, c9, c10, c11, c12, c13, c14, c15], _ =>
    obtain ⟨d0, h0⟩ := hf 0 _ _ rfl rfl
    obtain ⟨x0, e0, l0⟩ := h0.string Tryd.underlying9
    obtain ⟨rfl, _⟩ := List.cons.inj e0
    obtain ⟨d1, h1⟩ := hf 1 _ _ rfl rfl
    obtain ⟨x1, e1, l1⟩ := h1.u16 Tryd.underlying22
    obtain ⟨rfl, _⟩ := List.cons.inj e1
    obtain ⟨d2, h2⟩ := hf 2 _ _ rfl rfl
    obtain ⟨x2, e2, l2⟩ := h2.u16 Tryd.underlying22
    obtain ⟨rfl, _⟩ := List.cons.inj e2
    obtain ⟨d3, h3⟩ := hf 3 _ _ rfl rfl
    obtain ⟨x3, e3, l3⟩ := h3.u32 Tryd.underlying43
    obtain ⟨rfl, _⟩ := List.cons.inj e3
    obtain ⟨d4, h4⟩ := hf 4 _ _ rfl rfl
    obtain ⟨x4, e4, l4⟩ := h4.u16 Tryd.underlying22
    obtain ⟨rfl, _⟩ := List.cons.inj e4
    obtain ⟨d5, h5⟩ := hf 5 _ _ rfl rfl
    obtain ⟨x5, e5, _⟩ := h5.int Tryd.underlying3
    obtain ⟨rfl, _⟩ := List.cons.inj e5
    obtain ⟨d6, h6⟩ := hf 6 _ _ rfl rfl
    obtain ⟨x6, b6, l6⟩ := h6.bytes Tryd.underlying29 Tryd.underlying5 (by kernel_rfl) (by kernel_rfl)
    obtain ⟨d7, h7⟩ := hf 7 _ _ rfl rfl
    obtain ⟨x7, e7, l7⟩ := h7.string Tryd.underlying9
    obtain ⟨rfl, _⟩ := List.cons.inj e7
    obtain ⟨d8, h8⟩ := hf 8 _ _ rfl rfl
    obtain ⟨x8, e8, l8⟩ := h8.string Tryd.underlying9
    obtain ⟨rfl, _⟩ := List.cons.inj e8
    obtain ⟨d9, h9⟩ := hf 9 _ _ rfl rfl
    obtain ⟨x9, e9, l9⟩ := h9.u32 Tryd.underlying43
    obtain ⟨rfl, _⟩ := List.cons.inj e9
    obtain ⟨d10, h10⟩ := hf 10 _ _ rfl rfl
    obtain ⟨x10, e10, l10⟩ := h10.u32 Tryd.underlying43
    obtain ⟨rfl, _⟩ := List.cons.inj e10
    obtain ⟨d11, h11⟩ := hf 11 _ _ rfl rfl
    obtain ⟨x11, e11, l11⟩ := h11.u32 Tryd.underlying43
    obtain ⟨rfl, _⟩ := List.cons.inj e11
    obtain ⟨d12, h12⟩ := hf 12 _ _ rfl rfl
    obtain ⟨x12, e12, l12⟩ := h12.u32 Tryd.underlying43
    obtain ⟨rfl, _⟩ := List.cons.inj e12
    obtain ⟨d13, h13⟩ := hf 13 _ _ rfl rfl
    obtain ⟨x13, e13, l13⟩ := h13.u32 Tryd.underlying43
    obtain ⟨rfl, _⟩ := List.cons.inj e13
    obtain ⟨d14, h14⟩ := hf 14 _ _ rfl rfl
    obtain ⟨x14, b14, l14, m14⟩ := openTexts h14
    obtain ⟨d15, h15⟩ := hf 15 _ _ rfl rfl
    obtain ⟨x15, b15, l15, m15⟩ := openPairs h15
    exact ⟨⟨x0, x1, x2, x3, x4, x5, c6, x6, x7, x8, x9, x10, x11, x12, x13, c14, x14, c15, x15⟩, rfl, ⟨l1, l2, l3, l4, l9, l10, l11, l12, l13, l0, l7, l8, l6, l14, m14, l15, fun p hp => (m15 p hp).1⟩, ⟨b6, b14, b15, fun p hp => (m15 p hp).2⟩⟩
theorem openRecs {v : Value} (h : Rd enc Tryd.prog w n 64 [v] d) : ∃ rs : List RecD, Recs w v rs ∧ rs.length * 168 ≤ 140737488351232 ∧ ∀ r ∈ rs, r.wf := by
  obtain ⟨xss, n', hl, hr, hx⟩ := h.slice Tryd.underlying64 (sz := 16) (bytes := 168) (by kernel_rfl) (by kernel_rfl) (by decide)
  obtain ⟨qs, rfl, hq⟩ := list_of RecD.cells (fun r => r.wf ∧ RecOk w r) xss fun x hx' => by
    obtain ⟨_, d', h'⟩ := hx x hx'
    exact openRec h'
  rw [List.length_map] at hl hr
  exact ⟨qs, ⟨hr, fun r hr => (hq r hr).2⟩, hl, fun r hr => (hq r hr).1⟩
end
end Go.Proofs.YtdiememgbnplkaaDoor
