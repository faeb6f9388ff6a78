/-
  Reading a law's arguments: what the given reading of an argument says of its cells.
-/
import Derived.Test.YtdiememgbnplkaaDoorData
import Derived.Test.YtdiememgbnplkaaDoorClose
import Derived.Deep.Fields
import Derived.Deep.Slices
namespace Go.Proofs.YtdiememgbnplkaaDoor
open Go Go.ChangeShapes Go.WideShapes Go.ChangeAt Go.RowKit Go.Deep

section
variable {H : Type} {enc : TypeId × Value → H} {P : Program} {w : World} {n : Nat} {t : TypeId} {cs : List Value} {d : DataW H}

/-- cells that read as d, none of its strings and slices too large -/
structure Rd (enc : TypeId × Value → H) (P : Program) (w : World) (n : Nat) (t : TypeId) (cs : List Value) (d : DataW H) : Prop where
  ex : ∃ ps, DataW.trod enc P w 0 (fun _ => true) true n t cs = some (d, ps)
  wt : ∀ k ∈ d.weights P t, k ≤ reachBytes

theorem Rd.bool (h : Rd enc P w n t cs d) (ht : P.underlying t = some .bool) : ∃ b, cs = [.bool b] := by
  obtain ⟨ps, hp⟩ := h.ex
  obtain ⟨b, rfl, _⟩ := DataW.trod_bool ht hp
  exact ⟨b, rfl⟩
theorem Rd.int {k : IntKind} (h : Rd enc P w n t cs d) (ht : P.underlying t = some (.int k)) : ∃ z, cs = [.int k z] ∧ (Lit.int k z).wf = true := by
  obtain ⟨ps, hp⟩ := h.ex
  obtain ⟨z, rfl, _, hw⟩ := DataW.trod_int ht hp
  exact ⟨z, rfl, hw⟩
theorem Rd.u8 (h : Rd enc P w n t cs d) (ht : P.underlying t = some (.int .u8)) : ∃ z : Nat, cs = [.int .u8 (z : Nat)] ∧ z < 256 := by
  obtain ⟨z, rfl, hw⟩ := h.int ht
  simp [Lit.wf, IntKind.min, IntKind.max, IntKind.signed, IntKind.bits] at hw
  exact ⟨z.toNat, by congr 2; omega, by omega⟩
theorem Rd.u16 (h : Rd enc P w n t cs d) (ht : P.underlying t = some (.int .u16)) : ∃ z : Nat, cs = [.int .u16 (z : Nat)] ∧ z < 65536 := by
  obtain ⟨z, rfl, hw⟩ := h.int ht
  simp [Lit.wf, IntKind.min, IntKind.max, IntKind.signed, IntKind.bits] at hw
  exact ⟨z.toNat, by congr 2; omega, by omega⟩
theorem Rd.u32 (h : Rd enc P w n t cs d) (ht : P.underlying t = some (.int .u32)) : ∃ z : Nat, cs = [.int .u32 (z : Nat)] ∧ z < 4294967296 := by
  obtain ⟨z, rfl, hw⟩ := h.int ht
  simp [Lit.wf, IntKind.min, IntKind.max, IntKind.signed, IntKind.bits] at hw
  exact ⟨z.toNat, by congr 2; omega, by omega⟩
theorem Rd.string (h : Rd enc P w n t cs d) (ht : P.underlying t = some .string) : ∃ s : ByteArray, cs = [.string s] ∧ s.size ≤ reachBytes := by
  obtain ⟨ps, hp⟩ := h.ex
  obtain ⟨s, rfl, hx, _⟩ := DataW.trod_string ht hp
  injection hx with hx _
  subst hx
  exact ⟨s, rfl, h.wt _ (by simp [DataW.weights])⟩

theorem weightsEach_get : ∀ {ts : List TypeId} {ds : List (DataW H)} {j : Nat} {t : TypeId} {d : DataW H}, ts[j]? = some t → ds[j]? = some d → ∀ k ∈ d.weights P t, k ∈ DataW.weightsEach P ts ds
  | [], _, j, _, _, h, _, _, _ => by simp at h
  | _ :: _, [], j, _, _, _, h, _, _ => by simp at h
  | t0 :: ts, d0 :: ds, 0, t, d, h1, h2, k, hk => by
    simp at h1 h2
    subst h1 h2
    simp [DataW.weightsEach, hk]
  | t0 :: ts, d0 :: ds, j + 1, t, d, h1, h2, k, hk => by
    simp at h1 h2
    simp [DataW.weightsEach, weightsEach_get h1 h2 k hk]
theorem weightsAll_get : ∀ {ds : List (DataW H)} {t : TypeId} {d : DataW H}, d ∈ ds → ∀ k ∈ d.weights P t, k ∈ DataW.weightsAll P t ds
  | d0 :: ds, t, d, h, k, hk => by
    rcases List.mem_cons.1 h with rfl | h
    · simp [DataW.weightsAll, hk]
    · simp [DataW.weightsAll, weightsAll_get h k hk]

theorem Rd.struct {fs : Array Field} (h : Rd enc P w n t cs d) (ht : P.underlying t = some (.struct fs)) (hone : oneCellFields P fs = true) (hC : P.cellsOf t = fs.size) :
    cs.length = fs.size ∧ ∃ n', ∀ (j : Nat) (f : Field) (v : Value), fs[j]? = some f → cs[j]? = some v → ∃ d', Rd enc P w n' f.type [v] d' := by
  obtain ⟨ps, hp⟩ := h.ex
  obtain ⟨xs, n', _, hx, hlen, hxl, hf⟩ := DataW.trod_struct ht hp
  injection hx with hx _
  refine ⟨hlen.trans hC, n', fun j f v hj hv => ?_⟩
  obtain ⟨ho, hk⟩ := hone_of hone j f hj
  have h1 := hf j f hj
  have hjl := (List.getElem?_eq_some_iff.1 hv)
  rw [ho, hk, List.drop_eq_getElem_cons hjl.1, hjl.2] at h1
  have hjx : j < xs.length := by
    rw [hxl]
    exact (Array.getElem?_eq_some_iff.1 hj).1
  rw [List.getElem?_eq_getElem hjx] at h1
  refine ⟨xs[j].1, ⟨xs[j].2, h1⟩, fun k hk => h.wt k ?_⟩
  rw [hx]
  simp only [DataW.weights, ht]
  exact weightsEach_get (j := j) (t := f.type) (d := xs[j].1) (by simp [hj]) (by simp [hjx]) k hk

theorem list_of {α β : Type} (f : α → β) (p : α → Prop) : ∀ (l : List β), (∀ x ∈ l, ∃ a, x = f a ∧ p a) → ∃ qs : List α, l = qs.map f ∧ ∀ a ∈ qs, p a
  | [], _ => ⟨[], rfl, fun _ h => by cases h⟩
  | x :: l, h => by
    obtain ⟨a, rfl, ha⟩ := h x (by simp)
    obtain ⟨qs, rfl, hq⟩ := list_of f p l fun y hy => h y (by simp [hy])
    exact ⟨a :: qs, rfl, fun b hb => by rcases List.mem_cons.1 hb with rfl | hb; exact ha; exact hq b hb⟩
theorem list_at {β : Type} (Q : Nat → β → Prop) : ∀ (len : Nat), (∀ i, i < len → ∃ x, Q i x) → ∃ l : List β, l.length = len ∧ ∀ i x, l[i]? = some x → Q i x
  | 0, _ => ⟨[], rfl, fun i x h => by simp at h⟩
  | len + 1, h => by
    obtain ⟨l, hl, hq⟩ := list_at Q len fun i hi => h i (by omega)
    obtain ⟨x, hx⟩ := h len (by omega)
    refine ⟨l ++ [x], by simp [hl], fun i y hy => ?_⟩
    rcases Nat.lt_or_ge i l.length with h1 | h1
    · rw [List.getElem?_append_left h1] at hy
      exact hq i y hy
    · rw [List.getElem?_append_right h1] at hy
      have h2 : i - l.length = 0 := by
        have := (List.getElem?_eq_some_iff.1 hy).1
        simp at this
        exact this
      rw [h2] at hy
      simp at hy
      subst hy
      have : i = len := by omega
      subst this
      exact hx

theorem flat_get (c : Array Value) (sz off : Nat) : ∀ (xss : List (List Value)) (k : Nat), (∀ x ∈ xss, x.length = sz) → (∀ i x, xss[i]? = some x → ∀ j u, x[j]? = some u → c[off + (k + i) * sz + j]? = some u) →
    ∀ j u, xss.flatten[j]? = some u → c[off + k * sz + j]? = some u
  | [], k, _, _, j, u, h => by simp at h
  | x :: xss, k, hz, hc, j, u, h => by
    have hx := hz x (by simp)
    rw [List.flatten_cons] at h
    rcases Nat.lt_or_ge j x.length with h1 | h1
    · rw [List.getElem?_append_left h1] at h
      simpa using hc 0 x rfl j u h
    · rw [List.getElem?_append_right h1] at h
      have := flat_get c sz off xss (k + 1) (fun y hy => hz y (by simp [hy])) (fun i y hy j u hu => by
        have := hc (i + 1) y (by simpa using hy) j u hu
        rw [← this]
        congr 2
        rw [show k + (i + 1) = k + 1 + i by omega]) _ u h
      rw [← this]
      congr 1
      rw [Nat.add_mul, hx]
      omega

theorem Cells.of_get {b off : Nat} {c : Array Value} {T : TypeId} {fr : Nat × Nat} {xs : List Value} (hb : w.heap[b]? = some (.cells c T fr)) (hne : xs ≠ []) (h : ∀ j u, xs[j]? = some u → c[off + j]? = some u) : Cells w b off xs := by
  have hpos : 0 < xs.length := List.length_pos_iff.2 hne
  have hl : off + xs.length ≤ c.size := by
    have := h (xs.length - 1) _ (List.getElem?_eq_getElem (by omega))
    have := (Array.getElem?_eq_some_iff.1 this).1
    omega
  refine ⟨c, T, fr, hb, hl, ?_⟩
  apply List.ext_getElem?
  intro j
  rw [List.getElem?_take]
  split
  · rename_i hj
    rw [List.getElem?_drop]
    have := h j _ (List.getElem?_eq_getElem hj)
    rw [List.getElem?_eq_getElem hj]
    simpa using this
  · rename_i hj
    rw [List.getElem?_eq_none (by omega)]

theorem Rd.slice {e : TypeId} {sz bytes : Nat} {v : Value} (h : Rd enc P w n t [v] d) (ht : P.underlying t = some (.slice e)) (hC : P.cellsOf e = sz) (hB : P.bytesOf e = bytes) (hz : 0 < sz) :
    ∃ (xss : List (List Value)) (n' : Nat), xss.length * bytes ≤ reachBytes ∧ Row w sz v xss.length xss.flatten ∧ ∀ x ∈ xss, x.length = sz ∧ ∃ d', Rd enc P w n' e x d' := by
  obtain ⟨ps, hp⟩ := h.ex
  rcases DataW.trod_slice ht hp with ⟨h1, _⟩ | ⟨a, len, cap, elems, rest, n', _, h1, hx, _, hl, hm, hlen, hel, _, _⟩
  · injection h1 with h1 _
    subst h1
    exact ⟨[], 0, by simp, .inl ⟨none, 0, rfl, rfl, rfl⟩, fun x h => by cases h⟩
  · injection h1 with h1 _
    subst h1
    injection hx with hx _
    obtain ⟨xss, hxl, hq⟩ := list_at (fun i x => w.cells? 0 (a.add (i * sz)) sz = some x ∧ ∃ y, elems[i]? = some y ∧ DataW.trod enc P w 0 (fun _ => true) true n' e x = some y) len fun i hi => by
      have h2 := hel i hi
      rw [hC] at h2
      have h3 : elems[i]? = some elems[i] := List.getElem?_eq_getElem (by omega)
      rw [h3] at h2
      obtain ⟨x, hx1, hx2⟩ := Option.bind_eq_some_iff.1 h2
      exact ⟨x, hx1, _, h3, hx2⟩
    have hsz : ∀ x ∈ xss, x.length = sz := fun x hx => by
      obtain ⟨i, hi⟩ := List.getElem?_of_mem hx
      exact (World.cells?_some (hq i x hi).1).2.1
    have hwt := h.wt
    rw [hx] at hwt
    simp only [DataW.weights, ht] at hwt
    refine ⟨xss, n', ?_, ?_, fun x hx => ⟨hsz x hx, ?_⟩⟩
    · have := hwt _ (List.mem_cons_self ..)
      simp only [List.length_map] at this
      rw [hxl, ← hB, ← hlen]
      exact Nat.le_trans (Nat.mul_le_mul_right _ (Nat.le_add_right _ _)) this
    · rcases Nat.eq_zero_or_pos len with h0 | h0
      · subst h0
        have : xss = [] := List.eq_nil_of_length_eq_zero hxl
        subst this
        exact .inl ⟨some a, cap, rfl, rfl, rfl⟩
      · have hlens : ∀ (l : List (List Value)), (∀ x ∈ l, x.length = sz) → l.flatten.length = l.length * sz := by
          intro l
          induction l with
          | nil => intro _; simp
          | cons y r ih =>
            intro h
            have h1 := h y (by simp)
            have h2 := ih fun z hz => h z (by simp [hz])
            simp only [List.flatten_cons, List.length_append, List.length_cons, h1, h2, Nat.add_mul]
            omega
        have hfl := hlens xss hsz
        have hcell : ∀ i x, xss[i]? = some x → ∀ j u, x[j]? = some u → w.cell? (a.add (i * sz + j)) = some u := fun i x hi j u hj => by
          obtain ⟨_, hxl', hat⟩ := World.cells?_some (hq i x hi).1
          have hjl := (List.getElem?_eq_some_iff.1 hj).1
          have := hat j (by omega)
          rw [Go.Deep.add_add] at this
          rw [this, hj]
        obtain ⟨x0, hx0⟩ : ∃ x, xss[0]? = some x := ⟨xss[0], List.getElem?_eq_getElem (by omega)⟩
        obtain ⟨u0, hu0⟩ : ∃ u, x0[0]? = some u := ⟨x0[0]'(by have := hsz x0 (List.mem_of_getElem? hx0); omega), List.getElem?_eq_getElem (by have := hsz x0 (List.mem_of_getElem? hx0); omega)⟩
        have hc0 := hcell 0 x0 hx0 0 u0 hu0
        obtain ⟨b, off, spot⟩ := a
        have hspot : spot = none := by
          cases spot with
          | none => rfl
          | some s =>
            have he : (⟨b, off, some s⟩ : Addr).add (0 * sz + 0) = ⟨b, off, some s⟩ := by simp [Addr.add]
            rw [he] at hc0
            unfold World.cell? at hc0
            split at hc0 <;> simp at hc0
        subst hspot
        obtain ⟨c, T, fr, hb⟩ : ∃ c T fr, w.heap[b]? = some (.cells c T fr) := by
          simp only [addr_add] at hc0
          unfold World.cell? at hc0
          simp only at hc0
          split at hc0
          · rename_i c T fr hh
            exact ⟨c, T, fr, hh⟩
          · cases hc0
        rw [hxl]
        refine .inr ⟨b, off, cap, rfl, by rw [hfl, hxl], Cells.of_get hb (fun h => ?_) fun j u hj => ?_⟩
        · rw [h] at hfl
          have : 0 < xss.length * sz := Nat.mul_pos (by omega) hz
          simp only [List.length_nil] at hfl
          omega
        · have := flat_get c sz off xss 0 hsz (fun i x hi j u hj => by
            have := hcell i x hi j u hj
            simp only [addr_add] at this
            unfold World.cell? at this
            simp only [hb] at this
            simpa [Nat.add_assoc] using this) j u hj
          simpa using this
    · obtain ⟨i, hi⟩ := List.getElem?_of_mem hx
      obtain ⟨_, y, hy, ht'⟩ := hq i x hi
      refine ⟨y.1, ⟨y.2, ht'⟩, fun k hk => hwt k ?_⟩
      have : y.1 ∈ elems.map (·.1) := List.mem_map.2 ⟨y, List.mem_of_getElem? hy, rfl⟩
      simp [weightsAll_get this k hk]

/-- an argument -/
theorem Rd.of_trod {ts : List TypeId} {ds : List (DataW H)} {v : Value} {ps : List MemPlace} (hw : (DataW.weightsEach P ts ds).all (· ≤ reachBytes) = true) {j : Nat} (ht : ts[j]? = some t) (hd : ds[j]? = some d) (h : DataW.Trod enc P w 0 (fun _ => true) true t v d ps) :
    ∃ n, Rd enc P w n t v.cells.toList d := by
  obtain ⟨n, hn⟩ := h
  exact ⟨n, ⟨ps, hn⟩, fun k hk => by simpa using List.all_eq_true.1 hw k (weightsEach_get ht hd k hk)⟩

/-- bytes -/
theorem Rd.bytes {e : TypeId} {v : Value} (h : Rd enc P w n t [v] d) (ht : P.underlying t = some (.slice e)) (he : P.underlying e = some (.int .u8)) (hC : P.cellsOf e = 1) (hB : P.bytesOf e = 1) : ∃ bs : List UInt8, Bytes w v bs ∧ bs.length ≤ reachBytes := by
  obtain ⟨xss, n', hl, hr, hx⟩ := h.slice ht hC hB (by decide)
  obtain ⟨bs, rfl, _⟩ := list_of (fun b : UInt8 => [Value.int .u8 b.toNat]) (fun _ => True) xss fun x hx' => by
    obtain ⟨_, d', h'⟩ := hx x hx'
    obtain ⟨z, rfl, hz⟩ := h'.u8 he
    refine ⟨UInt8.ofNat z, ?_, trivial⟩
    have : (UInt8.ofNat z).toNat = z := by simp; omega
    rw [this]
  simp only [List.length_map, Nat.mul_one] at hl hr
  have hf : (bs.map fun b : UInt8 => [Value.int .u8 b.toNat]).flatten = bytesV bs := by
    unfold bytesV
    clear hl hr hx
    induction bs with
    | nil => rfl
    | cons b r ih => simp [ih]
  rw [hf] at hr
  refine ⟨bs, ?_, hl⟩
  rcases hr with ⟨p, c, rfl, h1, _⟩ | ⟨b, off, c, rfl, _, hc⟩
  · exact .inl ⟨p, c, rfl, List.eq_nil_of_length_eq_zero h1⟩
  · exact .inr ⟨b, off, c, rfl, hc⟩
end
end Go.Proofs.YtdiememgbnplkaaDoor
