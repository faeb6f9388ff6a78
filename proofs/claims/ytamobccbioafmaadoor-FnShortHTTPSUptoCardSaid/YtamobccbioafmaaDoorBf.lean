/-
  From a function's contract to the given row: what the arguments and the listed variables read as when nothing below the heap's old size has turned.
-/
import Derived.Test.YtamobccbioafmaaDoorBa
import Derived.ProofKit
import Derived.OpenShut
import Derived.Carry
import Derived.MakeChecks
import Derived.LaidMore
import Derived.LaidLaws
import Derived.Deep.DeepHandedRow
import Derived.Test.YtamobccbioafmaaDoorBb
import Derived.Test.YtamobccbioafmaaDoorRows
import Derived.Deep.Fields
import Derived.Deep.Slices
import Derived.Test.YtamobccbioafmaaDoorBd
import Derived.Test.YtamobccbioafmaaDoorCards
import Derived.Test.YtamobccbioafmaaDoorTie
namespace Go.Proofs.YtamobccbioafmaaDoor
open Go Go.ChangeShapes Go.WideShapes Go.ChangeAt Go.RowKit

theorem trodAll_below {H : Type} {enc : TypeId × Value → H} {P : Program} (hl : laidOutB P = true) {W W' : World} (hb : Below W.heap.size W W') :
    ∀ {ts : List TypeId} {vs : List Value} {ds : List (DataW H)} {ps : List MemPlace}, (ts.all fun t => P.readableRec t && decide (t < P.types.size)) = true → DataW.TrodAll enc P W 0 (fun _ => true) true ts vs ds ps → (∀ x ∈ ps, x.block < W.heap.size) →
      DataW.TrodAll enc P W' 0 (fun b => decide (b < W.heap.size)) true ts vs ds ps
  | [], [], [], _, _, h, _ => h
  | t :: ts, v :: vs, d :: ds, ps, hr, h, hlt => by
    obtain ⟨p, q, h1, h2, rfl⟩ := h
    simp only [List.all_cons, Bool.and_eq_true, decide_eq_true_eq] at hr
    exact ⟨p, q, Below.trod hl hr.1.1 hr.1.2 h1 hb fun x hx => hlt x (by simp [hx]), trodAll_below hl hb (by simpa using hr.2) h2 fun x hx => hlt x (by simp [hx]), rfl⟩

def varsOk (P : Program) (ns : List String) : Bool := ns.all fun n => ((P.globalNamed n).bind (P.globals[·]?)).all fun gl => P.readableRec gl.type && decide (gl.type < P.types.size)

theorem trodVars_below {H : Type} {enc : TypeId × Value → H} {P : Program} (hl : laidOutB P = true) {W W' : World} (hb : Below W.heap.size W W') :
    ∀ {ns : List String} {gs : List (DataW H)} {ps : List MemPlace}, varsOk P ns = true → DataW.TrodVars enc P W (fun _ => true) ns gs ps → (∀ x ∈ ps, x.block < W.heap.size) → DataW.TrodVars enc P W' (fun b => decide (b < W.heap.size)) ns gs ps
  | [], [], _, _, h, _ => h
  | n :: ns, d :: ds, ps, hv, h, hlt => by
    obtain ⟨g, t, cs, fuel, p, q, hg, ht, hc, hd, hr, rfl⟩ := h
    simp only [varsOk, List.all_cons, Bool.and_eq_true] at hv
    have h1 : P.readableRec t = true ∧ t < P.types.size := by
      have := hv.1
      rw [hg] at this
      cases hq : P.globals[g]? with
      | none => rw [hq] at ht; cases ht
      | some gl =>
        rw [hq] at ht
        obtain rfl : gl.type = t := Option.some.inj ht
        simpa [hq] using this
    have h2 : DataW.Trod enc P W 0 (fun _ => true) true t (.agg cs) d p := ⟨fuel, hd⟩
    obtain ⟨fuel', h3⟩ := Below.trod hl h1.1 h1.2 h2 hb fun x hx => hlt x (by simp [hx])
    have h4 : W'.var? P n = some cs := by
      have hgl : g < W.heap.size := by
        simp only [World.var?, hg, Option.bind_some] at hc
        rcases Nat.lt_or_ge g W.heap.size with h | h
        · exact h
        · rw [Array.getElem?_eq_none h] at hc
          cases hc
      simp only [World.var?, hg, Option.bind_some] at hc ⊢
      rw [hb.block g hgl]
      exact hc
    exact ⟨g, t, cs, fuel', p, q, hg, ht, h4, h3, trodVars_below hl hb (by simpa [varsOk] using hv.2) hr fun x hx => hlt x (by simp [hx]), rfl⟩

/-- the law's answer is true, and nothing old has turned -/
theorem post_true {H : Type} {enc : TypeId × Value → H} {P : Program} {f : Func} {s : ChangeSpec} {fresh : Bool} {W W' : World} {args : Array Value} {ds gs : List (DataW H)} {before : List MemPlace} {tb : TypeId}
    (hl : laidOutB P = true) (hp : (f.params.toList.all fun t => P.readableRec t && decide (t < P.types.size)) = true) (hv : varsOk P s.vars = true) (hr : f.resultTypes = #[tb]) (hu : P.underlying tb = some .bool)
    (hW : DataW.Whole enc P f.params.toList s.vars false W args.toList ds gs before) (hb : Below W.heap.size W W') (hs : s.fn H (ds ++ gs) = { results := [.lit (.bool true)], args := ds, vars := gs }) :
    s.post enc P f false fresh false false W args (.bool true) W' := by
  have hlt := hW.lt
  have hW0 := hW
  obtain ⟨p, q, hA, hV, rfl, hz, hn⟩ := hW
  refine ⟨ds, gs, p ++ q, [], p, q, hW0, ?_, ?_, ?_, hb.frame _, fun h => by cases h⟩
  · rw [hr, hs]
    exact trodAll_cons_mk (shut_bool hu _) trodAll_mk0
  · rw [hs]
    exact trodAll_below hl hb hp hA fun x hx => hlt x (by simp [hx])
  · rw [hs]
    exact trodVars_below hl hb hv hV fun x hx => hlt x (by simp [hx])

def allHeld {H : Type} (l : List (DataW H)) : Bool := l.all fun d => match d with | .held _ => true | _ => false
theorem allHeld_ex {H : Type} : ∀ {l : List (DataW H)}, allHeld l = true → ∃ hs : List H, l = hs.map .held
  | [], _ => ⟨[], rfl⟩
  | .held a :: r, h => by
    obtain ⟨hs, rfl⟩ := allHeld_ex (l := r) (by simpa [allHeld] using h)
    exact ⟨a :: hs, rfl⟩
theorem whole_ex {H : Type} {o : Option (List (DataW H) × List (DataW H) × List MemPlace)} {ds : List (DataW H)} {n : Nat} (h1 : o.map (·.1) = some ds) (h2 : o.map (fun x => allHeld x.2.1) = some true) (h3 : o.map (fun x => x.2.1.length) = some n) :
    ∃ (hs : List H) (ps : List MemPlace), hs.length = n ∧ o = some (ds, hs.map .held, ps) := by
  cases o with
  | none => cases h1
  | some x =>
    obtain ⟨a, b, c⟩ := x
    simp at h1 h2 h3
    obtain ⟨hs, rfl⟩ := allHeld_ex h2
    exact ⟨hs, c, by simpa using h3, by rw [h1]⟩

/-- a listed error variable holds an error of the type that the list names -/
theorem iface_of_trod {H : Type} {enc : TypeId × Value → H} {P : Program} {w : World} {base : Nat} {sp : Nat → Bool} {t : TypeId} {ms : Array (String × TypeId)} (ht : P.underlying t = some (.interface ms)) {fuel : Nat} {cs : List Value} {nm : String} {d : DataW H} {p : List MemPlace}
    (h : DataW.trod enc P w base sp false fuel t cs = some (.iface nm d, p)) : ∃ u v, cs = [.iface u v] ∧ P.typeName? 3 u = some nm := by
  cases fuel with
  | zero => simp [DataW.trod] at h
  | succ n =>
    unfold DataW.trod at h
    rw [ht] at h
    match cs, h with
    | [.nilIface], h => simp at h
    | .nilIface :: _ :: _, h => simp at h
    | [.iface u v], h =>
      refine ⟨u, v, rfl, ?_⟩
      cases hn : P.typeName? 3 u with
      | none => simp [hn] at h
      | some m =>
        simp only [hn, Option.map_eq_some_iff] at h
        obtain ⟨x, _, hx⟩ := h
        simp at hx
        rw [hx.1.1]

theorem laid_iface {P : Program} {w : World} {n nm : String} {d : DataW Unit} {g : Nat} {t : TypeId} {ms : Array (String × TypeId)} (hg : P.globalNamed n = some g) (ht : (P.globals[g]?).map (·.type) = some t) (hu : P.underlying t = some (.interface ms)) :
    ∀ {l : List (String × DataW Unit)} {ps : List MemPlace}, (n, .iface nm d) ∈ l → DataW.LaidVars P w l ps → ∃ u v, Cells w g 0 [.iface u v] ∧ P.typeName? 3 u = some nm
  | [], _, h, _ => by cases h
  | (n', d') :: r, ps, h, hl => by
    obtain ⟨g', t', cs, fuel, p, q, h1, h2, h3, h4, h5, _⟩ := hl
    rcases List.mem_cons.1 h with h | h
    · injection h with ha hb
      subst ha hb
      obtain rfl := Option.some.inj (hg.symm.trans h1)
      obtain rfl := Option.some.inj (ht.symm.trans h2)
      obtain ⟨u, v, hc, hn⟩ := iface_of_trod hu h4
      refine ⟨u, v, ?_, hn⟩
      unfold World.var? at h3
      rw [hg] at h3
      simp only [Option.bind_some] at h3
      split at h3
      · rename_i c T fr hh
        simp at h3
        subst h3
        exact ⟨c, T, fr, hh, by have := congrArg List.length hc; simp at this; simp [this], by rw [hc]; rfl⟩
      · cases h3
    · exact laid_iface hg ht hu h h5

theorem laid_iface' {P : Program} {w : World} {l : List (String × DataW Unit)} (n : String) {nm : String} {d : DataW Unit} {g : Nat} {t : TypeId} {ms : Array (String × TypeId)} (hh : (l.all fun x => x.2.handleName?.isNone) = true) (hL : laidMetH P l w) (hg : P.globalNamed n = some g) (ht : (P.globals[g]?).map (·.type) = some t) (hu : P.underlying t = some (.interface ms)) (hm : (n, .iface nm d) ∈ l) :
    ∃ u v, Cells w g 0 [.iface u v] ∧ P.typeName? 3 u = some nm := by
  rw [Go.MakeChecks.laidMetH_plain P l w hh] at hL
  obtain ⟨ps, h, _⟩ := hL
  exact laid_iface hg ht hu hm h
theorem row_mem (a : Addr) (n k : Nat) (hk : k < n) : MemPlace.cell a.block (a.off + k) ∈ MemPlace.row a n := by
  unfold MemPlace.row
  exact List.mem_map.2 ⟨k, List.mem_range.2 hk, rfl⟩

theorem laid_err_in {P : Program} {w : World} {n nm : String} {d : DataW Unit} {g : Nat} {t : TypeId} {ms : Array (String × TypeId)} (hg : P.globalNamed n = some g) (ht : (P.globals[g]?).map (·.type) = some t) (hu : P.underlying t = some (.interface ms)) :
    ∀ {l : List (String × DataW Unit)} {ps : List MemPlace}, (n, .iface nm (.ptr d)) ∈ l → DataW.LaidVars P w l ps → (∀ b off, MemPlace.cell b off ∈ ps → ∀ u v, w.cell? ⟨b, off, none⟩ = some (.iface u v) → Value.okWide P w .any 0 u v) →
      ∃ u v, Cells w g 0 [.iface u v] ∧ P.typeName? 3 u = some nm ∧ Value.okWide P w .any 0 u v ∧ ∃ fuel p, DataW.trod (fun _ => ()) P w 0 (fun _ => true) false fuel u v.cells.toList = some (.ptr d, p)
  | [], _, h, _, _ => by cases h
  | (n', d') :: r, ps, h, hl, hok => by
    obtain ⟨g', t', cs, fuel, p, q, h1, h2, h3, h4, h5, rfl⟩ := hl
    rcases List.mem_cons.1 h with h | h
    · injection h with ha hb
      subst ha hb
      obtain rfl := Option.some.inj (hg.symm.trans h1)
      obtain rfl := Option.some.inj (ht.symm.trans h2)
      obtain ⟨u, v, hc, hn⟩ := iface_of_trod hu h4
      have hcells : Cells w g 0 [.iface u v] := by
        unfold World.var? at h3
        rw [hg] at h3
        simp only [Option.bind_some] at h3
        split at h3
        · rename_i c T fr hh
          simp at h3
          subst h3
          exact ⟨c, T, fr, hh, by have := congrArg List.length hc; simp at this; simp [this], by rw [hc]; rfl⟩
        · cases h3
      have hsz : cs.size = 1 := by have := congrArg List.length hc; simpa using this
      refine ⟨u, v, hcells, hn, hok g 0 ?_ u v ?_, ?_⟩
      · have := row_mem ⟨g, 0, none⟩ cs.size 0 (by omega)
        simp only [Nat.add_zero] at this
        simp [this]
      · simpa using hcells.cell 0 _ rfl
      · cases fuel with
        | zero => simp [DataW.trod] at h4
        | succ k =>
          rw [hc] at h4
          unfold DataW.trod at h4
          rw [hu] at h4
          simp only [hn, Option.map_eq_some_iff] at h4
          obtain ⟨x, hx, he⟩ := h4
          simp at he
          exact ⟨k, x.2, by rw [hx, ← he.1]⟩
    · exact laid_err_in hg ht hu h h5 fun b off hb => hok b off (by simp [hb])

/-- a listed error variable holds a pointer of its type -/
theorem laid_err {P : Program} {w : World} {l : List (String × DataW Unit)} (n : String) {nm : String} {d : DataW Unit} {g : Nat} {t k e : TypeId} {ms : Array (String × TypeId)} (hh : (l.all fun x => x.2.handleName?.isNone) = true) (hL : laidMetH P l w) (hg : P.globalNamed n = some g) (ht : (P.globals[g]?).map (·.type) = some t) (hu : P.underlying t = some (.interface ms)) (hm : (n, .iface nm (.ptr d)) ∈ l)
    (ho : ∀ u, P.typeName? 3 u = some nm → u = k) (hk : P.underlying k = some (.pointer e)) : ∃ a, Cells w g 0 [.iface k (.pointer (some a))] := by
  rw [Go.MakeChecks.laidMetH_plain P l w hh] at hL
  obtain ⟨ps, h, _, hok⟩ := hL
  obtain ⟨u, v, hc, hn, hw, fuel, p, htr⟩ := laid_err_in hg ht hu hm h fun b off hb => (hok b off hb).2
  obtain rfl := ho u hn
  obtain ⟨a, rfl⟩ := okWide_pointer hk hw
  cases a with
  | some a => exact ⟨a, hc⟩
  | none =>
    rcases DataW.trod_pointer hk htr with ⟨_, h2⟩ | ⟨a, cs', y, m, _, h2, _⟩
    · cases h2
    · cases h2

theorem trodVars_len {H : Type} {enc : TypeId × Value → H} {P : Program} {W : World} {sp : Nat → Bool} : ∀ {ns : List String} {gs : List (DataW H)} {ps : List MemPlace}, DataW.TrodVars enc P W sp ns gs ps → gs.length = ns.length
  | [], [], _, _ => rfl
  | _ :: ns, _ :: gs, _, h => by
    obtain ⟨_, _, _, _, _, _, _, _, _, _, h, _⟩ := h
    simp [trodVars_len h]
  | [], _ :: _, _, h => h.elim
  | _ :: _, [], _, h => h.elim
end Go.Proofs.YtamobccbioafmaaDoor

/-
  Reading a law's arguments: what the given reading of an argument says of its cells.
-/
namespace Go.Proofs.YtamobccbioafmaaDoor
open Go Go.ChangeShapes Go.WideShapes Go.ChangeAt Go.RowKit Go.Deep

section
variable {H : Type} {enc : TypeId × Value → H} {P : Program} {w : World} {n : Nat} {t : TypeId} {cs : List Value} {d : DataW H} {B : Nat}

theorem bulk_pos (d : DataW H) : 1 ≤ Rows.uptoBulk d := by
  cases d with
  | lit l => cases l <;> simp [Rows.uptoBulk]
  | _ => simp [Rows.uptoBulk]
theorem bulk_mem : ∀ {ds : List (DataW H)} {d : DataW H}, d ∈ ds → Rows.uptoBulk d ≤ Rows.uptoBulkAll ds
  | d0 :: ds, d, h => by
    rw [Rows.uptoBulkAll]
    rcases List.mem_cons.1 h with rfl | h
    · omega
    · have := bulk_mem h
      omega
theorem bulk_len : ∀ ds : List (DataW H), ds.length ≤ Rows.uptoBulkAll ds
  | [] => by simp
  | d :: ds => by
    rw [Rows.uptoBulkAll]
    have h1 := bulk_pos d
    have h2 := bulk_len ds
    simp only [List.length_cons]
    omega
/-- cells that read as d, none of its strings and slices too large, d of bulk B at most -/
structure Rd (enc : TypeId × Value → H) (P : Program) (w : World) (n : Nat) (t : TypeId) (cs : List Value) (d : DataW H) (B : Nat) : Prop where
  ex : ∃ ps, DataW.trod enc P w 0 (fun _ => true) true n t cs = some (d, ps)
  wt : ∀ k ∈ d.weights P t, k ≤ reachBytes
  bk : Rows.uptoBulk d ≤ B
theorem Rd.up (h : Rd enc P w n t cs d B) {B' : Nat} (hB : B ≤ B') : Rd enc P w n t cs d B' := ⟨h.ex, h.wt, Nat.le_trans h.bk hB⟩

theorem Rd.bool (h : Rd enc P w n t cs d B) (ht : P.underlying t = some .bool) : ∃ b, cs = [.bool b] := by
  obtain ⟨ps, hp⟩ := h.ex
  obtain ⟨b, rfl, _⟩ := DataW.trod_bool ht hp
  exact ⟨b, rfl⟩
theorem Rd.int {k : IntKind} (h : Rd enc P w n t cs d B) (ht : P.underlying t = some (.int k)) : ∃ z, cs = [.int k z] ∧ (Lit.int k z).wf = true := by
  obtain ⟨ps, hp⟩ := h.ex
  obtain ⟨z, rfl, _, hw⟩ := DataW.trod_int ht hp
  exact ⟨z, rfl, hw⟩
theorem Rd.u8 (h : Rd enc P w n t cs d B) (ht : P.underlying t = some (.int .u8)) : ∃ z : Nat, cs = [.int .u8 (z : Nat)] ∧ z < 256 := by
  obtain ⟨z, rfl, hw⟩ := h.int ht
  simp [Lit.wf, IntKind.min, IntKind.max, IntKind.signed, IntKind.bits] at hw
  exact ⟨z.toNat, by congr 2; omega, by omega⟩
theorem Rd.u16 (h : Rd enc P w n t cs d B) (ht : P.underlying t = some (.int .u16)) : ∃ z : Nat, cs = [.int .u16 (z : Nat)] ∧ z < 65536 := by
  obtain ⟨z, rfl, hw⟩ := h.int ht
  simp [Lit.wf, IntKind.min, IntKind.max, IntKind.signed, IntKind.bits] at hw
  exact ⟨z.toNat, by congr 2; omega, by omega⟩
theorem Rd.u32 (h : Rd enc P w n t cs d B) (ht : P.underlying t = some (.int .u32)) : ∃ z : Nat, cs = [.int .u32 (z : Nat)] ∧ z < 4294967296 := by
  obtain ⟨z, rfl, hw⟩ := h.int ht
  simp [Lit.wf, IntKind.min, IntKind.max, IntKind.signed, IntKind.bits] at hw
  exact ⟨z.toNat, by congr 2; omega, by omega⟩
theorem Rd.string (h : Rd enc P w n t cs d B) (ht : P.underlying t = some .string) : ∃ s : ByteArray, cs = [.string s] ∧ s.size ≤ reachBytes ∧ s.size ≤ B := by
  obtain ⟨ps, hp⟩ := h.ex
  obtain ⟨s, rfl, hx, _⟩ := DataW.trod_string ht hp
  injection hx with hx _
  subst hx
  have hb := h.bk
  rw [Rows.uptoBulk] at hb
  exact ⟨s, rfl, h.wt _ (by simp [DataW.weights]), by simp at hb; omega⟩

theorem weightsEach_get : ∀ {ts : List TypeId} {ds : List (DataW H)} {j : Nat} {t : TypeId} {d : DataW H}, ts[j]? = some t → ds[j]? = some d → ∀ k ∈ d.weights P t, k ∈ DataW.weightsEach P ts ds
  | [], _, j, _, _, h, _, _, _ => by simp at h
  | _ :: _, [], j, _, _, _, h, _, _ => by simp at h
  | t0 :: ts, d0 :: ds, 0, t, d, h1, h2, k, hk => by
    simp at h1 h2
    subst h1 h2
    simp [DataW.weightsEach, hk]
  | t0 :: ts, d0 :: ds, j + 1, t, d, h1, h2, k, hk => by
    simp at h1 h2
    simp [DataW.weightsEach, weightsEach_get h1 h2 k hk]
theorem weightsAll_get : ∀ {ds : List (DataW H)} {t : TypeId} {d : DataW H}, d ∈ ds → ∀ k ∈ d.weights P t, k ∈ DataW.weightsAll P t ds
  | d0 :: ds, t, d, h, k, hk => by
    rcases List.mem_cons.1 h with rfl | h
    · simp [DataW.weightsAll, hk]
    · simp [DataW.weightsAll, weightsAll_get h k hk]

theorem Rd.struct {fs : Array Field} (h : Rd enc P w n t cs d B) (ht : P.underlying t = some (.struct fs)) (hone : oneCellFields P fs = true) (hC : P.cellsOf t = fs.size) :
    cs.length = fs.size ∧ ∃ n', ∀ (j : Nat) (f : Field) (v : Value), fs[j]? = some f → cs[j]? = some v → ∃ d', Rd enc P w n' f.type [v] d' B := by
  obtain ⟨ps, hp⟩ := h.ex
  obtain ⟨xs, n', _, hx, hlen, hxl, hf⟩ := DataW.trod_struct ht hp
  injection hx with hx _
  refine ⟨hlen.trans hC, n', fun j f v hj hv => ?_⟩
  obtain ⟨ho, hk⟩ := hone_of hone j f hj
  have h1 := hf j f hj
  have hjl := (List.getElem?_eq_some_iff.1 hv)
  rw [ho, hk, List.drop_eq_getElem_cons hjl.1, hjl.2] at h1
  have hjx : j < xs.length := by
    rw [hxl]
    exact (Array.getElem?_eq_some_iff.1 hj).1
  rw [List.getElem?_eq_getElem hjx] at h1
  refine ⟨xs[j].1, ⟨xs[j].2, h1⟩, fun k hk => h.wt k ?_, ?_⟩
  · rw [hx]
    simp only [DataW.weights, ht]
    exact weightsEach_get (j := j) (t := f.type) (d := xs[j].1) (by simp [hj]) (by simp [hjx]) k hk
  · have hb := h.bk
    rw [hx, Rows.uptoBulk] at hb
    have h2 := bulk_mem (ds := xs.map (·.1)) (d := xs[j].1) (List.mem_map.2 ⟨xs[j], List.getElem_mem hjx, rfl⟩)
    omega

theorem list_of {α β : Type} (f : α → β) (p : α → Prop) : ∀ (l : List β), (∀ x ∈ l, ∃ a, x = f a ∧ p a) → ∃ qs : List α, l = qs.map f ∧ ∀ a ∈ qs, p a
  | [], _ => ⟨[], rfl, fun _ h => by cases h⟩
  | x :: l, h => by
    obtain ⟨a, rfl, ha⟩ := h x (by simp)
    obtain ⟨qs, rfl, hq⟩ := list_of f p l fun y hy => h y (by simp [hy])
    exact ⟨a :: qs, rfl, fun b hb => by rcases List.mem_cons.1 hb with rfl | hb; exact ha; exact hq b hb⟩
theorem list_at {β : Type} (Q : Nat → β → Prop) : ∀ (len : Nat), (∀ i, i < len → ∃ x, Q i x) → ∃ l : List β, l.length = len ∧ ∀ i x, l[i]? = some x → Q i x
  | 0, _ => ⟨[], rfl, fun i x h => by simp at h⟩
  | len + 1, h => by
    obtain ⟨l, hl, hq⟩ := list_at Q len fun i hi => h i (by omega)
    obtain ⟨x, hx⟩ := h len (by omega)
    refine ⟨l ++ [x], by simp [hl], fun i y hy => ?_⟩
    rcases Nat.lt_or_ge i l.length with h1 | h1
    · rw [List.getElem?_append_left h1] at hy
      exact hq i y hy
    · rw [List.getElem?_append_right h1] at hy
      have h2 : i - l.length = 0 := by
        have := (List.getElem?_eq_some_iff.1 hy).1
        simp at this
        exact this
      rw [h2] at hy
      simp at hy
      subst hy
      have : i = len := by omega
      subst this
      exact hx

theorem flat_get (c : Array Value) (sz off : Nat) : ∀ (xss : List (List Value)) (k : Nat), (∀ x ∈ xss, x.length = sz) → (∀ i x, xss[i]? = some x → ∀ j u, x[j]? = some u → c[off + (k + i) * sz + j]? = some u) →
    ∀ j u, xss.flatten[j]? = some u → c[off + k * sz + j]? = some u
  | [], k, _, _, j, u, h => by simp at h
  | x :: xss, k, hz, hc, j, u, h => by
    have hx := hz x (by simp)
    rw [List.flatten_cons] at h
    rcases Nat.lt_or_ge j x.length with h1 | h1
    · rw [List.getElem?_append_left h1] at h
      simpa using hc 0 x rfl j u h
    · rw [List.getElem?_append_right h1] at h
      have := flat_get c sz off xss (k + 1) (fun y hy => hz y (by simp [hy])) (fun i y hy j u hu => by
        have := hc (i + 1) y (by simpa using hy) j u hu
        rw [← this]
        congr 2
        rw [show k + (i + 1) = k + 1 + i by omega]) _ u h
      rw [← this]
      congr 1
      rw [Nat.add_mul, hx]
      omega

theorem Cells.of_get {b off : Nat} {c : Array Value} {T : TypeId} {fr : Nat × Nat} {xs : List Value} (hb : w.heap[b]? = some (.cells c T fr)) (hne : xs ≠ []) (h : ∀ j u, xs[j]? = some u → c[off + j]? = some u) : Cells w b off xs := by
  have hpos : 0 < xs.length := List.length_pos_iff.2 hne
  have hl : off + xs.length ≤ c.size := by
    have := h (xs.length - 1) _ (List.getElem?_eq_getElem (by omega))
    have := (Array.getElem?_eq_some_iff.1 this).1
    omega
  refine ⟨c, T, fr, hb, hl, ?_⟩
  apply List.ext_getElem?
  intro j
  rw [List.getElem?_take]
  split
  · rename_i hj
    rw [List.getElem?_drop]
    have := h j _ (List.getElem?_eq_getElem hj)
    rw [List.getElem?_eq_getElem hj]
    simpa using this
  · rename_i hj
    rw [List.getElem?_eq_none (by omega)]

theorem Rd.slice {e : TypeId} {sz bytes : Nat} {v : Value} (h : Rd enc P w n t [v] d B) (ht : P.underlying t = some (.slice e)) (hC : P.cellsOf e = sz) (hB : P.bytesOf e = bytes) (hz : 0 < sz) :
    ∃ (xss : List (List Value)) (n' : Nat), (xss.length * bytes ≤ reachBytes ∧ xss.length ≤ B) ∧ Row w sz v xss.length xss.flatten ∧ ∀ x ∈ xss, x.length = sz ∧ ∃ d', Rd enc P w n' e x d' B := by
  obtain ⟨ps, hp⟩ := h.ex
  rcases DataW.trod_slice ht hp with ⟨h1, _⟩ | ⟨a, len, cap, elems, rest, n', _, h1, hx, _, hl, hm, hlen, hel, _, _⟩
  · injection h1 with h1 _
    subst h1
    exact ⟨[], 0, by simp, .inl ⟨none, 0, rfl, rfl, rfl⟩, fun x h => by cases h⟩
  · injection h1 with h1 _
    subst h1
    injection hx with hx _
    obtain ⟨xss, hxl, hq⟩ := list_at (fun i x => w.cells? 0 (a.add (i * sz)) sz = some x ∧ ∃ y, elems[i]? = some y ∧ DataW.trod enc P w 0 (fun _ => true) true n' e x = some y) len fun i hi => by
      have h2 := hel i hi
      rw [hC] at h2
      have h3 : elems[i]? = some elems[i] := List.getElem?_eq_getElem (by omega)
      rw [h3] at h2
      obtain ⟨x, hx1, hx2⟩ := Option.bind_eq_some_iff.1 h2
      exact ⟨x, hx1, _, h3, hx2⟩
    have hsz : ∀ x ∈ xss, x.length = sz := fun x hx => by
      obtain ⟨i, hi⟩ := List.getElem?_of_mem hx
      exact (World.cells?_some (hq i x hi).1).2.1
    have hwt := h.wt
    rw [hx] at hwt
    simp only [DataW.weights, ht] at hwt
    have hbk := h.bk
    rw [hx, Rows.uptoBulk] at hbk
    refine ⟨xss, n', ⟨?_, ?_⟩, ?_, fun x hx => ⟨hsz x hx, ?_⟩⟩
    · have := hwt _ (List.mem_cons_self ..)
      simp only [List.length_map] at this
      rw [hxl, ← hB, ← hlen]
      exact Nat.le_trans (Nat.mul_le_mul_right _ (Nat.le_add_right _ _)) this
    · have := bulk_len (elems.map (·.1))
      simp only [List.length_map] at this
      omega
    · rcases Nat.eq_zero_or_pos len with h0 | h0
      · subst h0
        have : xss = [] := List.eq_nil_of_length_eq_zero hxl
        subst this
        exact .inl ⟨some a, cap, rfl, rfl, rfl⟩
      · have hlens : ∀ (l : List (List Value)), (∀ x ∈ l, x.length = sz) → l.flatten.length = l.length * sz := by
          intro l
          induction l with
          | nil => intro _; simp
          | cons y r ih =>
            intro h
            have h1 := h y (by simp)
            have h2 := ih fun z hz => h z (by simp [hz])
            simp only [List.flatten_cons, List.length_append, List.length_cons, h1, h2, Nat.add_mul]
            omega
        have hfl := hlens xss hsz
        have hcell : ∀ i x, xss[i]? = some x → ∀ j u, x[j]? = some u → w.cell? (a.add (i * sz + j)) = some u := fun i x hi j u hj => by
          obtain ⟨_, hxl', hat⟩ := World.cells?_some (hq i x hi).1
          have hjl := (List.getElem?_eq_some_iff.1 hj).1
          have := hat j (by omega)
          rw [Go.Deep.add_add] at this
          rw [this, hj]
        obtain ⟨x0, hx0⟩ : ∃ x, xss[0]? = some x := ⟨xss[0], List.getElem?_eq_getElem (by omega)⟩
        obtain ⟨u0, hu0⟩ : ∃ u, x0[0]? = some u := ⟨x0[0]'(by have := hsz x0 (List.mem_of_getElem? hx0); omega), List.getElem?_eq_getElem (by have := hsz x0 (List.mem_of_getElem? hx0); omega)⟩
        have hc0 := hcell 0 x0 hx0 0 u0 hu0
        obtain ⟨b, off, spot⟩ := a
        have hspot : spot = none := by
          cases spot with
          | none => rfl
          | some s =>
            have he : (⟨b, off, some s⟩ : Addr).add (0 * sz + 0) = ⟨b, off, some s⟩ := by simp [Addr.add]
            rw [he] at hc0
            unfold World.cell? at hc0
            split at hc0 <;> simp at hc0
        subst hspot
        obtain ⟨c, T, fr, hb⟩ : ∃ c T fr, w.heap[b]? = some (.cells c T fr) := by
          simp only [addr_add] at hc0
          unfold World.cell? at hc0
          simp only at hc0
          split at hc0
          · rename_i c T fr hh
            exact ⟨c, T, fr, hh⟩
          · cases hc0
        rw [hxl]
        refine .inr ⟨b, off, cap, rfl, by rw [hfl, hxl], Cells.of_get hb (fun h => ?_) fun j u hj => ?_⟩
        · rw [h] at hfl
          have : 0 < xss.length * sz := Nat.mul_pos (by omega) hz
          simp only [List.length_nil] at hfl
          omega
        · have := flat_get c sz off xss 0 hsz (fun i x hi j u hj => by
            have := hcell i x hi j u hj
            simp only [addr_add] at this
            unfold World.cell? at this
            simp only [hb] at this
            simpa [Nat.add_assoc] using this) j u hj
          simpa using this
    · obtain ⟨i, hi⟩ := List.getElem?_of_mem hx
      obtain ⟨_, y, hy, ht'⟩ := hq i x hi
      have hym : y.1 ∈ elems.map (·.1) := List.mem_map.2 ⟨y, List.mem_of_getElem? hy, rfl⟩
      refine ⟨y.1, ⟨y.2, ht'⟩, fun k hk => hwt k ?_, ?_⟩
      · simp [weightsAll_get hym k hk]
      · have := bulk_mem hym
        omega

/-- an argument -/
theorem Rd.of_trod {ts : List TypeId} {ds : List (DataW H)} {v : Value} {ps : List MemPlace} (hw : (DataW.weightsEach P ts ds).all (· ≤ reachBytes) = true) {j : Nat} (ht : ts[j]? = some t) (hd : ds[j]? = some d) (h : DataW.Trod enc P w 0 (fun _ => true) true t v d ps) :
    ∃ n, Rd enc P w n t v.cells.toList d (Rows.uptoBulk d) := by
  obtain ⟨n, hn⟩ := h
  exact ⟨n, ⟨ps, hn⟩, fun k hk => by simpa using List.all_eq_true.1 hw k (weightsEach_get ht hd k hk), Nat.le_refl _⟩

/-- bytes -/
theorem Rd.bytes {e : TypeId} {v : Value} (h : Rd enc P w n t [v] d B) (ht : P.underlying t = some (.slice e)) (he : P.underlying e = some (.int .u8)) (hC : P.cellsOf e = 1) (hB : P.bytesOf e = 1) : ∃ bs : List UInt8, Bytes w v bs ∧ bs.length ≤ reachBytes ∧ bs.length ≤ B := by
  obtain ⟨xss, n', hl, hr, hx⟩ := h.slice ht hC hB (by decide)
  obtain ⟨bs, rfl, _⟩ := list_of (fun b : UInt8 => [Value.int .u8 b.toNat]) (fun _ => True) xss fun x hx' => by
    obtain ⟨_, d', h'⟩ := hx x hx'
    obtain ⟨z, rfl, hz⟩ := h'.u8 he
    refine ⟨UInt8.ofNat z, ?_, trivial⟩
    have : (UInt8.ofNat z).toNat = z := by simp; omega
    rw [this]
  simp only [List.length_map, Nat.mul_one] at hl hr
  have hf : (bs.map fun b : UInt8 => [Value.int .u8 b.toNat]).flatten = bytesV bs := by
    unfold bytesV
    clear hl hr hx
    induction bs with
    | nil => rfl
    | cons b r ih => simp [ih]
  rw [hf] at hr
  refine ⟨bs, ?_, hl.1, hl.2⟩
  rcases hr with ⟨p, c, rfl, h1, _⟩ | ⟨b, off, c, rfl, _, hc⟩
  · exact .inl ⟨p, c, rfl, List.eq_nil_of_length_eq_zero h1⟩
  · exact .inr ⟨b, off, c, rfl, hc⟩
end
end Go.Proofs.YtamobccbioafmaaDoor

/-
  A law's arguments: headers, questions, records, and slices of them.
-/
namespace Go.Proofs.YtamobccbioafmaaDoor
open Go Go.ChangeShapes Go.WideShapes Go.ChangeAt Go.RowKit Go.Deep
set_option maxRecDepth 100000

section
variable {H : Type} {enc : TypeId × Value → H} {w : World} {n : Nat} {cs : List Value} {d : DataW H} {B : Nat}

theorem openHead (h : Rd enc Tryd.prog w n 24 cs d B) : ∃ x : Hd, cs = hdCs x ∧ x.wf := by
  obtain ⟨hlen, n', hf⟩ := h.struct Tryd.underlying24 (by kernel_rfl) (by kernel_rfl)
  match cs, hlen with
  | [c0, c1, c2, c3, c4, c5, c6, c7, c8, c9], _ =>
    obtain ⟨d0, h0⟩ := hf 0 _ _ rfl rfl
    obtain ⟨x0, e0, l0⟩ := h0.u16 Tryd.underlying22
    obtain ⟨rfl, _⟩ := List.cons.inj e0
    obtain ⟨d1, h1⟩ := hf 1 _ _ rfl rfl
    obtain ⟨x1, e1⟩ := h1.bool Tryd.underlying4
    obtain ⟨rfl, _⟩ := List.cons.inj e1
    obtain ⟨d2, h2⟩ := hf 2 _ _ rfl rfl
    obtain ⟨x2, e2, l2⟩ := h2.u16 Tryd.underlying22
    obtain ⟨rfl, _⟩ := List.cons.inj e2
    obtain ⟨d3, h3⟩ := hf 3 _ _ rfl rfl
    obtain ⟨x3, e3⟩ := h3.bool Tryd.underlying4
    obtain ⟨rfl, _⟩ := List.cons.inj e3
    obtain ⟨d4, h4⟩ := hf 4 _ _ rfl rfl
    obtain ⟨x4, e4⟩ := h4.bool Tryd.underlying4
    obtain ⟨rfl, _⟩ := List.cons.inj e4
    obtain ⟨d5, h5⟩ := hf 5 _ _ rfl rfl
    obtain ⟨x5, e5⟩ := h5.bool Tryd.underlying4
    obtain ⟨rfl, _⟩ := List.cons.inj e5
    obtain ⟨d6, h6⟩ := hf 6 _ _ rfl rfl
    obtain ⟨x6, e6⟩ := h6.bool Tryd.underlying4
    obtain ⟨rfl, _⟩ := List.cons.inj e6
    obtain ⟨d7, h7⟩ := hf 7 _ _ rfl rfl
    obtain ⟨x7, e7⟩ := h7.bool Tryd.underlying4
    obtain ⟨rfl, _⟩ := List.cons.inj e7
    obtain ⟨d8, h8⟩ := hf 8 _ _ rfl rfl
    obtain ⟨x8, e8⟩ := h8.bool Tryd.underlying4
    obtain ⟨rfl, _⟩ := List.cons.inj e8
    obtain ⟨d9, h9⟩ := hf 9 _ _ rfl rfl
    obtain ⟨x9, e9, l9⟩ := h9.u16 Tryd.underlying22
    obtain ⟨rfl, _⟩ := List.cons.inj e9
    exact ⟨⟨x0, x1, x2, x3, x4, x5, x6, x7, x8, x9⟩, rfl, l0, l2, l9⟩
theorem openAsk (h : Rd enc Tryd.prog w n 91 cs d B) : ∃ a : AskD, cs = a.cells ∧ a.wf := by
  obtain ⟨hlen, n', hf⟩ := h.struct Tryd.underlying91 (by kernel_rfl) (by kernel_rfl)
  match cs, hlen with
  | [c0, c1, c2], _ =>
    obtain ⟨d0, h0⟩ := hf 0 _ _ rfl rfl
    obtain ⟨x0, e0, l0, _⟩ := h0.string Tryd.underlying9
    obtain ⟨rfl, _⟩ := List.cons.inj e0
    obtain ⟨d1, h1⟩ := hf 1 _ _ rfl rfl
    obtain ⟨x1, e1, l1⟩ := h1.u16 Tryd.underlying22
    obtain ⟨rfl, _⟩ := List.cons.inj e1
    obtain ⟨d2, h2⟩ := hf 2 _ _ rfl rfl
    obtain ⟨x2, e2, l2⟩ := h2.u16 Tryd.underlying22
    obtain ⟨rfl, _⟩ := List.cons.inj e2
    exact ⟨⟨x0, x1, x2⟩, rfl, l1, l2, l0⟩
theorem openAsks {v : Value} (h : Rd enc Tryd.prog w n 25 [v] d B) : ∃ qs : List AskD, Asks w v qs ∧ qs.length * 24 ≤ 140737488351232 ∧ ∀ a ∈ qs, a.wf := by
  obtain ⟨xss, n', hl, hr, hx⟩ := h.slice Tryd.underlying25 (sz := 3) (bytes := 24) (by kernel_rfl) (by kernel_rfl) (by decide)
  obtain ⟨qs, rfl, hq⟩ := list_of AskD.cells AskD.wf xss fun x hx' => by
    obtain ⟨_, d', h'⟩ := hx x hx'
    exact openAsk h'
  rw [List.length_map] at hl hr
  exact ⟨qs, hr, hl.1, hq⟩
theorem openTexts {v : Value} (h : Rd enc Tryd.prog w n 32 [v] d B) : ∃ ts : List ByteArray, Row w 1 v ts.length (ts.map Value.string) ∧ ts.length * 16 ≤ 140737488351232 ∧ (∀ s ∈ ts, s.size ≤ 140737488351232) ∧ ts.length ≤ B ∧ ∀ s ∈ ts, s.size ≤ B := by
  obtain ⟨xss, n', hl, hr, hx⟩ := h.slice Tryd.underlying32 (sz := 1) (bytes := 16) (by kernel_rfl) (by kernel_rfl) (by decide)
  obtain ⟨qs, rfl, hq⟩ := list_of (fun s : ByteArray => [Value.string s]) (fun s => s.size ≤ 140737488351232 ∧ s.size ≤ B) xss fun x hx' => by
    obtain ⟨_, d', h'⟩ := hx x hx'
    exact h'.string Tryd.underlying9
  rw [List.length_map] at hl hr
  have hf : (qs.map fun s : ByteArray => [Value.string s]).flatten = qs.map Value.string := by
    clear hl hr hx hq
    induction qs with
    | nil => rfl
    | cons b r ih => simp [ih]
  rw [hf] at hr
  exact ⟨qs, hr, hl.1, fun s hs => (hq s hs).1, hl.2, fun s hs => (hq s hs).2⟩
theorem openPair (h : Rd enc Tryd.prog w n 160 cs d B) : ∃ a : PairD, cs = a.cells ∧ ((a.key < 65536 ∧ a.data.length ≤ 140737488351232) ∧ a.data.length ≤ B) ∧ Bytes w a.dataV a.data := by
  obtain ⟨hlen, n', hf⟩ := h.struct Tryd.underlying160 (by kernel_rfl) (by kernel_rfl)
  match cs, hlen with
  | [c0, c1], _ =>
    obtain ⟨d0, h0⟩ := hf 0 _ _ rfl rfl
    obtain ⟨x0, e0, l0⟩ := h0.u16 Tryd.underlying22
    obtain ⟨rfl, _⟩ := List.cons.inj e0
    obtain ⟨d1, h1⟩ := hf 1 _ _ rfl rfl
    obtain ⟨x1, b1, l1, m1⟩ := h1.bytes Tryd.underlying31 Tryd.underlying5 (by kernel_rfl) (by kernel_rfl)
    exact ⟨⟨x0, c1, x1⟩, rfl, ⟨⟨l0, l1⟩, m1⟩, b1⟩
theorem openPairs {v : Value} (h : Rd enc Tryd.prog w n 33 [v] d B) : ∃ qs : List PairD, Pairs w v qs ∧ (qs.length * 32 ≤ 140737488351232 ∧ qs.length ≤ B) ∧ ∀ a ∈ qs, ((a.key < 65536 ∧ a.data.length ≤ 140737488351232) ∧ a.data.length ≤ B) ∧ Bytes w a.dataV a.data := by
  obtain ⟨xss, n', hl, hr, hx⟩ := h.slice Tryd.underlying33 (sz := 2) (bytes := 32) (by kernel_rfl) (by kernel_rfl) (by decide)
  obtain ⟨qs, rfl, hq⟩ := list_of PairD.cells (fun a => ((a.key < 65536 ∧ a.data.length ≤ 140737488351232) ∧ a.data.length ≤ B) ∧ Bytes w a.dataV a.data) xss fun x hx' => by
    obtain ⟨_, d', h'⟩ := hx x hx'
    exact openPair h'
  rw [List.length_map] at hl hr
  exact ⟨qs, hr, hl, hq⟩

theorem openRec (h : Rd enc Tryd.prog w n 35 cs d B) : ∃ r : RecD, cs = r.cells ∧ r.wf ∧ RecOk w r ∧ r.upto B := by
  obtain ⟨hlen, n', hf⟩ := h.struct Tryd.underlying35 (by kernel_rfl) (by kernel_rfl)
  match cs, hlen with
  | [c0, c1, c2, c3, c4, c5, c6, c7, c8, c9, c10, c11, c12, c13, c14, c15], _ =>
    obtain ⟨d0, h0⟩ := hf 0 _ _ rfl rfl
    obtain ⟨x0, e0, l0, _⟩ := h0.string Tryd.underlying9
    obtain ⟨rfl, _⟩ := List.cons.inj e0
    obtain ⟨d1, h1⟩ := hf 1 _ _ rfl rfl
    obtain ⟨x1, e1, l1⟩ := h1.u16 Tryd.underlying22
    obtain ⟨rfl, _⟩ := List.cons.inj e1
    obtain ⟨d2, h2⟩ := hf 2 _ _ rfl rfl
    obtain ⟨x2, e2, l2⟩ := h2.u16 Tryd.underlying22
    obtain ⟨rfl, _⟩ := List.cons.inj e2
    obtain ⟨d3, h3⟩ := hf 3 _ _ rfl rfl
    obtain ⟨x3, e3, l3⟩ := h3.u32 Tryd.underlying30
    obtain ⟨rfl, _⟩ := List.cons.inj e3
    obtain ⟨d4, h4⟩ := hf 4 _ _ rfl rfl
    obtain ⟨x4, e4, l4⟩ := h4.u16 Tryd.underlying22
    obtain ⟨rfl, _⟩ := List.cons.inj e4
    obtain ⟨d5, h5⟩ := hf 5 _ _ rfl rfl
    obtain ⟨x5, e5, _⟩ := h5.int Tryd.underlying3
    obtain ⟨rfl, _⟩ := List.cons.inj e5
    obtain ⟨d6, h6⟩ := hf 6 _ _ rfl rfl
    obtain ⟨x6, b6, l6, _⟩ := h6.bytes Tryd.underlying31 Tryd.underlying5 (by kernel_rfl) (by kernel_rfl)
    obtain ⟨d7, h7⟩ := hf 7 _ _ rfl rfl
    obtain ⟨x7, e7, l7, _⟩ := h7.string Tryd.underlying9
    obtain ⟨rfl, _⟩ := List.cons.inj e7
    obtain ⟨d8, h8⟩ := hf 8 _ _ rfl rfl
    obtain ⟨x8, e8, l8, _⟩ := h8.string Tryd.underlying9
    obtain ⟨rfl, _⟩ := List.cons.inj e8
    obtain ⟨d9, h9⟩ := hf 9 _ _ rfl rfl
    obtain ⟨x9, e9, l9⟩ := h9.u32 Tryd.underlying30
    obtain ⟨rfl, _⟩ := List.cons.inj e9
    obtain ⟨d10, h10⟩ := hf 10 _ _ rfl rfl
    obtain ⟨x10, e10, l10⟩ := h10.u32 Tryd.underlying30
    obtain ⟨rfl, _⟩ := List.cons.inj e10
    obtain ⟨d11, h11⟩ := hf 11 _ _ rfl rfl
    obtain ⟨x11, e11, l11⟩ := h11.u32 Tryd.underlying30
    obtain ⟨rfl, _⟩ := List.cons.inj e11
    obtain ⟨d12, h12⟩ := hf 12 _ _ rfl rfl
    obtain ⟨x12, e12, l12⟩ := h12.u32 Tryd.underlying30
    obtain ⟨rfl, _⟩ := List.cons.inj e12
    obtain ⟨d13, h13⟩ := hf 13 _ _ rfl rfl
    obtain ⟨x13, e13, l13⟩ := h13.u32 Tryd.underlying30
    obtain ⟨rfl, _⟩ := List.cons.inj e13
    obtain ⟨d14, h14⟩ := hf 14 _ _ rfl rfl
    obtain ⟨x14, b14, l14, m14, u14, y14⟩ := openTexts h14
    obtain ⟨d15, h15⟩ := hf 15 _ _ rfl rfl
    obtain ⟨x15, b15, l15, m15⟩ := openPairs h15
    exact ⟨⟨x0, x1, x2, x3, x4, x5, c6, x6, x7, x8, x9, x10, x11, x12, x13, c14, x14, c15, x15⟩, rfl, ⟨l1, l2, l3, l4, l9, l10, l11, l12, l13, l0, l7, l8, l6, l14, m14, l15.1, fun p hp => (m15 p hp).1.1⟩, ⟨b6, b14, b15, fun p hp => (m15 p hp).2⟩, ⟨u14, y14, l15.2, fun p hp => (m15 p hp).1.2⟩⟩
theorem openRecs {v : Value} (h : Rd enc Tryd.prog w n 26 [v] d B) : ∃ rs : List RecD, Recs w v rs ∧ rs.length * 168 ≤ 140737488351232 ∧ (∀ r ∈ rs, r.wf) ∧ ∀ r ∈ rs, r.upto B := by
  obtain ⟨xss, n', hl, hr, hx⟩ := h.slice Tryd.underlying26 (sz := 16) (bytes := 168) (by kernel_rfl) (by kernel_rfl) (by decide)
  obtain ⟨qs, rfl, hq⟩ := list_of RecD.cells (fun r => r.wf ∧ RecOk w r ∧ r.upto B) xss fun x hx' => by
    obtain ⟨_, d', h'⟩ := hx x hx'
    exact openRec h'
  rw [List.length_map] at hl hr
  exact ⟨qs, ⟨hr, fun r hr => (hq r hr).2.1⟩, hl.1, fun r hr => (hq r hr).1, fun r hr => (hq r hr).2.2⟩
end
end Go.Proofs.YtamobccbioafmaaDoor

/-
  What the cards of this seat share.
-/
namespace Go.Proofs.YtamobccbioafmaaDoor
open Go
theorem own_ : ownKnob Tryd.prog.godebug = none := by kernel_rfl
theorem mayEnter_ : Tryd.pinned.checked.prog.mayEnter = true := by kernel_rfl
theorem lifts_ : Tryd.pinned.checked.prog.liftsFinal = false := by kernel_rfl
theorem make_ : Tryd.pinned.checked.prog.make = some .cut := by kernel_rfl
theorem main_ : Tryd.pinned.checked.prog.mainIs = some (true, ("e5222cd5698a3ecafa955ffb915cc210de58aa2a619e01542d349b886eaa3f75" : String).toList) := by kernel_rfl
theorem looks_ : true = Tryd.pinned.checked.prog.looks [] := by kernel_rfl
theorem laidOut_ : laidOutB Tryd.prog = true := by kernel_rfl
end Go.Proofs.YtamobccbioafmaaDoor
