/-
  From a function's contract to the given row: what the arguments and the listed variables read as when nothing below the heap's old size has turned.
-/
import Derived.Test.YtdiememgbnplkaaDoorMem4
import Derived.ProofKit
import Derived.OpenShut
import Derived.Carry
import Derived.MakeChecks
import Derived.LaidMore
import Derived.LaidLaws
import Derived.Deep.DeepHandedRow
namespace Go.Proofs.YtdiememgbnplkaaDoor
open Go Go.ChangeShapes Go.WideShapes Go.ChangeAt Go.RowKit

theorem trodAll_below {H : Type} {enc : TypeId × Value → H} {P : Program} (hl : laidOutB P = true) {W W' : World} (hb : Below W.heap.size W W') :
    ∀ {ts : List TypeId} {vs : List Value} {ds : List (DataW H)} {ps : List MemPlace}, (ts.all fun t => P.readableRec t && decide (t < P.types.size)) = true → DataW.TrodAll enc P W 0 (fun _ => true) true ts vs ds ps → (∀ x ∈ ps, x.block < W.heap.size) →
      DataW.TrodAll enc P W' 0 (fun b => decide (b < W.heap.size)) true ts vs ds ps
  | [], [], [], _, _, h, _ => h
  | t :: ts, v :: vs, d :: ds, ps, hr, h, hlt => by
    obtain ⟨p, q, h1, h2, rfl⟩ := h
    simp only [List.all_cons, Bool.and_eq_true, decide_eq_true_eq] at hr
    exact ⟨p, q, Below.trod hl hr.1.1 hr.1.2 h1 hb fun x hx => hlt x (by simp [hx]), trodAll_below hl hb (by simpa using hr.2) h2 fun x hx => hlt x (by simp [hx]), rfl⟩

def varsOk (P : Program) (ns : List String) : Bool := ns.all fun n => ((P.globalNamed n).bind (P.globals[·]?)).all fun gl => P.readableRec gl.type && decide (gl.type < P.types.size)

theorem trodVars_below {H : Type} {enc : TypeId × Value → H} {P : Program} (hl : laidOutB P = true) {W W' : World} (hb : Below W.heap.size W W') :
    ∀ {ns : List String} {gs : List (DataW H)} {ps : List MemPlace}, varsOk P ns = true → DataW.TrodVars enc P W (fun _ => true) ns gs ps → (∀ x ∈ ps, x.block < W.heap.size) → DataW.TrodVars enc P W' (fun b => decide (b < W.heap.size)) ns gs ps
  | [], [], _, _, h, _ => h
  | n :: ns, d :: ds, ps, hv, h, hlt => by
    obtain ⟨g, t, cs, fuel, p, q, hg, ht, hc, hd, hr, rfl⟩ := h
    simp only [varsOk, List.all_cons, Bool.and_eq_true] at hv
    have h1 : P.readableRec t = true ∧ t < P.types.size := by
      have := hv.1
      rw [hg] at this
      cases hq : P.globals[g]? with
      | none => rw [hq] at ht; cases ht
      | some gl =>
        rw [hq] at ht
        obtain rfl : gl.type = t := Option.some.inj ht
        simpa [hq] using this
    have h2 : DataW.Trod enc P W 0 (fun _ => true) true t (.agg cs) d p := ⟨fuel, hd⟩
    obtain ⟨fuel', h3⟩ := Below.trod hl h1.1 h1.2 h2 hb fun x hx => hlt x (by simp [hx])
    have h4 : W'.var? P n = some cs := by
      have hgl : g < W.heap.size := by
        simp only [World.var?, hg, Option.bind_some] at hc
        rcases Nat.lt_or_ge g W.heap.size with h | h
        · exact h
        · rw [Array.getElem?_eq_none h] at hc
          cases hc
      simp only [World.var?, hg, Option.bind_some] at hc ⊢
      rw [hb.block g hgl]
      exact hc
    exact ⟨g, t, cs, fuel', p, q, hg, ht, h4, h3, trodVars_below hl hb (by simpa [varsOk] using hv.2) hr fun x hx => hlt x (by simp [hx]), rfl⟩

/-- the law's answer is true, and nothing old has turned -/
theorem post_true {H : Type} {enc : TypeId × Value → H} {P : Program} {f : Func} {s : ChangeSpec} {fresh : Bool} {W W' : World} {args : Array Value} {ds gs : List (DataW H)} {before : List MemPlace} {tb : TypeId}
    (hl : laidOutB P = true) (hp : (f.params.toList.all fun t => P.readableRec t && decide (t < P.types.size)) = true) (hv : varsOk P s.vars = true) (hr : f.resultTypes = #[tb]) (hu : P.underlying tb = some .bool)
    (hW : DataW.Whole enc P f.params.toList s.vars false W args.toList ds gs before) (hb : Below W.heap.size W W') (hs : s.fn H (ds ++ gs) = { results := [.lit (.bool true)], args := ds, vars := gs }) :
    s.post enc P f false fresh false false W args (.bool true) W' := by
  have hlt := hW.lt
  have hW0 := hW
  obtain ⟨p, q, hA, hV, rfl, hz, hn⟩ := hW
  refine ⟨ds, gs, p ++ q, [], p, q, hW0, ?_, ?_, ?_, hb.frame _, fun h => by cases h⟩
  · rw [hr, hs]
    exact trodAll_cons_mk (shut_bool hu _) trodAll_mk0
  · rw [hs]
    exact trodAll_below hl hb hp hA fun x hx => hlt x (by simp [hx])
  · rw [hs]
    exact trodVars_below hl hb hv hV fun x hx => hlt x (by simp [hx])

def allHeld {H : Type} (l : List (DataW H)) : Bool := l.all fun d => match d with | .held _ => true | _ => false
theorem allHeld_ex {H : Type} : ∀ {l : List (DataW H)}, allHeld l = true → ∃ hs : List H, l = hs.map .held
  | [], _ => ⟨[], rfl⟩
  | .held a :: r, h => by
    obtain ⟨hs, rfl⟩ := allHeld_ex (l := r) (by simpa [allHeld] using h)
    exact ⟨a :: hs, rfl⟩
theorem whole_ex {H : Type} {o : Option (List (DataW H) × List (DataW H) × List MemPlace)} {ds : List (DataW H)} {n : Nat} (h1 : o.map (·.1) = some ds) (h2 : o.map (fun x => allHeld x.2.1) = some true) (h3 : o.map (fun x => x.2.1.length) = some n) :
    ∃ (hs : List H) (ps : List MemPlace), hs.length = n ∧ o = some (ds, hs.map .held, ps) := by
  cases o with
  | none => cases h1
  | some x =>
    obtain ⟨a, b, c⟩ := x
    simp at h1 h2 h3
    obtain ⟨hs, rfl⟩ := allHeld_ex h2
    exact ⟨hs, c, by simpa using h3, by rw [h1]⟩

/-- a listed error variable holds an error of the type that the list names -/
theorem iface_of_trod {H : Type} {enc : TypeId × Value → H} {P : Program} {w : World} {base : Nat} {sp : Nat → Bool} {t : TypeId} {ms : Array (String × TypeId)} (ht : P.underlying t = some (.interface ms)) {fuel : Nat} {cs : List Value} {nm : String} {d : DataW H} {p : List MemPlace}
    (h : DataW.trod enc P w base sp false fuel t cs = some (.iface nm d, p)) : ∃ u v, cs = [.iface u v] ∧ P.typeName? 3 u = some nm := by
  cases fuel with
  | zero => simp [DataW.trod] at h
  | succ n =>
    unfold DataW.trod at h
    rw [ht] at h
    match cs, h with
    | [.nilIface], h => simp at h
    | .nilIface :: _ :: _, h => simp at h
    | [.iface u v], h =>
      refine ⟨u, v, rfl, ?_⟩
      cases hn : P.typeName? 3 u with
      | none => simp [hn] at h
      | some m =>
        simp only [hn, Option.map_eq_some_iff] at h
        obtain ⟨x, _, hx⟩ := h
        simp at hx
        rw [hx.1.1]

theorem laid_iface {P : Program} {w : World} {n nm : String} {d : DataW Unit} {g : Nat} {t : TypeId} {ms : Array (String × TypeId)} (hg : P.globalNamed n = some g) (ht : (P.globals[g]?).map (·.type) = some t) (hu : P.underlying t = some (.interface ms)) :
    ∀ {l : List (String × DataW Unit)} {ps : List MemPlace}, (n, .iface nm d) ∈ l → DataW.LaidVars P w l ps → ∃ u v, Cells w g 0 [.iface u v] ∧ P.typeName? 3 u = some nm
  | [], _, h, _ => by cases h
  | (n', d') :: r, ps, h, hl => by
    obtain ⟨g', t', cs, fuel, p, q, h1, h2, h3, h4, h5, _⟩ := hl
    rcases List.mem_cons.1 h with h | h
    · injection h with ha hb
      subst ha hb
      obtain rfl := Option.some.inj (hg.symm.trans h1)
      obtain rfl := Option.some.inj (ht.symm.trans h2)
      obtain ⟨u, v, hc, hn⟩ := iface_of_trod hu h4
      refine ⟨u, v, ?_, hn⟩
      unfold World.var? at h3
      rw [hg] at h3
      simp only [Option.bind_some] at h3
      split at h3
      · rename_i c T fr hh
        simp at h3
        subst h3
        exact ⟨c, T, fr, hh, by have := congrArg List.length hc; simp at this; simp [this], by rw [hc]; rfl⟩
      · cases h3
    · exact laid_iface hg ht hu h h5

theorem laid_iface' {P : Program} {w : World} {l : List (String × DataW Unit)} (n : String) {nm : String} {d : DataW Unit} {g : Nat} {t : TypeId} {ms : Array (String × TypeId)} (hh : (l.all fun x => x.2.handleName?.isNone) = true) (hL : laidMetH P l w) (hg : P.globalNamed n = some g) (ht : (P.globals[g]?).map (·.type) = some t) (hu : P.underlying t = some (.interface ms)) (hm : (n, .iface nm d) ∈ l) :
    ∃ u v, Cells w g 0 [.iface u v] ∧ P.typeName? 3 u = some nm := by
  rw [Go.MakeChecks.laidMetH_plain P l w hh] at hL
  obtain ⟨ps, h, _⟩ := hL
  exact laid_iface hg ht hu hm h
theorem row_mem (a : Addr) (n k : Nat) (hk : k < n) : MemPlace.cell a.block (a.off + k) ∈ MemPlace.row a n := by
  unfold MemPlace.row
  exact List.mem_map.2 ⟨k, List.mem_range.2 hk, rfl⟩

theorem laid_err_in {P : Program} {w : World} {n nm : String} {d : DataW Unit} {g : Nat} {t : TypeId} {ms : Array (String × TypeId)} (hg : P.globalNamed n = some g) (ht : (P.globals[g]?).map (·.type) = some t) (hu : P.underlying t = some (.interface ms)) :
    ∀ {l : List (String × DataW Unit)} {ps : List MemPlace}, (n, .iface nm (.ptr d)) ∈ l → DataW.LaidVars P w l ps → (∀ b off, MemPlace.cell b off ∈ ps → ∀ u v, w.cell? ⟨b, off, none⟩ = some (.iface u v) → Value.okWide P w .any 0 u v) →
      ∃ u v, Cells w g 0 [.iface u v] ∧ P.typeName? 3 u = some nm ∧ Value.okWide P w .any 0 u v ∧ ∃ fuel p, DataW.trod (fun _ => ()) P w 0 (fun _ => true) false fuel u v.cells.toList = some (.ptr d, p)
  | [], _, h, _, _ => by cases h
  | (n', d') :: r, ps, h, hl, hok => by
    obtain ⟨g', t', cs, fuel, p, q, h1, h2, h3, h4, h5, rfl⟩ := hl
    rcases List.mem_cons.1 h with h | h
    · injection h with ha hb
      subst ha hb
      obtain rfl := Option.some.inj (hg.symm.trans h1)
      obtain rfl := Option.some.inj (ht.symm.trans h2)
      obtain ⟨u, v, hc, hn⟩ := iface_of_trod hu h4
      have hcells : Cells w g 0 [.iface u v] := by
        unfold World.var? at h3
        rw [hg] at h3
        simp only [Option.bind_some] at h3
        split at h3
        · rename_i c T fr hh
          simp at h3
          subst h3
          exact ⟨c, T, fr, hh, by have := congrArg List.length hc; simp at this; simp [this], by rw [hc]; rfl⟩
        · cases h3
      have hsz : cs.size = 1 := by have := congrArg List.length hc; simpa using this
      refine ⟨u, v, hcells, hn, hok g 0 ?_ u v ?_, ?_⟩
      · have := row_mem ⟨g, 0, none⟩ cs.size 0 (by omega)
        simp only [Nat.add_zero] at this
        simp [this]
      · simpa using hcells.cell 0 _ rfl
      · cases fuel with
        | zero => simp [DataW.trod] at h4
        | succ k =>
          rw [hc] at h4
          unfold DataW.trod at h4
          rw [hu] at h4
          simp only [hn, Option.map_eq_some_iff] at h4
          obtain ⟨x, hx, he⟩ := h4
          simp at he
          exact ⟨k, x.2, by rw [hx, ← he.1]⟩
    · exact laid_err_in hg ht hu h h5 fun b off hb => hok b off (by simp [hb])

/-- a listed error variable holds a pointer of its type -/
theorem laid_err {P : Program} {w : World} {l : List (String × DataW Unit)} (n : String) {nm : String} {d : DataW Unit} {g : Nat} {t k e : TypeId} {ms : Array (String × TypeId)} (hh : (l.all fun x => x.2.handleName?.isNone) = true) (hL : laidMetH P l w) (hg : P.globalNamed n = some g) (ht : (P.globals[g]?).map (·.type) = some t) (hu : P.underlying t = some (.interface ms)) (hm : (n, .iface nm (.ptr d)) ∈ l)
    (ho : ∀ u, P.typeName? 3 u = some nm → u = k) (hk : P.underlying k = some (.pointer e)) : ∃ a, Cells w g 0 [.iface k (.pointer (some a))] := by
  rw [Go.MakeChecks.laidMetH_plain P l w hh] at hL
  obtain ⟨ps, h, _, hok⟩ := hL
  obtain ⟨u, v, hc, hn, hw, fuel, p, htr⟩ := laid_err_in hg ht hu hm h fun b off hb => (hok b off hb).2
  obtain rfl := ho u hn
  obtain ⟨a, rfl⟩ := okWide_pointer hk hw
  cases a with
  | some a => exact ⟨a, hc⟩
  | none =>
    rcases DataW.trod_pointer hk htr with ⟨_, h2⟩ | ⟨a, cs', y, m, _, h2, _⟩
    · cases h2
    · cases h2

theorem trodVars_len {H : Type} {enc : TypeId × Value → H} {P : Program} {W : World} {sp : Nat → Bool} : ∀ {ns : List String} {gs : List (DataW H)} {ps : List MemPlace}, DataW.TrodVars enc P W sp ns gs ps → gs.length = ns.length
  | [], [], _, _ => rfl
  | _ :: ns, _ :: gs, _, h => by
    obtain ⟨_, _, _, _, _, _, _, _, _, _, h, _⟩ := h
    simp [trodVars_len h]
  | [], _ :: _, _, h => h.elim
  | _ :: _, [], _, h => h.elim
end Go.Proofs.YtdiememgbnplkaaDoor
