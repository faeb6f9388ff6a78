/-
  The operations that change memory.
-/
import Derived.Test.YtdiememgbnplkaaDoorOps
namespace Go.Proofs.YtdiememgbnplkaaDoor
open Go

section
variable {P : Program} {Q : Exit → Act → World → Prop} {n : Nat} {w0 : World} {S : List Nat} {o : Oper} {L : List (Nat × Value)} {H : List Res} {M : List (Nat × Value) → List Res → Prop}

/-- an operation that runs to a value in a new world -/
theorem OpJ.val {d : Nat} (hd : o.dst = some d) (hn : d.blt n = true)
    (h : ∀ a w, E n a L → Inv w0 S H w → ∃ v w' H', (execOp a.eval o).run P w = .ok (.value v) w' ∧ Inv w0 S H' w' ∧ M ((d, v) :: L) H') : OpJ P Q n w0 S o L H M :=
  fun K hK a w hE hI => by
    obtain ⟨v, w', H', hr, hI', hM⟩ := h a w hE hI
    unfold Oper.wp
    rw [hr]
    show K (a.put o.dst v) w'
    rw [hd]
    exact hK _ _ hM _ _ (hE.put hn) hI'

/-- an operation that runs to nothing in a new world -/
theorem OpJ.eff (hd : o.dst = none)
    (h : ∀ a w, E n a L → Inv w0 S H w → ∃ w' H', (execOp a.eval o).run P w = .ok .skip w' ∧ Inv w0 S H' w' ∧ M L H') : OpJ P Q n w0 S o L H M :=
  fun K hK a w hE hI => by
    obtain ⟨w', H', hr, hI', hM⟩ := h a w hE hI
    unfold Oper.wp
    rw [hr]
    show K (a.put o.dst undef) w'
    rw [hd]
    exact hK _ _ hM _ _ hE hI'

theorem OpJ.alloc {T : TypeId} {d : Nat} {z : Value} (ho : o.op = .alloc T) (hd : o.dst = some d) (hn : d.blt n = true) (hz : (P.info? T).bind (·.zero) = some z)
    (h : ∀ b, w0.heap.size ≤ b → M ((d, .pointer (some ⟨b, 0, none⟩)) :: L) (.blk b z.cells T :: H)) : OpJ P Q n w0 S o L H M :=
  OpJ.val hd hn fun a w _ hI => by
    cases hq : P.info? T with
    | none => simp [hq] at hz
    | some i =>
      have hz' : i.zero = some z := by simpa [hq] using hz
      refine ⟨_, w.alloc (.cells z.cells T), _, ?_, hI.new (w.alloc (.cells z.cells T)) _ rfl rfl rfl rfl (.blk w.heap.size z.cells T) ?_ (by simp [Res.ats]), h w.heap.size hI.keep.size⟩
      · simp [execOp, ho, Instr.alloc, zeroValue, typeInfo, hq, hz', newVar, newRow]
      · exact heap_alloc_new w _

theorem OpJ.box {T : TypeId} {d : Nat} {x : Operand} {v : Value} (ho : o.op = .box T x) (hd : o.dst = some d) (hn : d.blt n = true) (hx : ev L x = some v)
    (h : ∀ b, w0.heap.size ≤ b → M ((d, .pointer (some ⟨b, 0, none⟩)) :: L) (.blk b v.cells T :: H)) : OpJ P Q n w0 S o L H M :=
  OpJ.val hd hn fun a w hE hI => by
    refine ⟨_, w.alloc (.cells v.cells T), _, ?_, hI.new (w.alloc (.cells v.cells T)) _ rfl rfl rfl rfl (.blk w.heap.size v.cells T) ?_ (by simp [Res.ats]), h w.heap.size hI.keep.size⟩
    · simp [execOp, ho, Instr.box, hE.eval hx, newVar, newRow]
    · exact heap_alloc_new w _

/-- cells written into a row -/
def setCs (cs : Array Value) (off : Nat) (vs : List Value) : Array Value := (cs.toList.take off ++ vs ++ cs.toList.drop (off + vs.length)).toArray

theorem setCs_size {cs : Array Value} {off : Nat} {vs : List Value} (h : off + vs.length ≤ cs.size) : (setCs cs off vs).size = cs.size := by
  simp [setCs]; omega

def oneCells (vs : List Value) : Bool := vs.all Value.oneCell'

theorem heap_setRow_other (w : World) (g : Nat) (cs : Array Value) {b : Nat} (h : b ≠ g) : (w.setRow g cs).heap[b]? = w.heap[b]? := by
  simp only [World.setRow, Array.getElem?_modify]
  rw [if_neg (fun e => h e.symm)]

/-- a row of a resource is written -/
theorem Inv.setRow {w : World} (hI : Inv w0 S H w) {i b : Nat} {cs : Array Value} {T : TypeId} (hi : H[i]? = some (.blk b cs T)) (cs' : Array Value) : Inv w0 S (H.set i (.blk b cs' T)) (w.setRow b cs') :=
  hI.turn hi (w.setRow b cs') rfl rfl rfl (by simp) (fun b' _ hb' => heap_setRow_other w b cs' (by simpa [Res.ats] using hb'))
    (setRow_heap w b cs cs' T _ (hI.hs _ (List.mem_of_getElem? hi))) (fun b' hb' => .inl hb')

theorem OpJ.store {T T' : TypeId} {x y : Operand} {b off i : Nat} {v : Value} {cs : Array Value} (ho : o.op = .store T x y) (hd : o.dst = none) (hx : ev L x = some (.pointer (some ⟨b, off, none⟩))) (hy : ev L y = some v)
    (hz : (P.info? T).map (·.size) = some v.cells.size) (hi : H[i]? = some (.blk b cs T')) (h1 : oneCells v.cells.toList = true) (hl : (off + v.cells.size).ble cs.size = true)
    (h : M L (H.set i (.blk b (setCs cs off v.cells.toList) T'))) : OpJ P Q n w0 S o L H M :=
  OpJ.eff hd fun a w hE hI => by
    have hb : w.heap[b]? = some (.cells cs T' (0, 0)) := hI.hs _ (List.mem_of_getElem? hi)
    have hl' := Nat.le_of_ble_eq_true hl
    have hone : ∀ u ∈ v.cells.toList, u.oneCell' = true := List.all_eq_true.1 h1
    have hst := run_storeCells_at P b off T' v.cells.toList 0 cs w hb (by simpa using hl') hone
    refine ⟨_, _, ?_, hI.setRow hi (setCs cs off v.cells.toList), h⟩
    cases hq : P.info? T with
    | none => simp [hq] at hz
    | some t =>
      have ht : t.size = v.cells.size := by simpa [hq] using hz
      simp only [Nat.add_zero] at hst
      simp [execOp, ho, Instr.storeAt, Instr.sureAddr, hE.eval hx, hE.eval hy, storeVar, sizeOf, typeInfo, hq, ht, hst, setCs]

/-- a whole block -/
theorem OpJ.storeW {T T' : TypeId} {x y : Operand} {b i : Nat} {v : Value} {cs : Array Value} (ho : o.op = .store T x y) (hd : o.dst = none) (hx : ev L x = some (.pointer (some ⟨b, 0, none⟩))) (hy : ev L y = some v)
    (hz : (P.info? T).map (·.size) = some v.cells.size) (hi : H[i]? = some (.blk b cs T')) (h1 : oneCells v.cells.toList = true) (hl : v.cells.size = cs.size)
    (h : M L (H.set i (.blk b v.cells T'))) : OpJ P Q n w0 S o L H M :=
  OpJ.store ho hd hx hy hz hi h1 (by rw [hl]; simp) (by
    have : setCs cs 0 v.cells.toList = v.cells := by
      simp only [setCs, List.take_zero, List.nil_append, Nat.zero_add, Array.length_toList, hl]
      rw [List.drop_of_length_le (by simp), List.append_nil]
    rw [this]
    exact h)

/-- one cell -/
theorem OpJ.store1 {T T' : TypeId} {x y : Operand} {b off i : Nat} {v : Value} {cs : Array Value} (ho : o.op = .store T x y) (hd : o.dst = none) (hx : ev L x = some (.pointer (some ⟨b, off, none⟩))) (hy : ev L y = some v)
    (h1 : v.oneCell' = true) (hz : (P.info? T).map (·.size) = some 1) (hi : H[i]? = some (.blk b cs T')) (hl : (off + 1).ble cs.size = true)
    (h : M L (H.set i (.blk b (setCs cs off [v]) T'))) : OpJ P Q n w0 S o L H M := by
  have hc : v.cells = #[v] := by cases v <;> first | rfl | (simp [Value.oneCell'] at h1)
  refine OpJ.store ho hd hx hy (by rw [hc]; exact hz) hi (by rw [hc]; simp [oneCells, h1]) (by rw [hc]; exact hl) ?_
  rw [hc]
  exact h

theorem OpJ.makeMap {T : TypeId} {d : Nat} (ho : o.op = .makeMap T none) (hd : o.dst = some d) (hn : d.blt n = true)
    (h : ∀ b, w0.heap.size ≤ b → M ((d, .map (some b)) :: L) (.mp (some b) [] :: H)) : OpJ P Q n w0 S o L H M :=
  OpJ.val hd hn fun a w _ hI => by
    refine ⟨_, w.alloc (.map #[] 0), _, ?_, hI.new (w.alloc (.map #[] 0)) _ rfl rfl rfl rfl (.mp (some w.heap.size) []) ⟨#[], 0, heap_alloc_new w _, rfl⟩ (by simp [Res.ats]), h w.heap.size hI.keep.size⟩
    simp [execOp, ho, Instr.makeMap]

/-! ### a call -/
def evs (L : List (Nat × Value)) : List Operand → Option (List Value)
  | [] => some []
  | x :: r => match ev L x, evs L r with
    | some v, some vs => some (v :: vs)
    | _, _ => none

theorem evs_map {a : Act} (hE : E n a L) : ∀ {xs : List Operand} {vs : List Value}, evs L xs = some vs → xs.map a.eval = vs
  | [], vs, h => by simp [evs] at h; simp [h]
  | x :: r, vs, h => by
    simp only [evs] at h
    split at h
    · rename_i v us hv hu
      simp at h
      subst h
      simp [hE.eval hv, evs_map hE hu]
    · cases h

/-- a Go function that the program has -/
structure Has (P : Program) (f : FuncId) : Prop where
  ex : ∃ fn, P.funcs[f]? = some fn ∧ (fn.name == "runtime.NumGoroutine") = false ∧ fn.body.isNone = false

theorem run_call {f : FuncId} (hf : Has P f) (vs : Array Value) (w : World) : (callFunc f vs).run P w = .ok (.enter f vs) w := by
  obtain ⟨fn, h1, h2, h3⟩ := hf.ex
  have h2' : ¬ fn.name = "runtime.NumGoroutine" := by simpa using h2
  have h3' : ¬ fn.body = none := fun h => by simp [h] at h3
  simp [callFunc, h1, h2', h3']

theorem OpJ.callW {f : FuncId} {d : Nat} {xs : List Operand} {ats : Array TypeId} {vs : List Value} {g : Operand} {first cap : Array Value} (hf : Has P f) (ho : o.op = .call ⟨.value g, xs.toArray, ats⟩) (hg : ev L g = some (.func (.func f) first cap)) (hd : o.dst = some d) (hn : d.blt n = true) (hv : evs L xs = some vs)
    (h : ∀ w, Inv w0 S H w → Calls P f (first ++ vs.toArray ++ cap) w fun e w' => ∃ v H', e = .returned v ∧ Inv w0 S H' w' ∧ M ((d, v) :: L) H') : OpJ P Q n w0 S o L H M :=
  fun K hK a w hE hI => by
    have hm := evs_map hE hv
    have hrun : (execOp a.eval o).run P w = .ok (.enter f (first ++ vs.toArray ++ cap)) w := by
      simp [execOp, ho, resolve, hE.eval hg, Deferred.ofValue, invoke, hm, run_call hf]
    unfold Oper.wp
    rw [hrun]
    refine (h w hI).mono fun e w' ⟨v, H', he, hI', hM⟩ => ?_
    subst he
    show K (a.put o.dst v) w'
    rw [hd]
    exact hK _ _ hM _ _ (hE.put hn) hI'

/-- a call by its contract: is: the places of the resources that it is handed; js: the others -/
theorem OpJ.call {f : FuncId} {d : Nat} {xs : List Operand} {ats : Array TypeId} {vs : List Value} {g : Operand} {Hp Hr : List Res} {R : World → Prop} {Post : Value → List Res → Prop} (hs : Spec P f vs Hp R Post) (hf : Has P f) (ho : o.op = .call ⟨.value g, xs.toArray, ats⟩) (hg : ev L g = some (.func (.func f) #[] #[])) (hd : o.dst = some d) (hn : d.blt n = true) (hv : evs L xs = some vs)
    (is js : List Nat) (hnd : (is ++ js).Nodup) (hp : pick H is = some Hp) (hr : pick H js = some Hr) (hR : ∀ w, Inv w0 S H w → R w)
    (h : ∀ v H', Post v H' → M ((d, v) :: L) (H' ++ Hr)) : OpJ P Q n w0 S o L H M :=
  OpJ.callW hf ho hg hd hn hv fun w hI => by
    have := hs w (hI.pre (List.nodup_append.1 hnd).1 hp) (hR w hI)
    simp only [Array.empty_append, Array.append_empty]
    exact this.mono fun e w' ⟨v, H', he, hP, hI'⟩ => ⟨v, H' ++ Hr, he, hI.called hnd hp hr hI', h v H' hP⟩

/-- a call of a function value that holds captured values -/
theorem OpJ.callC {f : FuncId} {d : Nat} {xs : List Operand} {ats : Array TypeId} {vs : List Value} {g : Operand} {cap : List Value} {Hp Hr : List Res} {R : World → Prop} {Post : Value → List Res → Prop} (hs : Spec P f (vs ++ cap) Hp R Post) (hf : Has P f) (ho : o.op = .call ⟨.value g, xs.toArray, ats⟩) (hg : ev L g = some (.func (.func f) #[] cap.toArray)) (hd : o.dst = some d) (hn : d.blt n = true) (hv : evs L xs = some vs)
    (is js : List Nat) (hnd : (is ++ js).Nodup) (hp : pick H is = some Hp) (hr : pick H js = some Hr) (hR : ∀ w, Inv w0 S H w → R w)
    (h : ∀ v H', Post v H' → M ((d, v) :: L) (H' ++ Hr)) : OpJ P Q n w0 S o L H M :=
  OpJ.callW hf ho hg hd hn hv fun w hI => by
    have := hs w (hI.pre (List.nodup_append.1 hnd).1 hp) (hR w hI)
    simp only [Array.empty_append]
    rw [List.append_toArray]
    exact this.mono fun e w' ⟨v, H', he, hP, hI'⟩ => ⟨v, H' ++ Hr, he, hI.called hnd hp hr hI', h v H' hP⟩

/-! ### slices -/
/-- an element type -/
structure Elt (P : Program) (t T : TypeId) (sz bytes : Nat) (z : Value) : Prop where
  und : P.underlying t = some (.slice T)
  pos : 0 < sz
  inf : (P.info? T).map (fun i => (i.zero, i.size, i.bytes)) = some (some z, sz, bytes)
  zsz : z.cells.size = sz
  small : bytes ≤ 65536
theorem roomy {need bytes : Nat} (h : need * bytes ≤ 175921860444160) (hb : bytes ≤ 65536) : (need + need / 4 + 192) * bytes ≤ 281474976710656 := by
  have h1 : need / 4 * bytes ≤ 43980465111040 := by
    have : need / 4 * bytes * 4 ≤ need * bytes := by
      have h2 : need / 4 * 4 ≤ need := Nat.div_mul_le_self need 4
      calc need / 4 * bytes * 4 = need / 4 * 4 * bytes := by rw [Nat.mul_right_comm]
        _ ≤ need * bytes := Nat.mul_le_mul_right _ h2
    omega
  rw [Nat.add_mul, Nat.add_mul]
  omega
theorem Elt.info {P : Program} {t T sz bytes : Nat} {z : Value} (h : Elt P t T sz bytes z) : ∃ i, P.info? T = some i ∧ i.zero = some z ∧ z.cells.size = sz ∧ i.size = sz ∧ i.bytes = bytes := by
  have := h.inf
  cases hq : P.info? T with
  | none => simp [hq] at this
  | some i =>
    simp [hq] at this
    exact ⟨i, rfl, this.1, h.zsz, this.2.1, this.2.2⟩

theorem Own.cells {w : World} {T : TypeId} {sz n : Nat} {v : Value} {xs : List Value} (h : Own w T sz v n xs) : ∀ b off l c, v = .slice (some ⟨b, off, none⟩) l c → off = 0 ∧ l = n ∧ Cells w b 0 xs := by
  intro b off l c hv
  rcases h with ⟨rfl, _, _⟩ | ⟨b', cap, cs, rfl, hb, hn, hsz, hl, hx⟩
  · cases hv
  · simp at hv
    obtain ⟨⟨rfl, rfl⟩, rfl, rfl⟩ := hv
    refine ⟨rfl, rfl, cs, T, (0, 0), hb, ?_, ?_⟩
    · rw [hl, hsz]
      simpa using Nat.mul_le_mul_right sz hn
    · simp [hl, ← hx]

theorem Own.len {w : World} {T : TypeId} {sz n : Nat} {v : Value} {xs : List Value} (h : Own w T sz v n xs) : xs.length = n * sz := by
  rcases h with ⟨_, rfl, rfl⟩ | ⟨b', cap, cs, rfl, hb, hn, hsz, hl, hx⟩
  · simp
  · exact hl

theorem Own.shape {w : World} {T : TypeId} {sz n : Nat} {v : Value} {xs : List Value} (h : Own w T sz v n xs) : ∃ p c, v = .slice p n c ∧ (∀ a, p = some a → a.off = 0 ∧ a.spot = none) ∧ (p = none → n = 0 ∧ c = 0) := by
  rcases h with ⟨rfl, rfl, rfl⟩ | ⟨b', cap, cs, rfl, hb, hn, hsz, hl, hx⟩
  · exact ⟨none, 0, rfl, fun _ h => (by cases h), fun _ => ⟨rfl, rfl⟩⟩
  · exact ⟨_, cap, rfl, fun a h => (by simp at h; subst h; exact ⟨rfl, rfl⟩), fun h => (by cases h)⟩

/-- another slice still owns its row where cells behind its length are written -/
theorem Own.written {w : World} {T : TypeId} {sz n : Nat} {v : Value} {xs : List Value} (h : Own w T sz v n xs) {b k : Nat} {c : Array Value} {news : List Value} (hb : w.heap[b]? = some (.cells c T (0, 0))) (hk : n * sz ≤ k) (hl : k + news.length ≤ c.size) :
    Own (w.setRow b (setCs c k news)) T sz v n xs := by
  rcases h with h | ⟨b', cap, cs, rfl, hb', hn, hsz, hlen, hx⟩
  · exact .inl h
  · by_cases e : b' = b
    · subst e
      rw [hb'] at hb
      simp at hb
      subst hb
      refine .inr ⟨b', cap, setCs cs k news, rfl, setRow_heap w b' cs _ T _ hb', hn, by rw [setCs_size hl, hsz], hlen, ?_⟩
      rw [hx]
      simp only [setCs]
      rw [List.append_assoc, List.take_append_of_le_length (by simp; omega), List.take_take]
      congr 1
      omega
    · exact .inr ⟨b', cap, cs, rfl, (heap_setRow_other w b _ e).trans hb', hn, hsz, hlen, hx⟩

theorem run_append_room {t T tx ty sz bytes : Nat} {z : Value} (he : Elt P t T sz bytes z) {w : World} {b l cap m : Nat} {c : Array Value} {x : Value} {news : List Value} (hs : Src P sz tx x m news w) (hb : w.heap[b]? = some (.cells c T (0, 0))) (hroom : l + m ≤ cap) (hc : c.size = cap * sz) :
    (Builtin.append_ #[t, tx] ty #[.slice (some ⟨b, 0, none⟩) l cap, x]).run P w = .ok (.slice (some ⟨b, 0, none⟩) (l + m) cap) (w.setRow b (setCs c (l * sz) news)) := by
  obtain ⟨i, hi, hz, hzs, hsize, hbytes⟩ := he.info
  have hfit : l * sz + news.length ≤ c.size := by
    rw [hs.newsLen, hc, ← Nat.add_mul]
    exact Nat.mul_le_mul_right sz hroom
  have hst := run_storeCells_at P b (l * sz) T news 0 c w hb (by simpa using hfit) hs.one
  simp only [Nat.add_zero] at hst
  have hx : (setCs c (l * sz) news) = (c.toList.take (l * sz) ++ news ++ c.toList.drop (l * sz + news.length)).toArray := rfl
  rw [hx]
  rcases hs.kind with ⟨e', hk⟩ | hk <;> simp [Builtin.append_, run_underlying he.und, run_underlying hk, sizeOf, typeInfo, hi, hsize, hs.len, hroom, hs.cells, addr_add, hst]

theorem run_append_nil0 {t T tx ty sz bytes : Nat} {z : Value} (he : Elt P t T sz bytes z) {w : World} {x : Value} {news : List Value} (hs : Src P sz tx x 0 news w) :
    (Builtin.append_ #[t, tx] ty #[.slice none 0 0, x]).run P w = .ok (.slice none 0 0) w := by
  obtain ⟨i, hi, hz, hzs, hsize, hbytes⟩ := he.info
  rcases hs.kind with ⟨e', hk⟩ | hk <;> simp [Builtin.append_, run_underlying he.und, run_underlying hk, sizeOf, typeInfo, hi, hsize, hs.len, hs.cells]

/-- append: what it does to the slice and to memory -/
theorem append_own {t T tx ty sz bytes : Nat} {z : Value} (he : Elt P t T sz bytes z) {w : World} {v v' : Value} {k k' m : Nat} {xs xs' : List Value} {x : Value} {news : List Value}
    (hr : (Res.sl T sz v k xs v' k' xs').holds w) (hs : Src P sz tx x m news w) (hroom : (k' + m) * bytes ≤ 175921860444160) (hmax : k' + m ≤ 9223372036854775807) :
    ∃ v'' w', (Builtin.append_ #[t, tx] ty #[v', x]).run P w = .ok v'' w' ∧ (Res.sl T sz v k xs v'' (k' + m) (xs' ++ news)).holds w' ∧
      w'.os = w.os ∧ w'.tape = w.tape ∧ w'.output = w.output ∧ w.heap.size ≤ w'.heap.size ∧ (∀ b, b < w.heap.size → b ∉ blkOf v' → w'.heap[b]? = w.heap[b]?) ∧ (∀ b ∈ blkOf v'', b ∈ blkOf v' ∨ w.heap.size ≤ b) := by
  obtain ⟨hv, hv', hkk⟩ := hr
  have hxl := hv'.len
  obtain ⟨i, hi, hz, hzs, hsize, hbytes⟩ := he.info
  have grow : ∀ (p : Option Addr) (cap : Nat), v' = .slice p k' cap → cap < k' + m →
      (Builtin.firstCells i.size k' (.slice p k' cap)).run P w.drew = .ok xs'.toArray w.drew →
      ∃ v'' w', (Builtin.append_ #[t, tx] ty #[v', x]).run P w = .ok v'' w' ∧ (Res.sl T sz v k xs v'' (k' + m) (xs' ++ news)).holds w' ∧
      w'.os = w.os ∧ w'.tape = w.tape ∧ w'.output = w.output ∧ w.heap.size ≤ w'.heap.size ∧ (∀ b, b < w.heap.size → b ∉ blkOf v' → w'.heap[b]? = w.heap[b]?) ∧ (∀ b ∈ blkOf v'', b ∈ blkOf v' ∨ w.heap.size ≤ b) := by
    intro p cap hp hlt hfirst
    have hs' : Src P i.size tx x m news w := by rw [hsize]; exact hs
    have hrun := run_append_grow_src (P := P) w t tx ty T i z he.und hi hz p k' cap xs' hfirst x m news hs' hlt (by omega) (growslice_fits_wide hlt (by rw [hbytes]; exact roomy hroom he.small))
    have hge := grownCap_ge w (k' + m) cap T
    rw [hp, hrun]
    refine ⟨_, _, rfl, ⟨?_, ?_, by omega⟩, rfl, rfl, rfl, by simp, ?_, ?_⟩
    · refine hv.congr fun b hb => ?_
      exact heap_alloc_old w.drew _ (hv.lt b hb)
    · refine .inr ⟨w.heap.size, _, _, rfl, heap_alloc_new w.drew _, hge, ?_, ?_, ?_⟩
      · simp only [Array.size_append, List.size_toArray, List.length_append, size_zeroCells, hzs, hxl, hs.newsLen]
        rw [← Nat.add_mul, ← Nat.add_mul]
        congr 1
        omega
      · simp [hxl, hs.newsLen, Nat.add_mul]
      · have : (xs' ++ news).length = (k' + m) * sz := by simp [hxl, hs.newsLen, Nat.add_mul]
        rw [← this]
        simp only [Array.toList_append]
        exact (List.take_left' rfl).symm
    · intro b hb _
      exact heap_alloc_old w.drew _ hb
    · intro b hb
      simp [blkOf] at hb
      right; omega
  rcases hv' with ⟨rfl, rfl, rfl⟩ | ⟨b, cap, c, rfl, hb, hn, hc, hlen, hx⟩
  · by_cases hm : m = 0
    · subst hm
      have hnews : news = [] := by
        have := hs.newsLen
        simp at this
        exact this
      subst hnews
      exact ⟨_, _, run_append_nil0 he hs, ⟨hv, .inl ⟨rfl, rfl, rfl⟩, hkk⟩, rfl, rfl, rfl, Nat.le_refl _, fun _ _ _ => rfl, fun _ h => .inl h⟩
    · exact grow none 0 rfl (by omega) (run_firstCells_none w.drew i.size 0 0 0)
  · by_cases hfit : k' + m ≤ cap
    · have hl : k' * sz + news.length ≤ c.size := by
        rw [hs.newsLen, hc, ← Nat.add_mul]
        exact Nat.mul_le_mul_right sz hfit
      refine ⟨_, _, run_append_room he hs hb hfit hc, ⟨hv.written hb (Nat.mul_le_mul_right sz hkk) hl, .inr ⟨b, cap, _, rfl, setRow_heap w b c _ T _ hb, hfit, by rw [setCs_size hl, hc], ?_, ?_⟩, by omega⟩, rfl, rfl, rfl, by simp, ?_, fun b' hb' => .inl hb'⟩
      · simp [hlen, hs.newsLen, Nat.add_mul]
      · simp only [setCs]
        have h1 : (c.toList.take (k' * sz) ++ news).length = (k' + m) * sz := by
          have h2 : k' * sz ≤ c.toList.length := by
            rw [Array.length_toList, hc]
            exact Nat.mul_le_mul_right sz hn
          rw [List.length_append, List.length_take, Nat.min_eq_left h2, hs.newsLen, Nat.add_mul]
        rw [← h1, List.take_left' rfl, ← hx]
      · intro b' _ hb'
        exact heap_setRow_other w b _ (by simpa [blkOf] using hb')
    · refine grow (some ⟨b, 0, none⟩) cap rfl (by omega) (run_firstCells_some w.drew i.size k' ⟨b, 0, none⟩ k' cap xs' (by rw [hsize]; exact hlen) fun j u hj => ?_)
      have hcells : Cells w b 0 xs' := ⟨c, T, (0, 0), hb, by rw [hlen, hc]; simpa using Nat.mul_le_mul_right sz hn, by simp [hlen, ← hx]⟩
      have := hcells.cell j u hj
      rw [addr_add]
      exact this

theorem OpJ.append {t T tx : TypeId} {sz bytes : Nat} {z : Value} {d i k k' m : Nat} {x y : Operand} {v v' u : Value} {xs xs' news : List Value} (he : Elt P t T sz bytes z) (ho : o.op = .call ⟨.builtin .append, #[x, y], #[t, tx]⟩) (hd : o.dst = some d) (hn : d.blt n = true)
    (hx : ev L x = some v') (hy : ev L y = some u) (hi : H[i]? = some (.sl T sz v k xs v' k' xs')) (hsrc : ∀ w, Inv w0 S H w → Src P sz tx u m news w) (hroom : (k' + m) * bytes ≤ 175921860444160) (hmax : k' + m ≤ 9223372036854775807)
    (h : ∀ p c, M ((d, .slice p (k' + m) c) :: L) (H.set i (.sl T sz v k xs (.slice p (k' + m) c) (k' + m) (xs' ++ news)))) : OpJ P Q n w0 S o L H M :=
  OpJ.val hd hn fun a w hE hI => by
    obtain ⟨v'', w', hrun, hr, h1, h2, h3, h4, h5, h6⟩ := append_own (ty := o.type) he (hI.hs _ (List.mem_of_getElem? hi)) (hsrc w hI) hroom hmax
    obtain ⟨p, c, rfl, _⟩ := hr.2.1.shape
    refine ⟨_, w', _, ?_, hI.turn hi w' h1 h2 h3 h4 (fun b hb hb' => h5 b hb fun h => hb' (by simp [Res.ats, h])) hr ?_, h p c⟩
    · simp [execOp, ho, resolve, invoke, builtin, hE.eval hx, hE.eval hy, hrun]
    · intro b hb
      simp only [Res.ats, List.mem_append] at hb ⊢
      rcases hb with hb | hb
      · exact .inl (.inl hb)
      · rcases h6 b hb with h | h
        · exact .inl (.inr h)
        · exact .inr h
end
end Go.Proofs.YtdiememgbnplkaaDoor
