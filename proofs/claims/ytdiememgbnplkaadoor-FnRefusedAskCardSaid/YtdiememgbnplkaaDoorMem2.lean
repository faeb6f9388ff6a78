/-
  More operations that change memory: slices that are built, copied into, read as sources.
-/
import Derived.Test.YtdiememgbnplkaaDoorMem
namespace Go.Proofs.YtdiememgbnplkaaDoor
open Go

theorem setCs_nil (cs : Array Value) (off : Nat) : setCs cs off [] = cs := by
  simp [setCs]

theorem setCs_cons {cs : Array Value} {off : Nat} {v : Value} {l : List Value} (h : off + (l.length + 1) ≤ cs.size) : setCs (cs.setIfInBounds off v) (off + 1) l = setCs cs off (v :: l) := by
  have e := list_seg_step cs.toList off v l (by simpa using h)
  simp only [setCs, Array.toList_setIfInBounds]
  rw [e]
  simp

theorem foldl_set (off : Nat) : ∀ (l : List Value) (k : Nat) (cs : Array Value), off + k + l.length ≤ cs.size →
    (l.zipIdx k).foldl (fun cs (p : Value × Nat) => cs.setIfInBounds (off + p.2) p.1) cs = setCs cs (off + k) l
  | [], k, cs, _ => by simp [setCs_nil]
  | v :: l, k, cs, h => by
    simp only [List.length_cons] at h
    rw [List.zipIdx_cons, List.foldl_cons, foldl_set off l (k + 1) _ (by simp; omega), ← Nat.add_assoc]
    exact setCs_cons (by omega)

theorem array_foldl_set (off : Nat) (vs : Array Value) (cs : Array Value) (h : off + vs.size ≤ cs.size) :
    vs.zipIdx.foldl (fun cs (x : Value × Nat) => match x with | (c, j) => cs.setIfInBounds (off + j) c) cs = setCs cs off vs.toList := by
  rw [← Array.foldl_toList, Array.toList_zipIdx]
  exact foldl_set off vs.toList 0 cs (by simpa using h)

theorem setCs_adj {c : Array Value} {k : Nat} {xs ys : List Value} (h : k + xs.length + ys.length ≤ c.size) : setCs (setCs c k xs) (k + xs.length) ys = setCs c k (xs ++ ys) := by
  simp only [setCs]
  congr 1
  have h1 : (c.toList.take k ++ xs).length = k + xs.length := by simp; omega
  rw [List.take_left' h1]
  have h2 : (c.toList.take k ++ xs ++ c.toList.drop (k + xs.length)).drop (k + xs.length + ys.length) = c.toList.drop (k + xs.length + ys.length) := by
    rw [← h1, ← List.drop_drop, List.drop_left' rfl, h1, List.drop_drop]
  rw [h2]
  simp [Nat.add_assoc]

def flat (vs : List Value) : List Value := vs.flatMap fun v => v.cells.toList

theorem flat_len {sz : Nat} : ∀ {vs : List Value}, (∀ v ∈ vs, v.cells.size = sz) → (flat vs).length = vs.length * sz
  | [], _ => by simp [flat]
  | v :: vs, h => by
    have h1 : v.cells.size = sz := h v (by simp)
    have h2 := flat_len (vs := vs) fun u hu => h u (by simp [hu])
    simp only [flat, List.flatMap_cons, List.length_append, Array.length_toList, List.length_cons] at *
    rw [h1, h2, Nat.add_mul]
    omega

def enumV : Nat → List Value → List (Nat × Value)
  | _, [] => []
  | i, v :: r => (i, v) :: enumV (i + 1) r
def enumO : Nat → List Operand → List (Nat × Operand)
  | _, [] => []
  | i, v :: r => (i, v) :: enumO (i + 1) r

theorem fill_all {sz : Nat} : ∀ (vs : List Value) (i : Nat) (c : Array Value), (∀ v ∈ vs, v.cells.size = sz) → i * sz + vs.length * sz ≤ c.size →
    Instr.fill (fun i => some (i * sz, sz)) c (enumV i vs) = some (setCs c (i * sz) (flat vs))
  | [], i, c, _, _ => by simp [enumV, Instr.fill, flat, setCs_nil]
  | v :: vs, i, c, hv, hl => by
    have h1 : v.cells.size = sz := hv v (by simp)
    have hv' : ∀ u ∈ vs, u.cells.size = sz := fun u hu => hv u (by simp [hu])
    have hl' : i * sz + (vs.length + 1) * sz ≤ c.size := by simpa using hl
    rw [Nat.add_mul] at hl'
    have hfl := flat_len hv'
    have hf : Instr.fill (fun i => some (i * sz, sz)) c (enumV i (v :: vs)) = Instr.fill (fun i => some (i * sz, sz)) (setCs c (i * sz) v.cells.toList) (enumV (i + 1) vs) := by
      simp only [enumV, Instr.fill]
      rw [if_neg (by simp [h1]; omega)]
      rw [array_foldl_set _ _ _ (by omega)]
    have hx : v.cells.toList.length = sz := by simpa using h1
    have h3 : flat (v :: vs) = v.cells.toList ++ flat vs := by simp [flat]
    rw [hf, fill_all vs (i + 1) _ hv' (by rw [setCs_size (by rw [hx]; omega), Nat.add_mul]; omega), h3, ← setCs_adj (by rw [hx, hfl]; omega), hx, Nat.add_mul, Nat.one_mul]

section
variable {P : Program} {Q : Exit → Act → World → Prop} {n : Nat} {w0 : World} {S : List Nat} {o : Oper} {L : List (Nat × Value)} {H : List Res} {M : List (Nat × Value) → List Res → Prop}

theorem enum_map {a : Act} (hE : E n a L) : ∀ {xs : List Operand} {vs : List Value} (i : Nat), evs L xs = some vs → (enumO i xs).map (fun p => (p.1, a.eval p.2)) = enumV i vs
  | [], vs, i, h => by simp [evs] at h; subst h; rfl
  | x :: r, vs, i, h => by
    simp only [evs] at h
    split at h
    · rename_i v us hv hu
      simp at h
      subst h
      simp [enumO, enumV, hE.eval hv, enum_map hE (i + 1) hu]
    · cases h

theorem evs_len : ∀ {xs : List Operand} {vs : List Value}, evs L xs = some vs → xs.length = vs.length
  | [], vs, h => by simp [evs] at h; subst h; rfl
  | x :: r, vs, h => by
    simp only [evs] at h
    split at h
    · rename_i v us hv hu
      simp at h
      subst h
      simp [evs_len hu]
    · cases h

theorem own_new {w : World} {T : TypeId} {sz len : Nat} {xs : List Value} (h : xs.length = len * sz) : (own T sz (.slice (some ⟨w.heap.size, 0, none⟩) len len) len xs).holds (w.alloc (.cells xs.toArray T)) := by
  have h1 : Own (w.alloc (.cells xs.toArray T)) T sz (.slice (some ⟨w.heap.size, 0, none⟩) len len) len xs :=
    .inr ⟨w.heap.size, len, xs.toArray, rfl, heap_alloc_new w _, Nat.le_refl _, by simpa using h, h, by simp [← h]⟩
  exact ⟨h1, h1, Nat.le_refl _⟩

/-- a slice literal -/
theorem OpJ.buildSlice {t T : TypeId} {sz bytes : Nat} {z : Value} {d len : Nat} {parts : Array (Nat × Operand)} {xs : List Operand} {vs : List Value} (he : Elt P t T sz bytes z) (ho : o.op = .buildSlice t len parts) (hd : o.dst = some d) (hn : d.blt n = true) (hp : parts.toList = enumO 0 xs) (hx : evs L xs = some vs) (hl : len = vs.length) (hsz' : vs.all (fun v => v.cells.size == sz) = true) (hfit : len * sz ≤ 16777216)
    (h : ∀ b, w0.heap.size ≤ b → M ((d, .slice (some ⟨b, 0, none⟩) len len) :: L) (own T sz (.slice (some ⟨b, 0, none⟩) len len) len (flat vs) :: H)) : OpJ P Q n w0 S o L H M :=
  OpJ.val hd hn fun a w hE hI => by
    obtain ⟨i, hi, hz, hzs, hsize, hbytes⟩ := he.info
    have hsz : ∀ v ∈ vs, v.cells.size = sz := fun v hv => by simpa using List.all_eq_true.1 hsz' v hv
    have hflen := flat_len hsz
    rw [← hl] at hflen
    have hmap : (parts.map fun (x : Nat × Operand) => match x with | (i, x) => (i, a.eval x)).toList = enumV 0 vs := by
      rw [Array.toList_map, hp]
      exact enum_map hE 0 hx
    refine ⟨_, _, _, ?_, hI.new (w.alloc (.cells (flat vs).toArray T)) _ rfl rfl rfl rfl (own T sz (.slice (some ⟨w.heap.size, 0, none⟩) len len) len (flat vs)) (own_new hflen) (by simp [own, Res.ats, blkOf]), h w.heap.size hI.keep.size⟩
    have hfill : ∀ c : Array Value, c.size = len * sz → Instr.fill (fun i => some (i * sz, sz)) c (enumV 0 vs) = some (flat vs).toArray := fun c hc => by
      rw [fill_all vs 0 c hsz (by rw [hc, hl]; omega)]
      simp [setCs, hflen, hc]
    simp only [execOp, ho, Instr.buildSlice, run_underlying he.und, Sem.run_bind, Result.andThen_ok, sizeOf, typeInfo, run_program, hi, Sem.run_pure, hsize, hmap, zeroValue]
    rw [if_neg (by omega)]
    by_cases h0 : len * sz = 0
    · simp only [h0, if_true, Sem.run_bind, Sem.run_pure, Result.andThen_ok]
      rw [hfill _ (by simp [h0])]
      simp [newRow]
    · simp only [h0, if_false, Sem.run_bind, Sem.run_pure, Result.andThen_ok, run_program, hi, hz]
      rw [hfill _ (by simp)]
      simp [newRow]

/-- a slice is what append is given -/
theorem Own.src {w : World} {T tx e' : TypeId} {sz m : Nat} {v : Value} {xs : List Value} (h : Own w T sz v m xs) (hk : P.underlying tx = some (.slice e')) (h1 : ∀ u ∈ xs, u.oneCell' = true) : Src P sz tx v m xs w := by
  have hl := h.len
  rcases h with ⟨rfl, rfl, rfl⟩ | ⟨b, cap, c, rfl, hb, hn, hc, hlen, hx⟩
  · exact Src.ofNil w hk 0
  · have hcells : Cells w b 0 xs := ⟨c, T, (0, 0), hb, by rw [hlen, hc]; simpa using Nat.mul_le_mul_right sz hn, by simp [hlen, ← hx]⟩
    exact Src.ofSlice w hk ⟨b, 0, none⟩ m cap xs hl (fun j u hj => by rw [addr_add]; exact hcells.cell j u hj) h1

theorem Inv.src {w : World} (hI : Inv w0 S H w) {T tx e' : TypeId} {sz m k i : Nat} {v u : Value} {xs ys : List Value} (hi : H[i]? = some (.sl T sz u k ys v m xs)) (hk : P.underlying tx = some (.slice e')) (h1 : ∀ u ∈ xs, u.oneCell' = true) : Src P sz tx v m xs w :=
  Own.src (hI.hs _ (List.mem_of_getElem? hi)).2.1 hk h1

end

/-- bytes as cells -/
def bytesV (bs : List UInt8) : List Value := bs.map fun b => .int .u8 b.toNat
theorem bytesV_len (bs : List UInt8) : (bytesV bs).length = bs.length := by simp [bytesV]
theorem bytesV_one (bs : List UInt8) : ∀ u ∈ bytesV bs, u.oneCell' = true := by
  intro u hu
  simp only [bytesV, List.mem_map] at hu
  obtain ⟨b, _, rfl⟩ := hu
  rfl
theorem bytesV_append (a b : List UInt8) : bytesV (a ++ b) = bytesV a ++ bytesV b := by simp [bytesV]
/-- an owned slice of bytes -/
def ownB (T : TypeId) (v : Value) (bs : List UInt8) : Res := own T 1 v bs.length (bytesV bs)
/-- two levels -/
def appB (T : TypeId) (v : Value) (bs : List UInt8) (v' : Value) (bs' : List UInt8) : Res := .sl T 1 v bs.length (bytesV bs) v' bs'.length (bytesV bs')

section
variable {P : Program} {Q : Exit → Act → World → Prop} {n : Nat} {w0 : World} {S : List Nat} {o : Oper} {L : List (Nat × Value)} {H : List Res} {M : List (Nat × Value) → List Res → Prop}

/-- append to a slice of bytes -/
theorem OpJ.appendB {t T tx : TypeId} {z : Value} {d i : Nat} {x y : Operand} {v v' u : Value} {bs bs' news : List UInt8} (he : Elt P t T 1 1 z) (ho : o.op = .call ⟨.builtin .append, #[x, y], #[t, tx]⟩) (hd : o.dst = some d) (hn : d.blt n = true)
    (hx : ev L x = some v') (hy : ev L y = some u) (hi : H[i]? = some (appB T v bs v' bs')) (hsrc : ∀ w, Inv w0 S H w → Src P 1 tx u news.length (bytesV news) w) (hroom : bs'.length + news.length ≤ 175921860444160)
    (h : ∀ p c, M ((d, .slice p (bs' ++ news).length c) :: L) (H.set i (appB T v bs (.slice p (bs' ++ news).length c) (bs' ++ news)))) : OpJ P Q n w0 S o L H M :=
  OpJ.append he ho hd hn hx hy hi hsrc (by omega) (by omega) fun p c => by
    have := h p c
    simp only [appB, bytesV_append, List.length_append] at this
    exact this

/-- append to a slice of bytes that is alone -/
theorem OpJ.appendO {t T tx : TypeId} {z : Value} {d i : Nat} {x y : Operand} {v u : Value} {bs news : List UInt8} (he : Elt P t T 1 1 z) (ho : o.op = .call ⟨.builtin .append, #[x, y], #[t, tx]⟩) (hd : o.dst = some d) (hn : d.blt n = true)
    (hx : ev L x = some v) (hy : ev L y = some u) (hi : H[i]? = some (ownB T v bs)) (hsrc : ∀ w, Inv w0 S H w → Src P 1 tx u news.length (bytesV news) w) (hroom : bs.length + news.length ≤ 175921860444160)
    (h : ∀ p c, M ((d, .slice p (bs ++ news).length c) :: L) (H.set i (ownB T (.slice p (bs ++ news).length c) (bs ++ news)))) : OpJ P Q n w0 S o L H M :=
  fun K hK => OpJ.appendB (M := fun L' H' => ∃ p c, L' = (d, .slice p (bs ++ news).length c) :: L ∧ H' = H.set i (appB T v bs (.slice p (bs ++ news).length c) (bs ++ news))) he ho hd hn hx hy hi hsrc hroom (fun p c => ⟨p, c, rfl, rfl⟩) K fun L' H' ⟨p, c, hL, hH⟩ a w hE hI => by
    subst hL hH
    refine hK _ _ (h p c) a w hE ?_
    have hl : i < H.length := (List.getElem?_eq_some_iff.1 hi).1
    have := Inv.turn (i := i) (r := appB T v bs (.slice p (bs ++ news).length c) (bs ++ news)) (r' := ownB T (.slice p (bs ++ news).length c) (bs ++ news)) hI (by simp [hl]) w rfl rfl rfl (Nat.le_refl _) (fun _ _ _ => rfl)
      (by
        have := hI.hs (appB T v bs (.slice p (bs ++ news).length c) (bs ++ news)) (List.mem_set hl _)
        exact ⟨this.2.1, this.2.1, Nat.le_refl _⟩)
      (fun b hb => .inl (by simp [ownB, own, appB, Res.ats] at hb ⊢; exact .inr hb))
    rwa [List.set_set] at this

theorem Inv.sl2 {w : World} (hI : Inv w0 S H w) {i : Nat} {T sz v k xs v' k' xs'} (hi : H[i]? = some (.sl T sz v k xs v' k' xs')) : Inv w0 S (H.set i (own T sz v' k' xs')) w :=
  hI.turn hi w rfl rfl rfl (Nat.le_refl _) (fun _ _ _ => rfl) ⟨(hI.hs _ (List.mem_of_getElem? hi)).2.1, (hI.hs _ (List.mem_of_getElem? hi)).2.1, Nat.le_refl _⟩ (fun b hb => .inl (by simp [own, Res.ats] at hb ⊢; exact .inr hb))
theorem Inv.sl1 {w : World} (hI : Inv w0 S H w) {i : Nat} {T sz v k xs v' k' xs'} (hi : H[i]? = some (.sl T sz v k xs v' k' xs')) : Inv w0 S (H.set i (own T sz v k xs)) w :=
  hI.turn hi w rfl rfl rfl (Nat.le_refl _) (fun _ _ _ => rfl) ⟨(hI.hs _ (List.mem_of_getElem? hi)).1, (hI.hs _ (List.mem_of_getElem? hi)).1, Nat.le_refl _⟩ (fun b hb => .inl (by simp [own, Res.ats] at hb ⊢; exact .inl hb))

/-- bytes that can be read -/
def Bytes (w : World) (v : Value) (bs : List UInt8) : Prop :=
  (∃ p c, v = .slice p 0 c ∧ bs = []) ∨ ∃ b off c, v = .slice (some ⟨b, off, none⟩) bs.length c ∧ Cells w b off (bytesV bs)

theorem Own.bytes {w : World} {T : TypeId} {v : Value} {bs : List UInt8} (h : Own w T 1 v bs.length (bytesV bs)) : Bytes w v bs := by
  rcases h with ⟨rfl, h1, _⟩ | ⟨b, cap, c, rfl, hb, hn, hc, hlen, hx⟩
  · exact .inl ⟨none, 0, rfl, List.eq_nil_of_length_eq_zero h1⟩
  · exact .inr ⟨b, 0, cap, rfl, c, T, (0, 0), hb, by rw [hlen, hc]; simpa using hn, by simp [bytesV_len] at hx ⊢; exact hx.symm⟩

theorem Bytes.src {w : World} {tx e' : TypeId} {v : Value} {bs : List UInt8} (h : Bytes w v bs) (hk : P.underlying tx = some (.slice e')) : Src P 1 tx v bs.length (bytesV bs) w := by
  rcases h with ⟨p, c, rfl, rfl⟩ | ⟨b, off, c, rfl, hc⟩
  · cases p with
    | none => exact Src.ofNil w hk c
    | some a => exact Src.ofSlice w hk a 0 c [] (by simp) (fun j u hj => by simp at hj) (fun _ h => by cases h)
  · exact Src.ofSlice w hk ⟨b, off, none⟩ _ c _ (by simp [bytesV_len]) (fun j u hj => by rw [addr_add]; exact hc.cell j u hj) (bytesV_one _)

theorem Bytes.keep {w w' : World} {v : Value} {bs : List UInt8} (h : Bytes w v bs) {S : List Nat} (hk : Keep S w w') (hb : ∀ b ∈ blkOf v, b ∉ S) : Bytes w' v bs := by
  rcases h with h | ⟨b, off, c, rfl, hc⟩
  · exact .inl h
  · exact .inr ⟨b, off, c, rfl, hc.keep hk (hb b (by simp [blkOf]))⟩

theorem Bytes.shape {w : World} {v : Value} {bs : List UInt8} (h : Bytes w v bs) : ∃ p c, v = .slice p bs.length c := by
  rcases h with ⟨p, c, rfl, rfl⟩ | ⟨b, off, c, rfl, hc⟩
  · exact ⟨p, c, rfl⟩
  · exact ⟨_, c, rfl⟩

theorem Inv.bytes {T : TypeId} {v : Value} {bs : List UInt8} {k : Nat} (hi : H[k]? = some (ownB T v bs)) : ∀ w, Inv w0 S H w → Bytes w v bs :=
  fun _ hI => Own.bytes (hI.hs _ (List.mem_of_getElem? hi)).1
theorem Inv.bytes2 {T : TypeId} {v v' : Value} {bs bs' : List UInt8} {k : Nat} (hi : H[k]? = some (appB T v bs v' bs')) : ∀ w, Inv w0 S H w → Bytes w v' bs' :=
  fun _ hI => Own.bytes (hI.hs _ (List.mem_of_getElem? hi)).2.1

/-- slices of bytes in a slice, to be read -/
def Parts (w : World) (v : Value) (pss : List (List UInt8)) : Prop :=
  ∃ b c vs, v = .slice (some ⟨b, 0, none⟩) vs.length c ∧ vs.length = pss.length ∧ Cells w b 0 vs ∧ ∀ (i : Nat) (u : Value) (ps : List UInt8), vs[i]? = some u → pss[i]? = some ps → Bytes w u ps

def Bs (I : World → Prop) : List Value → List (List UInt8) → Prop
  | [], [] => True
  | v :: vs, ps :: pss => (∀ w, I w → Bytes w v ps) ∧ Bs I vs pss
  | _, _ => False

theorem Bs.len {I : World → Prop} : ∀ {vs : List Value} {pss : List (List UInt8)}, Bs I vs pss → vs.length = pss.length
  | [], [], _ => rfl
  | _ :: vs, _ :: pss, h => by simp [Bs.len h.2]
  | [], _ :: _, h => h.elim
  | _ :: _, [], h => h.elim
theorem Bs.get {I : World → Prop} {w : World} (hw : I w) : ∀ {vs : List Value} {pss : List (List UInt8)}, Bs I vs pss → ∀ (i : Nat) (u : Value) (ps : List UInt8), vs[i]? = some u → pss[i]? = some ps → Bytes w u ps
  | [], [], _, i, u, ps, h, _ => by simp at h
  | v :: vs, p :: pss, hb, 0, u, ps, h, h' => by
    simp at h h'
    subst h h'
    exact hb.1 w hw
  | v :: vs, p :: pss, hb, i + 1, u, ps, h, h' => Bs.get hw hb.2 i u ps (by simpa using h) (by simpa using h')
  | [], _ :: _, h, _, _, _, _, _ => h.elim
  | _ :: _, [], h, _, _, _, _, _ => h.elim
theorem Bs.cells {I : World → Prop} {w : World} (hw : I w) : ∀ {vs : List Value} {pss : List (List UInt8)}, Bs I vs pss → flat vs = vs
  | [], [], _ => rfl
  | v :: vs, p :: pss, hb => by
    obtain ⟨q, c, rfl⟩ := (hb.1 w hw).shape
    have := Bs.cells hw hb.2
    simp only [flat, List.flatMap_cons] at *
    rw [this]
    rfl
  | [], _ :: _, h => h.elim
  | _ :: _, [], h => h.elim

theorem Inv.parts {T : TypeId} {b m c i : Nat} {vs : List Value} {pss : List (List UInt8)} (hi : H[i]? = some (own T 1 (.slice (some ⟨b, 0, none⟩) m c) m (flat vs))) (hm : m = vs.length) (hb : Bs (Inv w0 S H) vs pss) :
    ∀ w, Inv w0 S H w → Parts w (.slice (some ⟨b, 0, none⟩) m c) pss := fun w hI => by
  have ho := (hI.hs _ (List.mem_of_getElem? hi)).1
  obtain ⟨_, _, hc⟩ := ho.cells b 0 m c rfl
  rw [hb.cells hI] at hc
  subst hm
  exact ⟨b, c, vs, rfl, hb.len, hc, hb.get hI⟩

/-- a slice of bytes is returned -/
def RetB (T : TypeId) (bs : List UInt8) (r : Value) (H' : List Res) : Prop := ∃ p c, r = .slice p bs.length c ∧ H' = [ownB T r bs]

/-- a slice that was appended to is returned; the one before it is kept -/
def RetA (T : TypeId) (v : Value) (bs bs' : List UInt8) (r : Value) (H' : List Res) : Prop := ∃ p c, r = .slice p bs'.length c ∧ H' = [appB T v bs r bs']

theorem ExJ.retB {fn : Func} {s : Nat} {T : TypeId} {v : Value} {bs : List UInt8} {w1 : World} {S1 : List Nat} (hr : fn.results = #[.tmp s]) (hs : L.lookup s = some v) (hH : ∀ w, Inv w0 S H w → Inv w1 S1 [ownB T v bs] w) :
    ExJ (bodyPost P fn (Ret w1 S1 (RetB T bs))) .ret n w0 S L H := fun a w hE hI => by
  have hJ := hH w hI
  obtain ⟨p, c, rfl⟩ := (Own.bytes (hJ.hs _ (List.mem_singleton.2 rfl)).1).shape
  refine ⟨hE.defers, _, ?_, _, _, rfl, ⟨p, c, rfl, rfl⟩, hJ⟩
  have := hE.at_ s _ hs
  simp [results, hr, this]
end
end Go.Proofs.YtdiememgbnplkaaDoor
