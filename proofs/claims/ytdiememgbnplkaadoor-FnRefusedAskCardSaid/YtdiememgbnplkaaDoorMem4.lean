/-
  Struct values that are built; copies of texts into arrays; results that lie in memory.
-/
import Derived.Test.YtdiememgbnplkaaDoorMem3
namespace Go.Proofs.YtdiememgbnplkaaDoor
open Go

/-- where a struct's fields lie: offset and cells -/
def places (P : Program) (T : TypeId) : Option (List (Nat × Nat)) :=
  match P.underlying T with
  | some (.struct fs) => fs.toList.mapM fun f => (P.info? f.type).map fun i => (f.offset, i.size)
  | _ => none

theorem run_places {P : Program} (w : World) : ∀ (fs : List Field) (pl : List (Nat × Nat)), (fs.mapM fun f => (P.info? f.type).map fun i => (f.offset, i.size)) = some pl →
    (fs.mapM (m := Sem) fun f => do pure (f.offset, ← sizeOf f.type)).run P w = .ok pl w
  | [], pl, h => by
    simp at h
    subst h
    simp
  | f :: fs, pl, h => by
    simp only [List.mapM_cons] at h
    cases hq : P.info? f.type with
    | none => simp [hq] at h
    | some i =>
      simp only [hq, Option.map_some] at h
      cases hr : (fs.mapM fun f => (P.info? f.type).map fun i => (f.offset, i.size)) with
      | none => simp [hr] at h
      | some r =>
        simp [hr] at h
        subst h
        have ih := run_places w fs r hr
        simp only [List.mapM_cons, Sem.run_bind, sizeOf, typeInfo, run_program, Result.andThen_ok, hq, Sem.run_pure]
        simp only [sizeOf, typeInfo] at ih
        rw [ih]
        rfl

section
variable {P : Program} {Q : Exit → Act → World → Prop} {n : Nat} {w0 : World} {S : List Nat} {o : Oper} {L : List (Nat × Value)} {H : List Res} {M : List (Nat × Value) → List Res → Prop} {I : World → Prop}

theorem run_build {T : TypeId} {pl : List (Nat × Nat)} {z : Value} {cs : Array Value} {parts : Array (Nat × Value)} (hp : places P T = some pl) (hz : (P.info? T).bind (·.zero) = some z) (hf : Instr.fill (fun i => pl[i]?) z.cells parts.toList = some cs) (w : World) : (Instr.build T parts).run P w = .ok (.agg cs) w := by
  unfold places at hp
  cases hq : P.info? T with
  | none => simp [hq] at hz
  | some i =>
    have hz' : i.zero = some z := by simpa [hq] using hz
    split at hp
    · rename_i fs hfs
      have hrun := run_places (P := P) w fs.toList pl hp
      have hrun' : (fs.mapM (m := Sem) fun f => do pure (f.offset, ← sizeOf f.type)).run P w = .ok pl.toArray w := by
        rw [Array.mapM_eq_mapM_toList, Sem.run_map, hrun]
        rfl
      have hf' : Instr.fill (fun x => pl.toArray[x]?) z.cells parts.toList = some cs := by simpa using hf
      simp only [Instr.build, zeroValue, typeInfo, Sem.run_bind, run_program, Result.andThen_ok, hq, hz', Sem.run_pure, run_underlying hfs, hrun', hf']
    · cases hp

def mapV (a : Act) (ps : Array (Nat × Operand)) : Array (Nat × Value) := ps.map fun (i, x) => (i, a.eval x)

/-- parts of a struct, by their operands -/
def evp (L : List (Nat × Value)) : List (Nat × Operand) → Option (List (Nat × Value))
  | [] => some []
  | (i, x) :: r => match ev L x, evp L r with
    | some v, some vs => some ((i, v) :: vs)
    | _, _ => none
theorem evp_map {a : Act} (hE : E n a L) : ∀ {ps : List (Nat × Operand)} {vs : List (Nat × Value)}, evp L ps = some vs → ps.map (fun p => (p.1, a.eval p.2)) = vs
  | [], vs, h => by simp [evp] at h; subst h; rfl
  | (i, x) :: r, vs, h => by
    simp only [evp] at h
    split at h
    · rename_i v us hv hu
      simp at h
      subst h
      simp [hE.eval hv, evp_map hE hu]
    · cases h

theorem Yld.build {T : TypeId} {parts : Array (Nat × Operand)} {vs : List (Nat × Value)} {pl : List (Nat × Nat)} {z : Value} {cs : Array Value} (hp : places P T = some pl) (hz : (P.info? T).bind (·.zero) = some z) (ho : o.op = .build T parts) (hv : evp L parts.toList = some vs) (hf : Instr.fill (fun i => pl[i]?) z.cells vs = some cs) : Yld P o n L I (.agg cs) :=
  fun a w hE _ => by
    have hm : (parts.map fun (x : Nat × Operand) => match x with | (i, x) => (i, a.eval x)).toList = vs := by
      rw [Array.toList_map]
      exact evp_map hE hv
    have := run_build (parts := parts.map fun (x : Nat × Operand) => match x with | (i, x) => (i, a.eval x)) hp hz (by rw [hm]; exact hf) w
    simp only [execOp, ho, Sem.run_bind, this, Result.andThen_ok, Sem.run_pure]

/-- the parts lie one behind the other, from off on -/
def inRow (pl : List (Nat × Nat)) : Nat → List (Nat × Value) → Prop
  | _, [] => True
  | off, (i, v) :: r => pl[i]? = some (off, v.cells.size) ∧ inRow pl (off + v.cells.size) r

theorem fill_row {pl : List (Nat × Nat)} : ∀ (vs : List (Nat × Value)) (off : Nat) (c : Array Value), inRow pl off vs → off + (flat (vs.map (·.2))).length ≤ c.size →
    Instr.fill (fun i => pl[i]?) c vs = some (setCs c off (flat (vs.map (·.2))))
  | [], off, c, _, _ => by simp [Instr.fill, flat, setCs_nil]
  | (i, v) :: r, off, c, h, hl => by
    have h3 : flat (((i, v) :: r).map (·.2)) = v.cells.toList ++ flat (r.map (·.2)) := by simp [flat]
    rw [h3, List.length_append, Array.length_toList] at hl
    have hx : v.cells.toList.length = v.cells.size := by simp
    simp only [Instr.fill, h.1]
    rw [if_neg (by simp; omega), array_foldl_set _ _ _ (by omega), fill_row r (off + v.cells.size) _ h.2 (by rw [setCs_size (by rw [hx]; omega)]; omega), h3, ← setCs_adj (by rw [hx]; omega), hx]

theorem Yld.buildAll {T : TypeId} {parts : Array (Nat × Operand)} {vs : List (Nat × Value)} {pl : List (Nat × Nat)} {z : Value} (hp : places P T = some pl) (hz : (P.info? T).bind (·.zero) = some z) (ho : o.op = .build T parts) (hv : evp L parts.toList = some vs) (hr : inRow pl 0 vs) (hl : (flat (vs.map (·.2))).length = z.cells.size) : Yld P o n L I (.agg (flat (vs.map (·.2))).toArray) :=
  Yld.build hp hz ho hv (by
    rw [fill_row vs 0 _ hr (by omega)]
    simp only [setCs, List.take_zero, List.nil_append, Nat.zero_add, Option.some.injEq]
    rw [hl, List.drop_of_length_le (by simp), List.append_nil])

theorem Yld.field {T : TypeId} {x : Operand} {f k : Nat} {cs : Array Value} {v : Value} {fs : Array Field} {fl : Field} {d : TypeDesc} (ho : o.op = .field T x f) (hu : P.underlying T = some (.struct fs)) (hf : fs[f]? = some fl) (hk : fl.offset = k) (hd : P.underlying fl.type = some d) (hagg : (match d with | .struct _ | .array _ _ => false | _ => true) = true) (hx : ev L x = some (.agg cs)) (hv : cs[k]? = some v) : Yld P o n L I v :=
  fun a w hE _ => by
    subst hk
    simp only [execOp, ho, hE.eval hx]
    cases d <;> simp_all [Instr.field, run_underlying hu, asAgg, part, isAgg, run_underlying hd]

/-! ### copy -/
theorem OpJ.copyStr {t T2 T T' : TypeId} {d i b off l c : Nat} {x y : Operand} {s : ByteArray} {cs : Array Value} (ho : o.op = .call ⟨.builtin .copy, #[x, y], #[t, T2]⟩) (hd : o.dst = some d) (hn : d.blt n = true) (hu : P.underlying t = some (.slice T)) (hz : (P.info? T).map (·.size) = some 1)
    (hx : ev L x = some (.slice (some ⟨b, off, none⟩) l c)) (hy : ev L y = some (.string s)) (hi : H[i]? = some (.blk b cs T')) (hl : off + l ≤ cs.size)
    (h : M ((d, .int .i64 (s.data.toList.take l).length) :: L) (H.set i (.blk b (setCs cs off (bytesV (s.data.toList.take l))) T'))) : OpJ P Q n w0 S o L H M :=
  OpJ.val hd hn fun a w hE hI => by
    have hb : w.heap[b]? = some (.cells cs T' (0, 0)) := hI.hs _ (List.mem_of_getElem? hi)
    have hlen : (s.data.toList.take l).length = Nat.min s.size l := by
      simp only [List.length_take, Array.length_toList]
      rw [Nat.min_comm]
      rfl
    have hst := run_storeCells_at P b off T' (bytesV (s.data.toList.take l)) 0 cs w hb (by rw [bytesV_len, hlen]; have := Nat.min_le_right s.size l; simp only [Nat.min_def] at this ⊢; simp at this ⊢; omega) (bytesV_one _)
    refine ⟨_, _, _, ?_, hI.setRow hi (setCs cs off (bytesV (s.data.toList.take l))), h⟩
    cases hq : P.info? T with
    | none => simp [hq] at hz
    | some ti =>
      have ht : ti.size = 1 := by simpa [hq] using hz
      have hcells : ((s.extract 0 (Nat.min s.size l)).data.map fun b => Value.int .u8 b.toNat) = (bytesV (s.data.toList.take l)).toArray := by
        apply Array.ext'
        simp only [Array.toList_map, ByteArray.data_extract, Array.toList_extract, List.extract_eq_take_drop, Nat.sub_zero, List.drop_zero, bytesV, List.map_take]
        rw [← List.map_take, ← List.map_take]
        congr 1
        apply List.take_eq_take_iff.2
        simp only [Array.length_toList]
        show min (Nat.min s.data.size l) s.data.size = min l s.data.size
        simp only [Nat.min_def]
        repeat (first | rfl | omega | split)
      simp only [Nat.add_zero] at hst
      have hfc : (Builtin.firstCells 1 (Nat.min s.size l) (.string s)).run P w = .ok (bytesV (s.data.toList.take l)).toArray w := by
        simp only [Builtin.firstCells, hcells]
        rfl
      have hfin : setCs cs off (bytesV (s.data.toList.take l)) = (cs.toList.take off ++ bytesV (s.data.toList.take l) ++ cs.toList.drop (off + (bytesV (s.data.toList.take l)).length)).toArray := rfl
      simp [execOp, ho, resolve, invoke, Go.builtin, hE.eval hx, hE.eval hy, Builtin.copy_, run_underlying hu, Builtin.lenOf, sizeOf, typeInfo, hq, ht, hfc, hst, hfin, goInt, hlen]

theorem Inv.whole {w : World} (h : Inv w0 S H w) {i b : Nat} {vs : List Value} {T : TypeId} (hi : H[i]? = some (.blk b vs.toArray T)) : Cells w b 0 vs :=
  h.cells hi (by simp) (by simp)

/-! ### results in memory -/
theorem ExJ.retC {fn : Func} {s T b off : Nat} {vs : List Value} {d : TypeDesc} {H'} {w1 : World} {S1 : List Nat} {Post : Value → List Res → Prop} (hr : fn.results = #[.cell s T]) (hs : L.lookup s = some (.pointer (some ⟨b, off, none⟩))) (hu : P.underlying T = some d) (hd : (match d with | .struct _ | .array _ _ => true | _ => false) = true) (hz : (P.info? T).map (·.size) = some vs.length)
    (hc : ∀ w, Inv w0 S H w → Cells w b off vs) (hP : Post (.agg vs.toArray) H') (hH : ∀ w, Inv w0 S H w → Inv w1 S1 H' w) :
    ExJ (bodyPost P fn (Ret w1 S1 Post)) .ret n w0 S L H :=
  ExJ.retOf (fun a w hE hI => by
    have h := run_loadCells_list (P := P) w ⟨b, off, none⟩ vs fun j v hj => by rw [addr_add]; exact (hc w hI).cell j v hj
    have h1 := hE.at_ s _ hs
    cases hq : P.info? T with
    | none => simp [hq] at hz
    | some t =>
      have ht : t.size = vs.length := by simpa [hq] using hz
      cases d <;> simp_all [results, loadVar, isAgg, run_underlying hu, sizeOf, typeInfo, asAddr]) hP hH
end
end Go.Proofs.YtdiememgbnplkaaDoor
