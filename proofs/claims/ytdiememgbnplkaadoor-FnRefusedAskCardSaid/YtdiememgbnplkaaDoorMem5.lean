/-
  Slices that are opened to their block, appends in place, slices that are made, errors that are compared.
-/
import Derived.Test.YtdiememgbnplkaaDoorMem4
import Derived.Laws.MakeOwn
import Derived.LaidEql
namespace Go.Proofs.YtdiememgbnplkaaDoor
open Go

section
variable {P : Program} {Q : Exit → Act → World → Prop} {n : Nat} {w0 : World} {S : List Nat} {o : Oper} {L : List (Nat × Value)} {H : List Res} {M : List (Nat × Value) → List Res → Prop} {I : World → Prop}

/-- an owned slice's block -/
theorem CodeJ.openB {code : Code} {T : TypeId} {i c : Nat} {p : Option Addr} {bs : List UInt8} (hi : H[i]? = some (ownB T (.slice p bs.length c) bs)) (hne : bs ≠ [])
    (h : ∀ b cs, p = some ⟨b, 0, none⟩ → cs.size = c → bs.length ≤ c → cs.toList.take bs.length = bytesV bs → CodeJ P Q n w0 S code L (H.set i (.blk b cs T))) : CodeJ P Q n w0 S code L H := fun a w hE hI => by
  have hr := (hI.hs _ (List.mem_of_getElem? hi)).1
  rcases hr with ⟨_, h1, _⟩ | ⟨b, cap, cs, hv, hb, hn, hc, hl, hx⟩
  · exact absurd (List.length_eq_zero_iff.1 h1) hne
  · injection hv with h1 h2 h3
    subst h1 h3
    refine h b cs rfl (by simpa using hc) hn (by simpa using hx.symm) a w hE (hI.turn hi w rfl rfl rfl (Nat.le_refl _) (fun _ _ _ => rfl) hb fun b' hb' => .inl ?_)
    simp [Res.ats] at hb'
    subst hb'
    simp [ownB, own, Res.ats, blkOf]

theorem Inv.shutB {w : World} (hI : Inv w0 S H w) {T : TypeId} {i b c : Nat} {cs : Array Value} {bs : List UInt8} (hi : H[i]? = some (.blk b cs T)) (hc : cs.size = c) (hn : bs.length ≤ c) (hx : cs.toList.take bs.length = bytesV bs) :
    Inv w0 S (H.set i (ownB T (.slice (some ⟨b, 0, none⟩) bs.length c) bs)) w := by
  have hb : w.heap[b]? = some (.cells cs T (0, 0)) := hI.hs _ (List.mem_of_getElem? hi)
  have ho : Own w T 1 (.slice (some ⟨b, 0, none⟩) bs.length c) bs.length (bytesV bs) := .inr ⟨b, c, cs, rfl, hb, hn, by simpa using hc, by simp [bytesV_len], by simpa using hx.symm⟩
  refine hI.turn hi w rfl rfl rfl (Nat.le_refl _) (fun _ _ _ => rfl) ⟨ho, ho, Nat.le_refl _⟩ fun b' hb' => .inl ?_
  simp [ownB, own, Res.ats, blkOf] at hb'
  subst hb'
  simp [Res.ats]

/-- append in place -/
theorem OpJ.appendIn {t T T' tx : TypeId} {z : Value} {d i b off l cap : Nat} {x y : Operand} {u : Value} {cs : Array Value} {news : List UInt8} (he : Elt P t T 1 1 z) (ho : o.op = .call ⟨.builtin .append, #[x, y], #[t, tx]⟩) (hd : o.dst = some d) (hn : d.blt n = true)
    (hx : ev L x = some (.slice (some ⟨b, off, none⟩) l cap)) (hy : ev L y = some u) (hi : H[i]? = some (.blk b cs T')) (hsrc : ∀ w, Inv w0 S H w → Src P 1 tx u news.length (bytesV news) w) (hroom : l + news.length ≤ cap) (hfit : off + l + news.length ≤ cs.size)
    (h : M ((d, .slice (some ⟨b, off, none⟩) (l + news.length) cap) :: L) (H.set i (.blk b (setCs cs (off + l) (bytesV news)) T'))) : OpJ P Q n w0 S o L H M :=
  OpJ.val hd hn fun a w hE hI => by
    have hb : w.heap[b]? = some (.cells cs T' (0, 0)) := hI.hs _ (List.mem_of_getElem? hi)
    obtain ⟨inf, hinf, hz, hzs, hsize, hbytes⟩ := he.info
    have hs := hsrc w hI
    have hst := run_storeCells_at P b (off + l) T' (bytesV news) 0 cs w hb (by rw [bytesV_len]; simpa using hfit) (bytesV_one _)
    simp only [Nat.add_zero] at hst
    refine ⟨_, _, _, ?_, hI.setRow hi (setCs cs (off + l) (bytesV news)), h⟩
    have hfin : setCs cs (off + l) (bytesV news) = (cs.toList.take (off + l) ++ bytesV news ++ cs.toList.drop (off + l + (bytesV news).length)).toArray := rfl
    rw [hfin]
    rcases hs.kind with ⟨e', hk⟩ | hk <;> simp [execOp, ho, resolve, invoke, builtin, hE.eval hx, hE.eval hy, Builtin.append_, run_underlying he.und, run_underlying hk, sizeOf, typeInfo, hinf, hsize, hs.len, hroom, hs.cells, addr_add, hst]

/-- make([]byte, 0, c) -/
theorem OpJ.makeB {t T : TypeId} {z : Value} {d c : Nat} {x y : Operand} {k1 k2 : IntKind} (he : Elt P t T 1 1 z) (ho : o.op = .makeSlice t x y) (hd : o.dst = some d) (hn : d.blt n = true) (hx : ev L x = some (.int k1 0)) (hy : ev L y = some (.int k2 c)) (hc : c ≤ 140737488355328)
    (h : ∀ b, w0.heap.size ≤ b → M ((d, .slice (some ⟨b, 0, none⟩) 0 c) :: L) (ownB T (.slice (some ⟨b, 0, none⟩) 0 c) [] :: H)) : OpJ P Q n w0 S o L H M :=
  OpJ.val hd hn fun a w hE hI => by
    obtain ⟨i, hi, hz, hzs, hsize, hbytes⟩ := he.info
    have hr := Go.run_make (P := P) w t T i z he.und hi hz k1 k2 0 c (Int.le_refl _) (by omega) (by rw [hbytes]; omega) (by omega)
    simp only [Int.toNat_zero, Int.toNat_natCast] at hr
    have ho' : Own (w.alloc (.cells (madeCells z.cells (c * i.size)) T)) T 1 (.slice (some ⟨w.heap.size, 0, none⟩) 0 c) 0 [] := .inr ⟨w.heap.size, c, _, rfl, heap_alloc_new w _, Nat.zero_le _, by rw [size_madeCells, hsize], rfl, by simp⟩
    refine ⟨_, _, _, ?_, hI.new (w.alloc (.cells (madeCells z.cells (c * i.size)) T)) _ rfl rfl rfl rfl (ownB T (.slice (some ⟨w.heap.size, 0, none⟩) 0 c) []) ⟨ho', ho', Nat.le_refl _⟩ (by simp [ownB, own, Res.ats, blkOf]), h w.heap.size hI.keep.size⟩
    simp [execOp, ho, hE.eval hx, hE.eval hy, hr]

/-! ### errors -/
theorem Yld.ifaceEqDiff {T T2 : TypeId} {x y : Operand} {t u : TypeId} {v v' : Value} {ms : Array (String × TypeId)} (ho : o.op = .binOp .eql T x y T2) (hu : P.underlying T = some (.interface ms)) (hx : ev L x = some (.iface t v)) (hy : ev L y = some (.iface u v')) (hne : t ≠ u) : Yld P o n L I (.bool false) :=
  fun a w hE _ => by
    simp only [execOp, ho, hE.eval hx, hE.eval hy]
    obtain ⟨d, hd⟩ := equal_step T (.iface t v) (.iface u v')
    simp [eqGuard, binOp, hd, Op.equalIn, run_underlying hu, hne]

theorem equal_step2 (t : TypeId) (x y : Value) : ∃ d, Op.equal t x y = Op.equalIn (d + 2) t x y := ⟨9998, rfl⟩
theorem Yld.ifaceEqSame {T T2 : TypeId} {x y : Operand} {t e : TypeId} {p : Addr} {ms : Array (String × TypeId)} (ho : o.op = .binOp .eql T x y T2) (hu : P.underlying T = some (.interface ms)) (hx : ev L x = some (.iface t (.pointer (some p)))) (hy : ev L y = some (.iface t (.pointer (some p)))) (ht : P.underlying t = some (.pointer e)) (hc : (P.info? t).map (·.comparable) = some true) (hz : (P.info? e).isSome = true) : Yld P o n L I (.bool true) :=
  fun a w hE _ => by
    simp only [execOp, ho, hE.eval hx, hE.eval hy]
    obtain ⟨d, hd⟩ := equal_step2 T (.iface t (.pointer (some p))) (.iface t (.pointer (some p)))
    obtain ⟨j, hj⟩ := Option.isSome_iff_exists.1 hz
    cases hq : P.info? t with
    | none => simp [hq] at hc
    | some i =>
      have hc' : i.comparable = true := by simpa [hq] using hc
      have := run_equalIn_iface_ptr_same w d p hu ht hq hc' hj
      simp [eqGuard, binOp, hd, this]
end
end Go.Proofs.YtdiememgbnplkaaDoor
