/-
  More rules: a slice that holds something has an address; s[lo:]; remainders.
-/
import Derived.Test.YtdiememgbnplkaaDoorMem7
namespace Go.Proofs.YtdiememgbnplkaaDoor
open Go
variable {P : Program} {Q : Exit → Act → World → Prop} {n : Nat} {w0 : World} {S : List Nat} {L : List (Nat × Value)} {H : List Res} {o : Oper} {I : World → Prop}

theorem CodeJ.someOwn {code : Code} {T : TypeId} {i m c sz : Nat} {p : Option Addr} {xs : List Value} (hi : H[i]? = some (own T sz (.slice p m c) m xs)) (hm : m ≠ 0)
    (h : ∀ b, p = some ⟨b, 0, none⟩ → m ≤ c → CodeJ P Q n w0 S code L H) : CodeJ P Q n w0 S code L H := fun a w hE hI => by
  have hr := (hI.hs _ (List.mem_of_getElem? hi)).1
  rcases hr with ⟨_, h1, _⟩ | ⟨b, cap, cs, hv, hb, hn, hc, hl, hx⟩
  · exact absurd h1 hm
  · simp only [Value.slice.injEq] at hv
    obtain ⟨h1, h2, h3⟩ := hv
    exact h b h1 (by omega) a w hE hI

theorem OpsJ.someOwn {ops : Array Oper} {l : List Oper} {T : TypeId} {i m c sz : Nat} {p : Option Addr} {xs : List Value} (hi : H[i]? = some (own T sz (.slice p m c) m xs)) (hm : m ≠ 0)
    (h : ∀ b, p = some ⟨b, 0, none⟩ → m ≤ c → OpsJ P ops Q n w0 S l L H) : OpsJ P ops Q n w0 S l L H := fun a w hE hI => by
  have hr := (hI.hs _ (List.mem_of_getElem? hi)).1
  rcases hr with ⟨_, h1, _⟩ | ⟨b, cap, cs, hv, hb, hn, hc, hl, hx⟩
  · exact absurd h1 hm
  · simp only [Value.slice.injEq] at hv
    obtain ⟨h1, h2, h3⟩ := hv
    exact h b h1 (by omega) a w hE hI

/-- s[lo:] of a slice -/
theorem Yld.sliceFrom {T e : TypeId} {x y : Operand} {b off l c lo sz : Nat} {k1 : IntKind} (ho : o.op = .slice T x (some y) none none) (hu : P.underlying T = some (.slice e)) (hz : (P.info? e).map (·.size) = some sz) (hx : ev L x = some (.slice (some ⟨b, off, none⟩) l c)) (hy : ev L y = some (.int k1 lo)) (h1 : lo ≤ l) (h3 : lo < c) :
    Yld P o n L I (.slice (some ⟨b, off + lo * sz, none⟩) (l - lo) (c - lo)) :=
  fun a w hE _ => by
    cases hq : P.info? e with
    | none => simp [hq] at hz
    | some t =>
      have ht : t.size = sz := by simpa [hq] using hz
      have hne : ¬ c = lo := by omega
      simp [execOp, ho, hE.eval hx, hE.eval hy, Instr.sliceAt, Instr.slice, run_underlying hu, Instr.sliceBounds, Instr.sliceBound, asIntOf, h1, sizeOf, typeInfo, hq, ht, hne, addr_add]

/-- a remainder, of numbers that are not less than 0 -/
theorem Yld.remN {T T2 : TypeId} {x y : Operand} {k : IntKind} {p q : Nat} (ho : o.op = .binOp .rem T x y T2) (hx : ev L x = some (.int k (p : Nat))) (hy : ev L y = some (.int k (q : Nat))) (hq : q ≠ 0) : Yld P o n L I (.int k ((p % q : Nat) : Int)) :=
  fun a w hE _ => by
    have hq' : ¬ (q : Int) = 0 := by omega
    have e : Int.tmod (p : Int) (q : Int) = ((p % q : Nat) : Int) := by
      rw [Int.ofNat_tmod]
    simp [execOp, ho, hE.eval hx, hE.eval hy, eqGuard, binOp, Op.intDiv, hq, e]
end Go.Proofs.YtdiememgbnplkaaDoor
