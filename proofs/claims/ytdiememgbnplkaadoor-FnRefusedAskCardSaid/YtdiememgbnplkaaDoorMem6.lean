/-
  Appends to an owned slice of any elements.
-/
import Derived.Test.YtdiememgbnplkaaDoorMem5
namespace Go.Proofs.YtdiememgbnplkaaDoor
open Go
section
variable {P : Program} {Q : Exit → Act → World → Prop} {n : Nat} {w0 : World} {S : List Nat} {o : Oper} {L : List (Nat × Value)} {H : List Res} {M : List (Nat × Value) → List Res → Prop} {I : World → Prop}

theorem OpJ.appendOwn {t T tx : TypeId} {sz bytes : Nat} {z : Value} {d i k m : Nat} {x y : Operand} {v u : Value} {xs news : List Value} (he : Elt P t T sz bytes z) (ho : o.op = .call ⟨.builtin .append, #[x, y], #[t, tx]⟩) (hd : o.dst = some d) (hn : d.blt n = true)
    (hx : ev L x = some v) (hy : ev L y = some u) (hi : H[i]? = some (own T sz v k xs)) (hsrc : ∀ w, Inv w0 S H w → Src P sz tx u m news w) (hroom : (k + m) * bytes ≤ 175921860444160) (hmax : k + m ≤ 9223372036854775807)
    (h : ∀ p c, M ((d, .slice p (k + m) c) :: L) (H.set i (own T sz (.slice p (k + m) c) (k + m) (xs ++ news)))) : OpJ P Q n w0 S o L H M :=
  fun K hK => OpJ.append (M := fun L' H' => ∃ p c, L' = (d, .slice p (k + m) c) :: L ∧ H' = H.set i (.sl T sz v k xs (.slice p (k + m) c) (k + m) (xs ++ news))) he ho hd hn hx hy hi hsrc hroom hmax (fun p c => ⟨p, c, rfl, rfl⟩) K fun L' H' ⟨p, c, hL, hH⟩ a w hE hI => by
    subst hL hH
    refine hK _ _ (h p c) a w hE ?_
    have hl : i < H.length := (List.getElem?_eq_some_iff.1 hi).1
    have := hI.sl2 (i := i) (T := T) (sz := sz) (v := v) (k := k) (xs := xs) (v' := .slice p (k + m) c) (k' := k + m) (xs' := xs ++ news) (by simp [hl])
    rwa [List.set_set] at this
end

/-- an owned slice of integers -/
def ownI (T : TypeId) (v : Value) (ns : List Nat) : Res := own T 1 v ns.length (ns.map fun k => Value.int .i64 (k : Nat))
end Go.Proofs.YtdiememgbnplkaaDoor
