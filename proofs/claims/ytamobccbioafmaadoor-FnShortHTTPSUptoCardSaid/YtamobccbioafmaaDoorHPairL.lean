/-
  Plain laws: the sizes of pairs; how a number, a name and parameters are packed.
-/
import Derived.Test.YtamobccbioafmaaDoorHBodyP
namespace Go.Proofs.YtamobccbioafmaaDoor
open Go
theorem pairs_lt {ps : List PairD} {k : Nat} (h : (pairsW ps).length < k) : ∀ p ∈ ps, p.data.length < k := fun p hp => by
  have : ∀ l : List PairD, p ∈ l → p.data.length ≤ (pairsW l).length := fun l => by
    induction l with
    | nil => intro h; cases h
    | cons q r ih =>
      intro h
      rw [pairsW_cons, List.length_append, pairW_len]
      rcases List.mem_cons.1 h with rfl | h
      · omega
      · have := ih h
        omega
  exact Nat.lt_of_le_of_lt (this ps hp) h
/-- a number, a name that stands whole, and parameters -/
def svP (base : Nat) (_on : Bool) (l : List UInt8) (x : RecD) (m : List (List UInt8 × Nat)) : PkRes :=
  match packN (base + 2) false l [] with
  | .err _ => .err m
  | .ok ys _ =>
    match prmF none x.pairs with
    | none => .err m
    | some zs => .ok (be16 (x.n1 % 65536) ++ ys ++ zs) m
/-- where the name can be packed, so can the parameters -/
def svQ (x : RecD) : Prop := (∃ base ys m, packN base false (cut255 x.host) [] = .ok ys m) → (prmF none x.pairs).isSome = true
/-- texts -/
def txtP (_base : Nat) (_on : Bool) (ts : List ByteArray) (m : List (List UInt8 × Nat)) : PkRes := if shortT ts = true then .ok (textsW ts) m else .err m
end Go.Proofs.YtamobccbioafmaaDoor
