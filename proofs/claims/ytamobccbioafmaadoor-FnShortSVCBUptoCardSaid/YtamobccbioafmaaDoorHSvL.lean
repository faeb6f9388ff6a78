/-
  Plain laws: how a number, a name that stands whole and parameters are packed.
-/
import Derived.Test.YtamobccbioafmaaDoorHPairL
namespace Go.Proofs.YtamobccbioafmaaDoor
open Go

/-! ### a name without a table does not look at where it stands -/
theorem pk_off (b b' : Nat) : ∀ (s lab ys : List UInt8) (m : List (List UInt8 × Nat)), pk b false s lab ys m = pk b' false s lab ys m
  | [], _, _, _ => rfl
  | c :: r, lab, ys, m => by
    simp only [pk, Bool.false_eq_true, and_false, if_false]
    rw [pk_off b b' r (lab ++ [c]) ys m, pk_off b b' r [] _ m]
theorem packN_off (b b' : Nat) (l : List UInt8) (m : List (List UInt8 × Nat)) : packN b false l m = packN b' false l m := by
  unfold packN
  rw [pk_off b b']

/-! ### parameters that are packed -/
def parmsFine (ps : List PairD) : Prop := ∀ k p, ps[k]? = some p → p.data.length ≤ 65535 ∧ (0 < k → 0 < p.key)
theorem asc_at : ∀ (ps : List PairD), ascN ps = true → ∀ k p q, ps[k]? = some p → ps[k + 1]? = some q → p.key < q.key
  | [], _, k, p, q, h, _ => by simp at h
  | [_], _, k, p, q, _, h => by simp at h
  | a :: b :: r, h, 0, p, q, h1, h2 => by
    simp only [ascN, Bool.and_eq_true, decide_eq_true_eq] at h
    simp at h1 h2
    subst h1 h2
    exact h.1
  | a :: b :: r, h, k + 1, p, q, h1, h2 => by
    simp only [ascN, Bool.and_eq_true, decide_eq_true_eq] at h
    exact asc_at (b :: r) h.2 k p q (by simpa using h1) (by simpa using h2)
theorem parmsFine_ok {ps : List PairD} (h : ascN ps = true) (hl : ∀ p ∈ ps, p.data.length ≤ 65535) : parmsFine ps := fun k p hp => ⟨hl p (List.mem_of_getElem? hp), fun hk => by
  obtain ⟨j, rfl⟩ : ∃ j, k = j + 1 := ⟨k - 1, by omega⟩
  have hlt := (List.getElem?_eq_some_iff.1 hp).1
  have := asc_at ps h j ps[j] p (List.getElem?_eq_getElem (by omega)) hp
  omega⟩
theorem parmsFine_kd {ps ss : List PairD} (h : ss.map PairD.kd = ps.map PairD.kd) (hf : parmsFine ps) : parmsFine ss := fun k p hp => by
  have h1 : (ss.map PairD.kd)[k]? = some p.kd := by rw [List.getElem?_map, hp]; rfl
  rw [h, List.getElem?_map] at h1
  obtain ⟨q, hq, e⟩ := Option.map_eq_some_iff.1 h1
  have := hf k q hq
  have e1 : q.key = p.key := congrArg Prod.fst e
  have e2 : q.data = p.data := congrArg Prod.snd e
  rwa [e1, e2] at this
/-- a number, a name that stands whole, and parameters -/
def svcP (base : Nat) (_on : Bool) (l : List UInt8) (x : RecD) (m : List (List UInt8 × Nat)) : PkRes :=
  match packN base false l [] with
  | .err _ => .err m
  | .ok ys _ => .ok (be16 (x.n1 % 65536) ++ ys ++ pairsW x.pairs) m
/-- where the name can be packed, so can the parameters -/
def svcQ (x : RecD) : Prop := (∃ base ys m, packN base false (cut255 x.host) [] = .ok ys m) → parmsFine x.pairs
end Go.Proofs.YtamobccbioafmaaDoor
