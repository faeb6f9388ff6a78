/-
  Plain laws: texts, options and parameters, as they are written.
-/
import Derived.Test.YtamobccbioafmaaDoorBg
namespace Go.Proofs.YtamobccbioafmaaDoor
open Go
set_option maxRecDepth 100000

/-! ### texts -/
def textW (s : ByteArray) : List UInt8 := UInt8.ofNat s.size :: s.data.toList
def textsW (ts : List ByteArray) : List UInt8 := (ts.map textW).flatten
theorem textW_len (s : ByteArray) : (textW s).length = s.size + 1 := by simp [textW]
theorem textsW_cons (s : ByteArray) (ts : List ByteArray) : textsW (s :: ts) = textW s ++ textsW ts := by simp [textsW]
theorem textsW_snoc (ts : List ByteArray) (s : ByteArray) : textsW (ts ++ [s]) = textsW ts ++ textW s := by simp [textsW]
theorem textsW_take (ts : List ByteArray) (k : Nat) (s : ByteArray) (h : ts[k]? = some s) : textsW (ts.take (k + 1)) = textsW (ts.take k) ++ textW s := by rw [take_snoc _ _ _ h, textsW_snoc]
def shortT (ts : List ByteArray) : Bool := ts.all fun s => decide (s.size ≤ 255)
theorem sized_le {α : Type} (f : α → List UInt8) (m : Nat) : ∀ l : List α, (∀ x ∈ l, (f x).length ≤ m) → (l.map f).flatten.length ≤ l.length * m
  | [], _ => by simp
  | x :: l, h => by
    have h1 := h x (by simp)
    have h2 := sized_le f m l fun y hy => h y (by simp [hy])
    simp only [List.map_cons, List.flatten_cons, List.length_append, List.length_cons, Nat.add_mul]
    omega
theorem sized_take {α : Type} (f : α → List UInt8) (l : List α) (k : Nat) : ((l.take k).map f).flatten.length ≤ (l.map f).flatten.length := by
  conv => rhs; rw [← List.take_append_drop k l]
  rw [List.map_append, List.flatten_append, List.length_append]
  omega

/-! ### numbers with bytes -/
def pairW (p : PairD) : List UInt8 := be16 p.key ++ (be16 (p.data.length % 65536) ++ p.data)
def pairsW (ps : List PairD) : List UInt8 := (ps.map pairW).flatten
theorem pairW_len (p : PairD) : (pairW p).length = p.data.length + 4 := by simp [pairW, be16_len]; omega
theorem pairsW_cons (p : PairD) (ps : List PairD) : pairsW (p :: ps) = pairW p ++ pairsW ps := by simp [pairsW]
theorem pairsW_snoc (ps : List PairD) (p : PairD) : pairsW (ps ++ [p]) = pairsW ps ++ pairW p := by simp [pairsW]
theorem pairsW_take (ps : List PairD) (k : Nat) (p : PairD) (h : ps[k]? = some p) : pairsW (ps.take (k + 1)) = pairsW (ps.take k) ++ pairW p := by rw [take_snoc _ _ _ h, pairsW_snoc]
/-- what a pair says, wherever its bytes lie -/
def PairD.kd (p : PairD) : Nat × List UInt8 := (p.key, p.data)
theorem pairW_kd {p q : PairD} (h : p.kd = q.kd) : pairW p = pairW q := by
  have h1 : p.key = q.key := congrArg Prod.fst h
  have h2 : p.data = q.data := congrArg Prod.snd h
  rw [pairW, pairW, h1, h2]
theorem pairsW_kd : ∀ {ps qs : List PairD}, ps.map PairD.kd = qs.map PairD.kd → pairsW ps = pairsW qs
  | [], [], _ => rfl
  | p :: ps, q :: qs, h => by
    simp only [List.map_cons, List.cons.injEq] at h
    rw [pairsW_cons, pairsW_cons, pairW_kd h.1, pairsW_kd h.2]
  | [], _ :: _, h => by simp at h
  | _ :: _, [], h => by simp at h

/-! ### parameters: they ascend -/
def ascN : List PairD → Bool
  | p :: q :: r => decide (p.key < q.key) && ascN (q :: r)
  | _ => true
/-- a key that is not above the one before it -/
def keyBad : Option Nat → Nat → Bool
  | some k, n => decide (n ≤ k)
  | none, _ => false
/-- how parameters are packed: what came before, if anything did -/
def prmF : Option Nat → List PairD → Option (List UInt8)
  | _, [] => some []
  | o, p :: r =>
    if keyBad o p.key = true then none
    else if p.data.length > 65535 then none
    else (prmF (some p.key) r).map (pairW p ++ ·)
theorem prmF_ok : ∀ (ps : List PairD) (o : Option Nat), ascN ps = true → (∀ p ∈ ps, p.data.length ≤ 65535) → (∀ k p, o = some k → ps.head? = some p → k < p.key) → prmF o ps = some (pairsW ps)
  | [], _, _, _, _ => by simp [prmF, pairsW]
  | p :: r, o, h, hl, ho => by
    have h1 : keyBad o p.key = false := by
      cases o with
      | none => rfl
      | some k =>
        have := ho k p rfl rfl
        simp only [keyBad, decide_eq_false_iff_not]
        omega
    have h2 : ¬ p.data.length > 65535 := by have := hl p (by simp); omega
    rw [prmF, h1, if_neg (by simp), if_neg h2]
    have h3 : ascN r = true := by
      cases r with
      | nil => rfl
      | cons q r => simp only [ascN, Bool.and_eq_true] at h; exact h.2
    rw [prmF_ok r (some p.key) h3 (fun q hq => hl q (by simp [hq])) fun k q hk hq => by
      injection hk with hk
      subst hk
      cases r with
      | nil => simp at hq
      | cons q' r =>
        simp at hq
        subst hq
        simp only [ascN, Bool.and_eq_true, decide_eq_true_eq] at h
        exact h.1]
    simp [pairsW_cons]
theorem prmF_bad : ∀ (ps : List PairD) (o : Option Nat), ascN ps = false → prmF o ps = none
  | [], _, h => by simp [ascN] at h
  | [_], _, h => by simp [ascN] at h
  | p :: q :: r, o, h => by
    rw [prmF]
    split
    · rfl
    · split
      · rfl
      · by_cases hk : p.key < q.key
        · have h3 : ascN (q :: r) = false := by simpa [ascN, hk] using h
          rw [prmF_bad (q :: r) _ h3]
          rfl
        · rw [prmF, if_pos (by simp only [keyBad, decide_eq_true_eq]; omega)]
          rfl
theorem prmF_eq : ∀ (ps : List PairD) (o : Option Nat) (zs : List UInt8), prmF o ps = some zs → zs = pairsW ps
  | [], _, zs, h => by
    simp only [prmF, Option.some.injEq] at h
    subst h
    rfl
  | p :: r, o, zs, h => by
    rw [prmF] at h
    split at h
    · cases h
    · split at h
      · cases h
      · obtain ⟨ys, h1, h2⟩ := Option.map_eq_some_iff.1 h
        subst h2
        rw [prmF_eq r _ ys h1, pairsW_cons]
theorem pairs_count : ∀ l : List PairD, l.length ≤ (pairsW l).length
  | [] => by simp
  | p :: r => by
    have := pairs_count r
    rw [pairsW_cons, List.length_append, pairW_len, List.length_cons]
    omega
theorem texts_count : ∀ l : List ByteArray, l.length ≤ (textsW l).length
  | [] => by simp
  | p :: r => by
    have := texts_count r
    rw [textsW_cons, List.length_append, textW_len, List.length_cons]
    omega
/-- what is of the given bulk is not large -/
theorem texts_fit {r : RecD} (h : r.upto 1048576) : (textsW r.texts).length ≤ 4398046511104 := by
  have h1 := sized_le textW 1048577 r.texts fun s hs => by rw [textW_len]; have := h.text s hs; omega
  have h2 : r.texts.length * 1048577 ≤ 1048576 * 1048577 := Nat.mul_le_mul_right _ h.texts
  exact Nat.le_trans h1 (Nat.le_trans h2 (by decide))
theorem pairs_fit {r : RecD} (h : r.upto 1048576) : (pairsW r.pairs).length ≤ 4398046511104 := by
  have h1 := sized_le pairW 1048580 r.pairs fun s hs => by rw [pairW_len]; have := h.pair s hs; omega
  have h2 : r.pairs.length * 1048580 ≤ 1048576 * 1048580 := Nat.mul_le_mul_right _ h.pairs
  exact Nat.le_trans h1 (Nat.le_trans h2 (by decide))
/-- pairs that can be read, with their bytes -/
def PairsB (w : World) (v : Value) (ps : List PairD) : Prop := Pairs w v ps ∧ ∀ p ∈ ps, Bytes w p.dataV p.data
theorem PairsB.keep0 {w w' : World} {v : Value} {ps : List PairD} (h : PairsB w v ps) (hk : Keep [] w w') : PairsB w' v ps := ⟨Row.keep0 h.1 hk, fun p hp => (h.2 p hp).keep hk (by simp)⟩
end Go.Proofs.YtamobccbioafmaaDoor
