/-
  Plain functions on lists of bytes: how numbers and names are written.
-/
import Derived.WalkKit
namespace Go.Proofs.YtdiememgbnplkaaDoor

def be16 (x : Nat) : List UInt8 := [UInt8.ofNat (x / 256), UInt8.ofNat x]
def be32 (x : Nat) : List UInt8 := be16 (x / 65536) ++ be16 (x % 65536)
theorem be16_len (x : Nat) : (be16 x).length = 2 := rfl
theorem be32_len (x : Nat) : (be32 x).length = 4 := rfl

/-- one letter of a name, as Wire takes it: what is written, and the label under way -/
def wstep (st : List UInt8 × List UInt8) (c : UInt8) : List UInt8 × List UInt8 :=
  if c ≠ 46 then (st.1, st.2 ++ [c])
  else if st.2.length > 0 then (st.1 ++ [UInt8.ofNat st.2.length] ++ st.2, []) else (st.1, [])
def wst (s : List UInt8) : List UInt8 × List UInt8 := s.foldl wstep ([], [])
def wire (s : List UInt8) : List UInt8 := (wst s).1 ++ [0]

theorem wst_snoc (s : List UInt8) (c : UInt8) : wst (s ++ [c]) = wstep (wst s) c := by simp [wst]
theorem wst_len : ∀ (s : List UInt8) (st : List UInt8 × List UInt8), (s.foldl wstep st).1.length + (s.foldl wstep st).2.length ≤ st.1.length + st.2.length + 2 * s.length
  | [], st => by simp
  | c :: r, st => by
    have := wst_len r (wstep st c)
    have h2 : (wstep st c).1.length + (wstep st c).2.length ≤ st.1.length + st.2.length + 2 := by
      unfold wstep
      split
      · simp; omega
      · split
        · simp; omega
        · simp; omega
    simp only [List.foldl_cons, List.length_cons]
    omega
theorem wst_le (s : List UInt8) : (wst s).1.length + (wst s).2.length ≤ 2 * s.length := by
  have := wst_len s ([], [])
  simpa [wst] using this

/-- NameOk, letter by letter: the length of the label under way; none: a label is empty or too long -/
def nokStep (st : Option Nat) (c : UInt8) : Option Nat :=
  match st with
  | none => none
  | some n => if c ≠ 46 then some (n + 1) else if n = 0 ∨ n > 63 then none else some 0
def nok (s : List UInt8) : Option Nat := s.foldl nokStep (some 0)
def nameOk (s : List UInt8) : Bool := s == [46] || (nok s == some 0 && decide (1 < s.length) && decide (s.length ≤ 254))
theorem nok_snoc (s : List UInt8) (c : UInt8) : nok (s ++ [c]) = nokStep (nok s) c := by simp [nok]
theorem nok_none (s t : List UInt8) (h : nok s = none) : nok (s ++ t) = none := by
  unfold nok at *
  rw [List.foldl_append, h]
  induction t with
  | nil => rfl
  | cons c t ih => simpa [nokStep] using ih
theorem nok_le (s : List UInt8) : ∀ n, nok s = some n → n ≤ s.length := by
  have key : ∀ (s : List UInt8) (st : Option Nat) (k : Nat), (∀ n, st = some n → n ≤ k) → ∀ n, s.foldl nokStep st = some n → n ≤ k + s.length := by
    intro s
    induction s with
    | nil => intro st k h n hn; simpa using h n hn
    | cons c r ih =>
      intro st k h n hn
      have := ih (nokStep st c) (k + 1) (fun n hn => by
        unfold nokStep at hn
        split at hn
        · cases hn
        · have := h _ rfl
          split at hn
          · simp at hn; omega
          · split at hn
            · cases hn
            · simp at hn; omega) n hn
      simp only [List.length_cons]
      omega
  intro n hn
  have := key s (some 0) 0 (fun n h => by simp at h; omega) n hn
  omega

/-- LongLabel, letter by letter -/
def llStep (st : Nat × Bool) (c : UInt8) : Nat × Bool := ((if c = 46 then 0 else st.1 + 1), st.2 || decide ((if c = 46 then 0 else st.1 + 1) > 63))
def ll (s : List UInt8) : Nat × Bool := s.foldl llStep (0, false)
def longLabel (s : List UInt8) : Bool := (ll s).2 && ((ll s).1 == 0) && decide (s.length ≤ 254)
theorem ll_snoc (s : List UInt8) (c : UInt8) : ll (s ++ [c]) = llStep (ll s) c := by simp [ll]
theorem ll_le (s : List UInt8) : (ll s).1 ≤ s.length := by
  have key : ∀ (s : List UInt8) (st : Nat × Bool), (s.foldl llStep st).1 ≤ st.1 + s.length := by
    intro s
    induction s with
    | nil => intro st; simp
    | cons c r ih =>
      intro st
      have := ih (llStep st c)
      have h2 : (llStep st c).1 ≤ st.1 + 1 := by
        unfold llStep
        by_cases h : c = 46 <;> simp [h]
      simp only [List.foldl_cons, List.length_cons]
      omega
  simpa [ll] using key s (0, false)

/-- Lower -/
def lower (s : List UInt8) : Bool := s.all fun c => !(decide (65 ≤ c) && decide (c ≤ 90))

/-- a header -/
structure Hd where
  id : Nat
  qr : Bool
  op : Nat
  aa : Bool
  tc : Bool
  rd : Bool
  ra : Bool
  ad : Bool
  cd : Bool
  code : Nat
def Hd.wf (h : Hd) : Prop := h.id < 65536 ∧ h.op < 65536 ∧ h.code < 65536
def Hd.ok (h : Hd) : Bool := decide (h.op < 16) && decide (h.code < 16)
def flagN (b : Bool) (x : Nat) : Nat := if b then x else 0
def Hd.bits (h : Hd) : Nat := (flagN h.qr 32768 ||| h.op * 2048 % 65536 ||| flagN h.aa 1024 ||| flagN h.tc 512 ||| flagN h.rd 256) ||| (flagN h.ra 128 ||| flagN h.ad 32 ||| flagN h.cd 16 ||| h.code)
theorem flagN_lt (b : Bool) (x : Nat) (h : x < 65536) : flagN b x < 65536 := by unfold flagN; split <;> omega
theorem or_lt (x y : Nat) (hx : x < 65536) (hy : y < 65536) : x ||| y < 65536 := Nat.or_lt_two_pow (n := 16) hx hy
def headWire (h : Hd) (ns : List Nat) : List UInt8 := be16 h.id ++ be16 h.bits ++ (ns.map fun n => be16 (n % 65536)).flatten

/-! ### Name.pack -/
/-- what packing a name gives: the bytes and the table behind it; or a refusal, with the table behind it -/
inductive PkRes where
  | ok (ys : List UInt8) (m : List (List UInt8 × Nat))
  | err (m : List (List UInt8 × Nat))
def ptrB (p : Nat) : List UInt8 := [UInt8.ofNat (p / 256 ||| 192), UInt8.ofNat p]
/-- letter by letter: lab: the label under way; ys: what is written; on: is there a table; m: the table; base: where the name begins -/
def pk (base : Nat) (on : Bool) : List UInt8 → List UInt8 → List UInt8 → List (List UInt8 × Nat) → PkRes
  | [], _, ys, m => .ok (ys ++ [0]) m
  | c :: r, lab, ys, m =>
    if c = 46 then
      if lab.length ≥ 64 then .err m
      else if lab.length = 0 then .err m
      else pk base on r [] (ys ++ [UInt8.ofNat lab.length] ++ lab) m
    else if lab = [] ∧ on = true then
      match m.lookup (c :: r) with
      | some p => .ok (ys ++ ptrB p) m
      | none => if base + ys.length ≤ 16383 then pk base on r (lab ++ [c]) ys (m ++ [(c :: r, base + ys.length)]) else pk base on r (lab ++ [c]) ys m
    else pk base on r (lab ++ [c]) ys m
/-- a name as a whole -/
def packN (base : Nat) (on : Bool) (s : List UInt8) (m : List (List UInt8 × Nat)) : PkRes :=
  if s = [46] then .ok [0] m else pk base on s [] [] m
end Go.Proofs.YtdiememgbnplkaaDoor
