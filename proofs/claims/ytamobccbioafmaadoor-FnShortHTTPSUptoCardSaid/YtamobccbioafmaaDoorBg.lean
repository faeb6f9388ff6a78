/-
  Plain laws: names that were packed with a table are read back.
-/
import Derived.Test.YtamobccbioafmaaDoorBe
import Derived.Test.YtamobccbioafmaaDoorBa
import Derived.Test.YtamobccbioafmaaDoorBd
namespace Go.Proofs.YtamobccbioafmaaDoor
open Go

/-- labels, each with a dot behind it -/
def txt (ls : List (List UInt8)) : List UInt8 := (ls.map fun l => l ++ [46]).flatten
theorem txt_cons (l : List UInt8) (ls : List (List UInt8)) : txt (l :: ls) = l ++ 46 :: txt ls := by simp [txt]
/-- a name, as it is told -/
def nameTxt (ls : List (List UInt8)) : List UInt8 := if ls = [] then [46] else txt ls

/-- Reading a name in the message whose bytes behind the header are t: k steps; start: where the part under way began; at: where the reader stands; the labels; where the name ends; whether it stands whole. -/
inductive RdN (t : List UInt8) : Nat → Nat → Nat → List (List UInt8) → Nat → Bool → Prop
  | nil {start at_ : Nat} (h1 : 12 ≤ at_) (h2 : t[at_ - 12]? = some 0) : RdN t 1 start at_ [] (at_ + 1) true
  | lab {k start at_ : Nat} {l : List UInt8} {ls : List (List UInt8)} {e : Nat} {w : Bool} (h1 : 12 ≤ at_) (h2 : t[at_ - 12]? = some (UInt8.ofNat l.length)) (h3 : 0 < l.length) (h4 : l.length < 64) (h5 : (t.drop (at_ - 12 + 1)).take l.length = l) (h6 : 46 ∉ l)
      (h : RdN t k start (at_ + 1 + l.length) ls e w) : RdN t (k + 1) start at_ (l :: ls) e w
  | ptr {k start at_ p : Nat} {ls : List (List UInt8)} {e : Nat} {w : Bool} (h1 : 12 ≤ at_) (h2 : (t.drop (at_ - 12)).take 2 = ptrB p) (h3 : p < 16384) (h4 : p < start) (h : RdN t k p p ls e w) : RdN t (k + 1) start at_ ls (at_ + 2) false

theorem RdN.app {t : List UInt8} (u : List UInt8) {k start at_ : Nat} {ls : List (List UInt8)} {e : Nat} {w : Bool} (h : RdN t k start at_ ls e w) : RdN (t ++ u) k start at_ ls e w := by
  have get : ∀ (i : Nat) (x : UInt8), t[i]? = some x → (t ++ u)[i]? = some x := fun i x hx => by
    rw [List.getElem?_append_left (List.getElem?_eq_some_iff.1 hx).1]
    exact hx
  have part : ∀ (i : Nat) (l : List UInt8), (t.drop i).take l.length = l → ((t ++ u).drop i).take l.length = l := fun i l hl => by
    have h1 : l.length ≤ (t.drop i).length := by
      have := congrArg List.length hl
      simp only [List.length_take] at this
      omega
    have h2 : i ≤ t.length ∨ l = [] := by
      simp only [List.length_drop] at h1
      cases l with
      | nil => exact .inr rfl
      | cons a b => left; simp at h1; omega
    rcases h2 with h2 | rfl
    · rw [List.drop_append_of_le_length h2, List.take_append_of_le_length h1]
      exact hl
    · rfl
  induction h with
  | nil h1 h2 => exact .nil h1 (get _ _ h2)
  | lab h1 h2 h3 h4 h5 h6 _ ih => exact .lab h1 (get _ _ h2) h3 h4 (part _ _ h5) h6 ih
  | ptr h1 h2 h3 h4 _ ih => exact .ptr h1 (part _ (ptrB _) h2) h3 h4 ih
theorem RdN.from_ {t : List UInt8} {k start at_ : Nat} {ls : List (List UInt8)} {e : Nat} {w : Bool} (h : RdN t k start at_ ls e w) : ∀ start', start ≤ start' → RdN t k start' at_ ls e w := by
  induction h with
  | nil h1 h2 => exact fun _ _ => .nil h1 h2
  | lab h1 h2 h3 h4 h5 h6 _ ih => exact fun s hs => .lab h1 h2 h3 h4 h5 h6 (ih s hs)
  | ptr h1 h2 h3 h4 h _ => exact fun s hs => .ptr h1 h2 h3 (by omega) h
theorem RdN.at_lt {t : List UInt8} {k start at_ : Nat} {ls : List (List UInt8)} {e : Nat} {w : Bool} (h : RdN t k start at_ ls e w) : 12 ≤ at_ ∧ at_ < 12 + t.length ∧ at_ < e := by
  induction h with
  | nil h1 h2 => exact ⟨h1, by have := (List.getElem?_eq_some_iff.1 h2).1; omega, by omega⟩
  | lab h1 h2 _ _ _ _ _ ih => exact ⟨h1, by have := (List.getElem?_eq_some_iff.1 h2).1; omega, by omega⟩
  | @ptr k start at_ p ls e w h1 h2 _ _ _ _ =>
    have := congrArg List.length h2
    simp only [ptrB, List.length_take, List.length_drop, List.length_cons, List.length_nil] at this
    exact ⟨h1, by omega, by omega⟩
theorem RdN.end_le {t : List UInt8} {k start at_ : Nat} {ls : List (List UInt8)} {e : Nat} {w : Bool} (h : RdN t k start at_ ls e w) : e ≤ 12 + t.length := by
  induction h with
  | nil h1 h2 => have := (List.getElem?_eq_some_iff.1 h2).1; omega
  | lab _ _ _ _ _ _ _ ih => exact ih
  | @ptr k start at_ p ls e w h1 h2 _ _ _ _ =>
    have := congrArg List.length h2
    simp only [ptrB, List.length_take, List.length_drop, List.length_cons, List.length_nil] at this
    omega

/-- an entry of the table: it is read at its place -/
def Good (t : List UInt8) (x : List UInt8 × Nat) : Prop := x.2 < 16384 ∧ ∃ k ls e w, RdN t k x.2 x.2 ls e w ∧ x.1 = txt ls ∧ ls ≠ []
theorem Good.app {t : List UInt8} {x : List UInt8 × Nat} (u : List UInt8) (h : Good t x) : Good (t ++ u) x := by
  obtain ⟨h1, k, ls, e, w, h2, h3⟩ := h
  exact ⟨h1, k, ls, e, w, h2.app u, h3⟩
theorem Good.lt {t : List UInt8} {x : List UInt8 × Nat} (h : Good t x) : x.2 < 12 + t.length := by
  obtain ⟨h1, k, ls, e, w, h2, h3⟩ := h
  exact h2.at_lt.2.1

theorem mem_of_lookup : ∀ {m : List (List UInt8 × Nat)} {s : List UInt8} {p : Nat}, m.lookup s = some p → (s, p) ∈ m
  | [], _, _, h => by simp at h
  | (a, q) :: r, s, p, h => by
    by_cases e : s = a
    · subst e
      simp [List.lookup] at h
      simp [h]
    · have : (s == a) = false := by simpa using e
      simp only [List.lookup, this] at h
      exact List.mem_cons_of_mem _ (mem_of_lookup h)

theorem pk_read (t : List UInt8) (on : Bool) : ∀ (s lab ys : List UInt8) (m : List (List UInt8 × Nat)) (zs : List UInt8) (m' : List (List UInt8 × Nat)), pk (12 + t.length) on s lab ys m = .ok zs m' → s.foldl nokStep (some lab.length) = some 0 → 46 ∉ lab →
    (∀ x ∈ m, Good t x ∨ s.length < x.1.length) →
    ∃ xs news k ls e w, zs = ys ++ xs ∧ m' = m ++ news ∧ lab ++ s = txt ls ∧ (on = false → w = true ∧ news = []) ∧ e = 12 + t.length + zs.length ∧
      (∀ start, 12 + t.length ≤ start → RdN (t ++ zs) k start (12 + t.length + ys.length) ls e w) ∧ ∀ x ∈ news, Good (t ++ zs) x
  | [], lab, ys, m, zs, m', h, hn, hd, hm => by
    simp only [List.foldl_nil, Option.some.injEq] at hn
    have : lab = [] := List.length_eq_zero_iff.1 hn
    subst this
    rw [pk] at h
    injection h with h1 h2
    subst h1 h2
    refine ⟨[0], [], 1, [], 12 + t.length + (ys ++ [0]).length, true, rfl, by simp, by simp [txt], fun _ => ⟨rfl, rfl⟩, rfl, fun start hs => ?_, by simp⟩
    have e : 12 + t.length + (ys ++ [0]).length = 12 + t.length + ys.length + 1 := by simp; omega
    rw [e]
    refine .nil (by omega) ?_
    rw [show 12 + t.length + ys.length - 12 = (t ++ ys).length by simp; omega, ← List.append_assoc]
    simp
  | c :: r, lab, ys, m, zs, m', h, hn, hd, hm => by
    rw [pk] at h
    by_cases hc : c = 46
    · subst hc
      by_cases h0 : lab.length = 0 ∨ lab.length > 63
      · have e : nokStep (some lab.length) 46 = none := by simp only [nokStep, if_pos h0]; simp
        rw [List.foldl_cons, e, nokNone] at hn
        cases hn
      · have e : nokStep (some lab.length) 46 = some 0 := by simp only [nokStep, if_neg h0]; simp
        rw [List.foldl_cons, e] at hn
        rw [if_pos rfl, if_neg (by omega), if_neg (by omega)] at h
        obtain ⟨xs, news, k, ls, e', w, h1, h2, h3, h4, h5, h6, h7⟩ := pk_read t on r [] _ m zs m' h hn (by simp) (fun x hx => by
          rcases hm x hx with h | h
          · exact .inl h
          · right; simp only [List.length_cons] at h; omega)
        refine ⟨[UInt8.ofNat lab.length] ++ lab ++ xs, news, k + 1, lab :: ls, e', w, by rw [h1]; simp, h2, ?_, h4, h5, fun start hs => ?_, h7⟩
        · rw [txt_cons, ← h3]; simp
        · have h8 := h6 start hs
          have e1 : 12 + t.length + (ys ++ [UInt8.ofNat lab.length] ++ lab).length = 12 + t.length + ys.length + 1 + lab.length := by simp; omega
          rw [e1] at h8
          have e2 : t ++ zs = (t ++ ys) ++ ([UInt8.ofNat lab.length] ++ (lab ++ xs)) := by rw [h1]; simp
          have e3 : 12 + t.length + ys.length - 12 = (t ++ ys).length := by simp; omega
          refine .lab (by omega) ?_ (by omega) (by omega) ?_ hd h8
          · rw [e2, e3, List.getElem?_append_right (Nat.le_refl _)]
            simp
          · rw [e2, e3, ← List.append_assoc (t ++ ys), List.drop_left' (by simp; omega)]
            simp
    · have e : nokStep (some lab.length) c = some (lab ++ [c]).length := by simp [nokStep, hc]
      rw [List.foldl_cons, e] at hn
      have hd' : 46 ∉ lab ++ [c] := by
        simp only [List.mem_append, List.mem_singleton, not_or]
        exact ⟨hd, fun h => hc h.symm⟩
      have hm' : ∀ x ∈ m, Good t x ∨ r.length < x.1.length := fun x hx => by
        rcases hm x hx with h | h
        · exact .inl h
        · right; simp only [List.length_cons] at h; omega
      rw [if_neg hc] at h
      have go : ∀ m1, (∀ x ∈ m1, Good t x ∨ r.length < x.1.length) → pk (12 + t.length) on r (lab ++ [c]) ys m1 = .ok zs m' →
          ∃ xs news k ls e w, zs = ys ++ xs ∧ m' = m1 ++ news ∧ lab ++ c :: r = txt ls ∧ (on = false → w = true ∧ news = []) ∧ e = 12 + t.length + zs.length ∧
            (∀ start, 12 + t.length ≤ start → RdN (t ++ zs) k start (12 + t.length + ys.length) ls e w) ∧ ∀ x ∈ news, Good (t ++ zs) x := fun m1 h1 h2 => by
        obtain ⟨xs, news, k, ls, e', w, a1, a2, a3, a4⟩ := pk_read t on r (lab ++ [c]) ys m1 zs m' h2 hn hd' h1
        exact ⟨xs, news, k, ls, e', w, a1, a2, by rw [← a3]; simp, a4⟩
      split at h
      · next hl =>
        obtain ⟨rfl, hon⟩ := hl
        split at h
        · next p hp =>
          injection h with h1 h2
          subst h1 h2
          have hg : Good t (c :: r, p) := by
            rcases hm _ (mem_of_lookup hp) with h | h
            · exact h
            · exact absurd h (by simp)
          have hlt := hg.lt
          obtain ⟨h1, k, ls, e', w, h2, h3, h4⟩ := hg
          refine ⟨ptrB p, [], k + 1, ls, 12 + t.length + ys.length + 2, false, rfl, by simp, by simpa using h3, fun h => (by rw [hon] at h; cases h), by simp [ptrB]; omega, fun start hs => ?_, by simp⟩
          refine .ptr (by omega) ?_ h1 (by simp only at hlt; omega) (h2.app _)
          rw [show 12 + t.length + ys.length - 12 = (t ++ ys).length by simp; omega, ← List.append_assoc, List.drop_left' rfl]
          rfl
        · next hp =>
          split at h
          · next hb =>
            obtain ⟨xs, news, k, ls, e', w, a1, a2, a3, a4, a5, a6, a7⟩ := go _ (fun x hx => by
              rcases List.mem_append.1 hx with h | h
              · exact hm' x h
              · simp at h
                subst h
                right
                simp) h
            refine ⟨xs, (c :: r, 12 + t.length + ys.length) :: news, k, ls, e', w, a1, by rw [a2]; simp, a3, fun h => (by rw [hon] at h; cases h), a5, a6, fun x hx => ?_⟩
            rcases List.mem_cons.1 hx with rfl | hx
            · refine ⟨by simp only; omega, k, ls, e', w, a6 _ (by simp only; omega), by simpa using a3, ?_⟩
              intro hls
              subst hls
              simp [txt] at a3
            · exact a7 x hx
          · exact go m hm' h
      · exact go m hm' h

/-- a name that is told by labels -/
theorem packN_read (t : List UInt8) (on : Bool) (s : List UInt8) (hs : nameOk s = true) (m : List (List UInt8 × Nat)) (zs : List UInt8) (m' : List (List UInt8 × Nat)) (h : packN (12 + t.length) on s m = .ok zs m') (hm : ∀ x ∈ m, Good t x) :
    (∃ k ls w, s = nameTxt ls ∧ (on = false → w = true) ∧ RdN (t ++ zs) k (12 + t.length) (12 + t.length) ls (12 + t.length + zs.length) w) ∧ ∀ x ∈ m', Good (t ++ zs) x := by
  unfold packN at h
  split at h
  · next e =>
    injection h with h1 h2
    subst h1 h2 e
    refine ⟨⟨1, [], true, by simp [nameTxt], fun _ => rfl, ?_⟩, fun x hx => (hm x hx).app _⟩
    exact .nil (by omega) (by rw [show 12 + t.length - 12 = t.length by omega]; simp)
  · next e =>
    have hn : nok s = some 0 := by
      simp only [nameOk, Bool.or_eq_true, Bool.and_eq_true, decide_eq_true_eq] at hs
      rcases hs with h | ⟨⟨h1, _⟩, _⟩
      · exact absurd (by simpa using h) e
      · simpa using h1
    have hpos := (nameOk_pname hs).pos
    obtain ⟨xs, news, k, ls, e', w, h1, h2, h3, h4, h5, h6, h7⟩ := pk_read t on s [] [] m zs m' h (by simpa [nok] using hn) (by simp) fun x hx => .inl (hm x hx)
    subst h5
    have hls : ls ≠ [] := by
      intro e
      subst e
      simp [txt] at h3
      subst h3
      simp at hpos
    refine ⟨⟨k, ls, w, by rw [nameTxt, if_neg hls, ← h3]; simp, fun h => (h4 h).1, by simpa using h6 _ (Nat.le_refl _)⟩, fun x hx => ?_⟩
    rw [h2] at hx
    rcases List.mem_append.1 hx with hx | hx
    · exact (hm x hx).app _
    · exact h7 x hx

/-! ### lengths -/
theorem wst_mono : ∀ (s ys lab : List UInt8), ys.length ≤ (s.foldl wstep (ys, lab)).1.length
  | [], ys, lab => by simp
  | c :: r, ys, lab => by
    have h1 : ys.length ≤ (wstep (ys, lab) c).1.length := by
      unfold wstep
      split
      · simp
      · split
        · simp
        · simp
    have h2 := wst_mono r (wstep (ys, lab) c).1 (wstep (ys, lab) c).2
    rw [List.foldl_cons]
    exact Nat.le_trans h1 h2
theorem wst_more : ∀ (s ys lab : List UInt8), s.foldl nokStep (some lab.length) = some 0 → s ≠ [] → ys.length + 2 ≤ (s.foldl wstep (ys, lab)).1.length
  | [], _, _, _, h => absurd rfl h
  | c :: r, ys, lab, h, _ => by
    rw [List.foldl_cons]
    by_cases hc : c = 46
    · subst hc
      by_cases h0 : lab.length = 0 ∨ lab.length > 63
      · have e : nokStep (some lab.length) 46 = none := by simp only [nokStep, if_pos h0]; simp
        rw [List.foldl_cons, e, nokNone] at h
        cases h
      · have e2 : wstep (ys, lab) 46 = (ys ++ [UInt8.ofNat lab.length] ++ lab, []) := by
          have : lab.length > 0 := by omega
          simp only [wstep, if_pos this]
          simp
        rw [e2]
        have := wst_mono r (ys ++ [UInt8.ofNat lab.length] ++ lab) []
        simp only [List.length_append, List.length_cons, List.length_nil] at this
        omega
    · have e : nokStep (some lab.length) c = some (lab ++ [c]).length := by simp [nokStep, hc]
      rw [List.foldl_cons, e] at h
      have e2 : wstep (ys, lab) c = (ys, lab ++ [c]) := by simp [wstep, hc]
      rw [e2]
      refine wst_more r ys _ h ?_
      intro hr
      subst hr
      simp at h
theorem pk_le (base : Nat) (on : Bool) : ∀ (s lab ys : List UInt8) (m : List (List UInt8 × Nat)) (zs : List UInt8) (m' : List (List UInt8 × Nat)), pk base on s lab ys m = .ok zs m' → s.foldl nokStep (some lab.length) = some 0 → zs.length ≤ (s.foldl wstep (ys, lab)).1.length + 1
  | [], lab, ys, m, zs, m', h, hn => by
    rw [pk] at h
    injection h with h1 h2
    subst h1
    simp
  | c :: r, lab, ys, m, zs, m', h, hn => by
    rw [pk] at h
    by_cases hc : c = 46
    · subst hc
      by_cases h0 : lab.length = 0 ∨ lab.length > 63
      · have e : nokStep (some lab.length) 46 = none := by simp only [nokStep, if_pos h0]; simp
        rw [List.foldl_cons, e, nokNone] at hn
        cases hn
      · have e : nokStep (some lab.length) 46 = some 0 := by simp only [nokStep, if_neg h0]; simp
        rw [List.foldl_cons, e] at hn
        rw [if_pos rfl, if_neg (by omega), if_neg (by omega)] at h
        have e2 : wstep (ys, lab) 46 = (ys ++ [UInt8.ofNat lab.length] ++ lab, []) := by
          have : lab.length > 0 := by omega
          simp only [wstep, if_pos this]
          simp
        rw [List.foldl_cons, e2]
        exact pk_le base on r [] _ m zs m' h hn
    · have hn0 := hn
      have e : nokStep (some lab.length) c = some (lab ++ [c]).length := by simp [nokStep, hc]
      rw [List.foldl_cons, e] at hn
      have e2 : wstep (ys, lab) c = (ys, lab ++ [c]) := by simp [wstep, hc]
      rw [if_neg hc] at h
      have go : ∀ m1, pk base on r (lab ++ [c]) ys m1 = .ok zs m' → zs.length ≤ ((c :: r).foldl wstep (ys, lab)).1.length + 1 := fun m1 h => by
        rw [List.foldl_cons, e2]
        exact pk_le base on r _ ys m1 zs m' h hn
      split at h
      · split at h
        · injection h with h1 h2
          subst h1
          have := wst_more (c :: r) ys lab hn0 (by simp)
          simp only [ptrB, List.length_append, List.length_cons, List.length_nil]
          omega
        · split at h
          · exact go _ h
          · exact go _ h
      · exact go _ h
theorem packN_le_wire {base : Nat} {on : Bool} {s : List UInt8} (hs : nameOk s = true) {m : List (List UInt8 × Nat)} {zs : List UInt8} {m' : List (List UInt8 × Nat)} (h : packN base on s m = .ok zs m') : zs.length ≤ (wire s).length := by
  unfold packN at h
  split at h
  · injection h with h1 h2
    subst h1
    simp [wire]
  · next e =>
    have hn : nok s = some 0 := by
      simp only [nameOk, Bool.or_eq_true, Bool.and_eq_true, decide_eq_true_eq] at hs
      rcases hs with h | ⟨⟨h1, _⟩, _⟩
      · exact absurd (by simpa using h) e
      · simpa using h1
    have := pk_le base on s [] [] m zs m' h (by simpa [nok] using hn)
    simpa [wire, wst] using this

/-! ### a table that has none of the parts of a name -/
theorem pk_none (base : Nat) : ∀ (s lab ys : List UInt8) (m : List (List UInt8 × Nat)), s.foldl nokStep (some lab.length) = some 0 → (∀ x ∈ m, s.length < x.1.length) → ∃ news, pk base true s lab ys m = .ok ((s.foldl wstep (ys, lab)).1 ++ [0]) (m ++ news)
  | [], lab, ys, m, _, _ => ⟨[], by simp [pk]⟩
  | c :: r, lab, ys, m, h, hm => by
    rw [pk]
    by_cases hc : c = 46
    · subst hc
      by_cases h0 : lab.length = 0 ∨ lab.length > 63
      · have e : nokStep (some lab.length) 46 = none := by simp only [nokStep, if_pos h0]; simp
        rw [List.foldl_cons, e, nokNone] at h
        cases h
      · have e : nokStep (some lab.length) 46 = some 0 := by simp only [nokStep, if_neg h0]; simp
        rw [List.foldl_cons, e] at h
        have e2 : wstep (ys, lab) 46 = (ys ++ [UInt8.ofNat lab.length] ++ lab, []) := by
          have : lab.length > 0 := by omega
          simp only [wstep, if_pos this]
          simp
        rw [if_pos rfl, if_neg (by omega), if_neg (by omega), List.foldl_cons, e2]
        exact pk_none base r [] _ m h fun x hx => by have := hm x hx; simp only [List.length_cons] at this; omega
    · have e : nokStep (some lab.length) c = some (lab ++ [c]).length := by simp [nokStep, hc]
      rw [List.foldl_cons, e] at h
      have e2 : wstep (ys, lab) c = (ys, lab ++ [c]) := by simp [wstep, hc]
      have hm' : ∀ x ∈ m, r.length < x.1.length := fun x hx => by have := hm x hx; simp only [List.length_cons] at this; omega
      rw [if_neg hc, List.foldl_cons, e2]
      split
      · split
        · next p hp => exact absurd (hm _ (mem_of_lookup hp)) (by simp)
        · split
          · obtain ⟨news, hx⟩ := pk_none base r (lab ++ [c]) ys (m ++ [(c :: r, base + ys.length)]) h fun x hx => by
              rcases List.mem_append.1 hx with h | h
              · exact hm' x h
              · simp at h
                subst h
                simp
            exact ⟨(c :: r, base + ys.length) :: news, by rw [hx]; simp⟩
          · exact pk_none base r (lab ++ [c]) ys m h hm'
      · exact pk_none base r (lab ++ [c]) ys m h hm'
/-- the first name of all stands whole, and is in the table -/
theorem packN_first (base : Nat) (l : List UInt8) (h : nameOk l = true) : ∃ m', packN base true l [] = .ok (wire l) m' ∧ (1 < l.length → base ≤ 16383 → m'.lookup l = some base) := by
  unfold packN
  split
  · next e => subst e; exact ⟨[], rfl, fun h => by simp at h⟩
  · next e =>
    have hn : nok l = some 0 := by
      simp only [nameOk, Bool.or_eq_true, Bool.and_eq_true, decide_eq_true_eq] at h
      rcases h with h | ⟨⟨h1, _⟩, _⟩
      · exact absurd (by simpa using h) e
      · simpa using h1
    obtain ⟨news, hx⟩ := pk_none base l [] [] [] (by simpa [nok] using hn) (by simp)
    refine ⟨[] ++ news, by rw [hx]; simp [wire, wst], fun _ hb => ?_⟩
    cases l with
    | nil => simp [nameOk] at h
    | cons c r =>
      have hc : c ≠ 46 := by
        intro hc
        subst hc
        have e : nokStep (some 0) 46 = none := by simp [nokStep]
        simp only [nok, List.foldl_cons, e, nokNone] at hn
        cases hn
      have e1 : nokStep (some 0) c = some [c].length := by simp [nokStep, hc]
      have hn' : r.foldl nokStep (some [c].length) = some 0 := by
        simp only [nok, List.foldl_cons, e1] at hn
        exact hn
      obtain ⟨news2, hy⟩ := pk_none base r [c] [] [(c :: r, base)] hn' (by simp)
      rw [pk, if_neg hc, if_pos ⟨rfl, rfl⟩] at hx
      simp only [List.lookup_nil, List.nil_append, List.length_nil, Nat.add_zero, if_pos hb, hy] at hx
      injection hx with hx1 hx2
      rw [List.nil_append, ← hx2]
      simp
theorem packN_hit (base : Nat) (l : List UInt8) (m : List (List UInt8 × Nat)) (p : Nat) (h : nameOk l = true) (hl : 1 < l.length) (hp : m.lookup l = some p) : packN base true l m = .ok (ptrB p) m := by
  unfold packN
  rw [if_neg (by intro e; subst e; simp at hl)]
  have hn : nok l = some 0 := by
    simp only [nameOk, Bool.or_eq_true, Bool.and_eq_true, decide_eq_true_eq] at h
    rcases h with h | ⟨⟨h1, _⟩, _⟩
    · have : l = [46] := by simpa using h
      subst this
      simp at hl
    · simpa using h1
  cases l with
  | nil => simp at hl
  | cons c r =>
    have hc : c ≠ 46 := by
      intro hc
      subst hc
      have e : nokStep (some 0) 46 = none := by simp [nokStep]
      simp only [nok, List.foldl_cons, e, nokNone] at hn
      cases hn
    rw [pk, if_neg hc, if_pos ⟨rfl, rfl⟩, hp]
    simp
theorem wire_long (l : List UInt8) (h : nameOk l = true) (hl : 1 < l.length) : 3 ≤ (wire l).length := by
  have hn : nok l = some 0 := by
    simp only [nameOk, Bool.or_eq_true, Bool.and_eq_true, decide_eq_true_eq] at h
    rcases h with h | ⟨⟨h1, _⟩, _⟩
    · have : l = [46] := by simpa using h
      subst this
      simp at hl
    · simpa using h1
  have := wst_more l [] [] (by simpa [nok] using hn) (by intro e; subst e; simp at hl)
  simp [wire, wst] at *
  omega
end Go.Proofs.YtamobccbioafmaaDoor

/-
  Facts of the program's tables that the records' walks use.
-/
namespace Go.Proofs.YtamobccbioafmaaDoor
open Go
set_option maxRecDepth 100000
theorem elt_71 : Elt Tryd.prog 71 167 2 32 (.agg #[.int .u16 0, .slice none 0 0]) := ⟨Tryd.underlying71, by decide, by kernel_rfl, by kernel_rfl, by decide⟩
theorem fa_160_0 : FieldAt Tryd.prog 160 0 0 := by unfold FieldAt; kernel_rfl
theorem fa_160_1 : FieldAt Tryd.prog 160 1 1 := by unfold FieldAt; kernel_rfl
theorem fa_167_0 : FieldAt Tryd.prog 167 0 0 := by unfold FieldAt; kernel_rfl
theorem fa_167_1 : FieldAt Tryd.prog 167 1 1 := by unfold FieldAt; kernel_rfl
theorem fa_67_0 : FieldAt Tryd.prog 67 0 0 := by unfold FieldAt; kernel_rfl
theorem fa_67_1 : FieldAt Tryd.prog 67 1 256 := by unfold FieldAt; kernel_rfl
theorem fa_67_2 : FieldAt Tryd.prog 67 2 257 := by unfold FieldAt; kernel_rfl
theorem fa_67_3 : FieldAt Tryd.prog 67 3 258 := by unfold FieldAt; kernel_rfl
theorem fa_67_4 : FieldAt Tryd.prog 67 4 259 := by unfold FieldAt; kernel_rfl
theorem fa_73_0 : FieldAt Tryd.prog 73 0 0 := by unfold FieldAt; kernel_rfl
theorem fa_73_1 : FieldAt Tryd.prog 73 1 1 := by unfold FieldAt; kernel_rfl
theorem fa_73_2 : FieldAt Tryd.prog 73 2 257 := by unfold FieldAt; kernel_rfl
theorem fa_75_0 : FieldAt Tryd.prog 75 0 0 := by unfold FieldAt; kernel_rfl
theorem has_26 : Has Tryd.prog 26 := ⟨_, Tryd.func26, by kernel_rfl, rfl⟩
theorem has_27 : Has Tryd.prog 27 := ⟨_, Tryd.func27, by kernel_rfl, rfl⟩
theorem has_28 : Has Tryd.prog 28 := ⟨_, Tryd.func28, by kernel_rfl, rfl⟩
theorem has_29 : Has Tryd.prog 29 := ⟨_, Tryd.func29, by kernel_rfl, rfl⟩
theorem has_39 : Has Tryd.prog 39 := ⟨_, Tryd.func39, by kernel_rfl, rfl⟩
theorem has_40 : Has Tryd.prog 40 := ⟨_, Tryd.func40, by kernel_rfl, rfl⟩
theorem has_41 : Has Tryd.prog 41 := ⟨_, Tryd.func41, by kernel_rfl, rfl⟩
theorem has_59 : Has Tryd.prog 59 := ⟨_, Tryd.func59, by kernel_rfl, rfl⟩
theorem has_60 : Has Tryd.prog 60 := ⟨_, Tryd.func60, by kernel_rfl, rfl⟩
theorem has_72 : Has Tryd.prog 72 := ⟨_, Tryd.func72, by kernel_rfl, rfl⟩
theorem has_74 : Has Tryd.prog 74 := ⟨_, Tryd.func74, by kernel_rfl, rfl⟩
theorem has_83 : Has Tryd.prog 83 := ⟨_, Tryd.func83, by kernel_rfl, rfl⟩
theorem has_84 : Has Tryd.prog 84 := ⟨_, Tryd.func84, by kernel_rfl, rfl⟩
theorem has_85 : Has Tryd.prog 85 := ⟨_, Tryd.func85, by kernel_rfl, rfl⟩
theorem has_86 : Has Tryd.prog 86 := ⟨_, Tryd.func86, by kernel_rfl, rfl⟩
theorem has_93 : Has Tryd.prog 93 := ⟨_, Tryd.func93, by kernel_rfl, rfl⟩
theorem places_167 : places Tryd.prog 167 = some [(0, 1), (1, 1)] := by kernel_rfl
theorem places_73 : places Tryd.prog 73 = some [(0, 1), (1, 256), (257, 1)] := by kernel_rfl
theorem places_75 : places Tryd.prog 75 = some [(0, 258)] := by kernel_rfl
theorem sz_167 : (Tryd.prog.info? 167).map (·.size) = some 2 := by kernel_rfl
theorem sz_64 : (Tryd.prog.info? 64).map (·.size) = some 1 := by kernel_rfl
theorem sz_73 : (Tryd.prog.info? 73).map (·.size) = some 258 := by kernel_rfl
theorem sz_75 : (Tryd.prog.info? 75).map (·.size) = some 258 := by kernel_rfl
theorem zero_167 : (Tryd.prog.info? 167).bind (·.zero) = some (.agg #[.int .u16 0, .slice none 0 0]) := by kernel_rfl
theorem zero_73 : (Tryd.prog.info? 73).bind (·.zero) = some (.agg (List.replicate 1 (Value.int .u16 0) ++ List.replicate 256 (Value.int .u8 0) ++ List.replicate 1 (Value.slice none 0 0)).toArray) := by kernel_rfl
theorem zero_75 : (Tryd.prog.info? 75).bind (·.zero) = some (.agg (List.replicate 1 (Value.int .u16 0) ++ List.replicate 256 (Value.int .u8 0) ++ List.replicate 1 (Value.slice none 0 0)).toArray) := by kernel_rfl
end Go.Proofs.YtamobccbioafmaaDoor

/-
  Contracts of the package: what the records of all kinds share.
-/
namespace Go.Proofs.YtamobccbioafmaaDoor
open Go
set_option maxRecDepth 100000

/-- four bytes -/
def b4 (x : Nat) : List UInt8 := be16 (x / 65536 % 65536) ++ be16 (x % 65536)
theorem b4_len (x : Nat) : (b4 x).length = 4 := rfl
def b4' (x : Nat) : List UInt8 := [UInt8.ofNat (x / 16777216), UInt8.ofNat (x / 65536), UInt8.ofNat (x / 256), UInt8.ofNat x]
theorem ofNat_congr {x y : Nat} (h : x % 256 = y % 256) : UInt8.ofNat x = UInt8.ofNat y := by
  apply UInt8.toNat_inj.1
  simp [UInt8.toNat_ofNat', h]
theorem b4_eq (x : Nat) (h : x < 4294967296) : b4' x = b4 x := by
  simp only [b4', b4, be16, List.cons_append, List.nil_append]
  rw [ofNat_congr (show x / 16777216 % 256 = x / 65536 % 65536 / 256 % 256 by omega), ofNat_congr (show x / 65536 % 256 = x / 65536 % 65536 % 256 by omega),
    ofNat_congr (show x / 256 % 256 = x % 65536 / 256 % 256 by omega), ofNat_congr (show x % 256 = x % 65536 % 256 by omega)]
theorem shr24w (x : Nat) : ((x : Int).fdiv (2 ^ min (24 : Int).toNat IntKind.u32.bits)) = ((x / 16777216 : Nat) : Int) := by
  simp [IntKind.bits]
  rw [Int.fdiv_eq_ediv_of_nonneg _ (by omega)]
theorem shr8w (x : Nat) : ((x : Int).fdiv (2 ^ min (8 : Int).toNat IntKind.u32.bits)) = ((x / 256 : Nat) : Int) := by
  simp [IntKind.bits]
  rw [Int.fdiv_eq_ediv_of_nonneg _ (by omega)]
theorem packUint32_spec (x : Nat) (hx : x < 4294967296) (v v' : Value) (bs bs' : List UInt8) (hl : bs'.length + 4 ≤ 175921860444160) :
    Spec Tryd.prog 93 [v', .int .u32 x] [appB 5 v bs v' bs'] (fun _ => True) (RetA 5 v bs (bs' ++ b4 x)) := by
  rw [← b4_eq x hx]
  refine Spec.of Tryd.func93 rfl Tryd.ntmps93 rfl fun w0 _ => ?_
  refine CodeJ.seq ?_
  refine CodeJ.region ?_
  refine OpsJ.yld rfl rfl rfl (Yld.assign rfl rfl) ?_
  refine OpsJ.nil ?_
  refine ExJ.thenN ?_
  refine CodeJ.seq ?_
  refine CodeJ.region ?_
  refine OpsJ.yld rfl rfl rfl (Yld.move rfl rfl) ?_
  refine OpsJ.yld rfl rfl rfl (Yld.move rfl rfl) ?_
  refine OpsJ.yld rfl rfl rfl (Yld.shr rfl rfl rfl (by decide)) ?_
  refine OpsJ.yld rfl rfl rfl (Yld.convInt rfl Tryd.underlying30 Tryd.underlying5 rfl) ?_
  refine OpsJ.yld rfl rfl rfl (Yld.move rfl rfl) ?_
  refine OpsJ.yld rfl rfl rfl (Yld.shr rfl rfl rfl (by decide)) ?_
  refine OpsJ.yld rfl rfl rfl (Yld.convInt rfl Tryd.underlying30 Tryd.underlying5 rfl) ?_
  refine OpsJ.yld rfl rfl rfl (Yld.move rfl rfl) ?_
  refine OpsJ.yld rfl rfl rfl (Yld.shr rfl rfl rfl (by decide)) ?_
  refine OpsJ.yld rfl rfl rfl (Yld.convInt rfl Tryd.underlying30 Tryd.underlying5 rfl) ?_
  refine OpsJ.yld rfl rfl rfl (Yld.move rfl rfl) ?_
  refine OpsJ.yld rfl rfl rfl (Yld.convInt rfl Tryd.underlying30 Tryd.underlying5 rfl) ?_
  rw [shr24w, shr16, shr8w, u8_wrap, u8_wrap, u8_wrap, u8_wrap]
  refine OpsJ.op rfl ?_
  refine OpJ.buildSlice (xs := [.tmp 8, .tmp 11, .tmp 14, .tmp 16]) elt_31 rfl rfl rfl rfl rfl rfl (by rfl) (by decide) fun s17 hs17 => ?_
  refine OpsJ.op rfl ?_
  refine OpJ.appendB (i := 1) (news := b4' x) elt_31 rfl rfl rfl rfl rfl rfl (fun w hI => Bytes.src (Inv.bytes (k := 0) rfl w hI) Tryd.underlying31) hl fun p18 c18 => ?_
  refine OpsJ.yld rfl rfl rfl (Yld.assign rfl rfl) ?_
  refine OpsJ.nil ?_
  refine ExJ.thenN ?_
  refine CodeJ.ret ?_
  exact ExJ.ret1 Tryd.results93 rfl ⟨_, _, rfl, rfl⟩ fun w hI => hI.pick (is := [1]) (by decide) rfl

theorem ExJ.ret3 {P : Program} {n : Nat} {w0 : World} {S : List Nat} {fn : Func} {s t u : Nat} {v1 v2 v3 : Value} {L H H'} {w1 : World} {S1 : List Nat} {Post : Value → List Res → Prop} (hr : fn.results = #[.tmp s, .tmp t, .tmp u]) (hs : L.lookup s = some v1) (ht : L.lookup t = some v2) (hu : L.lookup u = some v3) (hP : Post (.tuple #[v1, v2, v3]) H') (hH : ∀ w, Inv w0 S H w → Inv w1 S1 H' w) :
    ExJ (bodyPost P fn (Ret w1 S1 Post)) .ret n w0 S L H :=
  ExJ.retOf (v := .tuple #[v1, v2, v3]) (fun a w hE _ => by simp [results, hr, hE.at_ s v1 hs, hE.at_ t v2 ht, hE.at_ u v3 hu]) hP hH

/-- the head of a record, behind its name -/
def rh10 (typ cls ttl len : Nat) : List UInt8 := be16 typ ++ be16 cls ++ b4 ttl ++ be16 len
theorem rh10_len (typ cls ttl len : Nat) : (rh10 typ cls ttl len).length = 10 := rfl
def HeadPost (T : TypeId) (v : Value) (bs bs' : List UInt8) (r : Option Nat) (typ cls ttl len : Nat) : PkRes → Value → List Res → Prop
  | .ok ys m, x, H' => ∃ p c, x = .tuple #[.slice p (bs' ++ ys ++ rh10 typ cls ttl len).length c, .int .i64 ((bs'.length + ys.length + 8 : Nat) : Int), .nilIface] ∧ H' = [appB T v bs (.slice p (bs' ++ ys ++ rh10 typ cls ttl len).length c) (bs' ++ ys ++ rh10 typ cls ttl len), .mp r (kvV m)]
  | .err m, x, H' => ∃ u1 u2 a, x = .tuple #[u1, u2, .iface 155 (.pointer (some a))] ∧ H' = [ownB T v bs, .mp r (kvV m)]

theorem rhPack_spec (G : GEnv) (l : List UInt8) (hn : PName l) (typ cls ttl len : Nat) (httl : ttl < 4294967296) (bq off : Nat) (v : Value) (bs bs' : List UInt8) (p : Option Addr) (c : Nat) (r : Option Nat) (m : List (List UInt8 × Nat)) (hoff : off ≤ bs'.length) (hbig : bs'.length ≤ 158329674399744 - 1024) (hm : ∀ x ∈ m, x.2 < 65536) :
    Spec Tryd.prog 84 [.pointer (some ⟨bq, 0, none⟩), .slice p bs'.length c, .map r, .int .i64 off] [appB 5 v bs (.slice p bs'.length c) bs', .mp r (kvV m)]
      (fun w => Cells w bq 0 (rhCs l typ cls ttl len) ∧ bq ∉ fp [appB 5 v bs (.slice p bs'.length c) bs', .mp r (kvV m)] ∧ GE G w (fp [appB 5 v bs (.slice p bs'.length c) bs', .mp r (kvV m)]))
      (HeadPost 5 v bs bs' r typ cls ttl len (packN (bs'.length - off) r.isSome l m)) := by
  refine Spec.of Tryd.func84 rfl Tryd.ntmps84 rfl fun w0 hR => ?_
  obtain ⟨hcs, hbq, hge⟩ := hR
  have hlen := nameCs_len l (by have := hn.le; omega)
  have hname : Cells w0 bq (0 + 0) (nameCs l) := hcs.part (k := 0) (by simp [rhCs]) (by simp [rhCs])
  have hdr : ∀ k, (rhCs l typ cls ttl len).drop (256 + k) = [Value.int .u16 typ, .int .u16 cls, .int .u32 ttl, .int .u16 len].drop k := fun k => by
    rw [rhCs, ← List.drop_drop, List.drop_left' hlen]
  have hrl : (rhCs l typ cls ttl len).length = 260 := by simp [rhCs, hlen]
  have htyp : Cells w0 bq (0 + 256) [.int .u16 typ] := hcs.part (k := 256) (by rw [hdr 0]; rfl) (by rw [hrl]; exact Nat.le_of_ble_eq_true rfl)
  have hcls : Cells w0 bq (0 + 257) [.int .u16 cls] := hcs.part (k := 257) (by rw [hdr 1]; rfl) (by rw [hrl]; exact Nat.le_of_ble_eq_true rfl)
  have httlc : Cells w0 bq (0 + 258) [.int .u32 ttl] := hcs.part (k := 258) (by rw [hdr 2]; rfl) (by rw [hrl]; exact Nat.le_of_ble_eq_true rfl)
  have hlenc : Cells w0 bq (0 + 259) [.int .u16 len] := hcs.part (k := 259) (by rw [hdr 3]; rfl) (by rw [hrl]; exact Nat.le_of_ble_eq_true rfl)
  have hl := hn.le
  cases hq : packN (bs'.length - off) r.isSome l m with
  | ok ys m' =>
    have hys := packN_len hq
    refine CodeJ.seq ?_
    refine CodeJ.region ?_
    refine OpsJ.yld rfl rfl rfl (Yld.assign rfl rfl) ?_
    refine OpsJ.yld rfl rfl rfl (Yld.assign rfl rfl) ?_
    refine OpsJ.yld rfl rfl rfl (Yld.assign rfl rfl) ?_
    refine OpsJ.nil ?_
    refine ExJ.thenN ?_
    refine CodeJ.seq ?_
    refine CodeJ.region ?_
    refine OpsJ.yld rfl rfl rfl (Yld.move rfl rfl) ?_
    refine OpsJ.yld rfl rfl rfl (Yld.assign rfl rfl) ?_
    refine OpsJ.nil ?_
    refine ExJ.thenN ?_
    refine CodeJ.seq ?_
    refine CodeJ.seq ?_
    refine CodeJ.region ?_
    refine OpsJ.yld rfl rfl rfl (Yld.move rfl rfl) ?_
    refine OpsJ.yld rfl rfl rfl (Yld.nilCheck rfl rfl) ?_
    refine OpsJ.yld rfl rfl rfl (Yld.fieldAddr fa_67_0 rfl rfl) ?_
    refine OpsJ.yld rfl rfl rfl (Yld.move rfl rfl) ?_
    refine OpsJ.yld rfl rfl rfl (Yld.move rfl rfl) ?_
    refine OpsJ.yld rfl rfl rfl (Yld.move rfl rfl) ?_
    refine OpsJ.op rfl ?_
    refine OpJ.call (namePack_spec G l hn.pos hn.le hn.last bq (0 + 0) off v bs bs' p c r m hoff (by omega) hm) has_89 rfl rfl rfl rfl rfl [0, 1] [] (by decide) rfl rfl (fun w hI => ⟨hI.old hname hbq, hbq, hge.call hI (is := [0, 1]) rfl⟩) ?_
    rintro _ _ hpost
    rw [hq] at hpost
    obtain ⟨p19, c19, rfl, rfl⟩ := hpost
    refine OpsJ.yld rfl rfl rfl (Yld.move rfl rfl) ?_
    refine OpsJ.yld rfl rfl rfl (Yld.extract rfl rfl rfl) ?_
    refine OpsJ.yld rfl rfl rfl (Yld.extract rfl rfl rfl) ?_
    refine OpsJ.yld rfl rfl rfl (Yld.assign rfl rfl) ?_
    refine OpsJ.yld rfl rfl rfl (Yld.assign rfl rfl) ?_
    refine OpsJ.nil ?_
    refine ExJ.thenN ?_
    refine CodeJ.seq ?_
    refine CodeJ.region ?_
    refine OpsJ.yld rfl rfl rfl (Yld.move rfl rfl) ?_
    refine OpsJ.yld rfl rfl rfl (Yld.ifaceNeNil rfl Tryd.underlying69 rfl rfl) ?_
    refine OpsJ.nil ?_
    refine ExJ.thenN ?_
    refine CodeJ.condF rfl ?_
    refine CodeJ.skip ?_
    refine ExJ.thenN ?_
    refine CodeJ.seq ?_
    refine CodeJ.region ?_
    refine OpsJ.yld rfl rfl rfl (Yld.move rfl rfl) ?_
    refine OpsJ.yld rfl rfl rfl (Yld.move rfl rfl) ?_
    refine OpsJ.yld rfl rfl rfl (Yld.nilCheck rfl rfl) ?_
    refine OpsJ.yld rfl rfl rfl (Yld.fieldAddr fa_67_1 rfl rfl) ?_
    refine OpsJ.yld rfl rfl rfl (Yld.load1 rfl Tryd.underlying64 rfl rfl (fun w hI => hI.old htyp hbq)) ?_
    refine OpsJ.op rfl ?_
    refine OpJ.call (packType_spec typ v _ bs (bs' ++ ys) (by simp; omega)) has_90 rfl rfl rfl rfl rfl [0] [1] (by decide) rfl rfl (fun _ _ => trivial) ?_
    rintro _ _ ⟨p34, c34, rfl, rfl⟩
    refine OpsJ.yld rfl rfl rfl (Yld.assign rfl rfl) ?_
    refine OpsJ.nil ?_
    refine ExJ.thenN ?_
    refine CodeJ.seq ?_
    refine CodeJ.region ?_
    refine OpsJ.yld rfl rfl rfl (Yld.move rfl rfl) ?_
    refine OpsJ.yld rfl rfl rfl (Yld.move rfl rfl) ?_
    refine OpsJ.yld rfl rfl rfl (Yld.nilCheck rfl rfl) ?_
    refine OpsJ.yld rfl rfl rfl (Yld.fieldAddr fa_67_2 rfl rfl) ?_
    refine OpsJ.yld rfl rfl rfl (Yld.load1 rfl Tryd.underlying65 rfl rfl (fun w hI => hI.old hcls hbq)) ?_
    refine OpsJ.op rfl ?_
    refine OpJ.call (packClass_spec cls v _ bs (bs' ++ ys ++ be16 typ) (by simp [be16_len]; omega)) has_91 rfl rfl rfl rfl rfl [0] [1] (by decide) rfl rfl (fun _ _ => trivial) ?_
    rintro _ _ ⟨p40, c40, rfl, rfl⟩
    refine OpsJ.yld rfl rfl rfl (Yld.assign rfl rfl) ?_
    refine OpsJ.nil ?_
    refine ExJ.thenN ?_
    refine CodeJ.seq ?_
    refine CodeJ.region ?_
    refine OpsJ.yld rfl rfl rfl (Yld.move rfl rfl) ?_
    refine OpsJ.yld rfl rfl rfl (Yld.move rfl rfl) ?_
    refine OpsJ.yld rfl rfl rfl (Yld.nilCheck rfl rfl) ?_
    refine OpsJ.yld rfl rfl rfl (Yld.fieldAddr fa_67_3 rfl rfl) ?_
    refine OpsJ.yld rfl rfl rfl (Yld.load1 rfl Tryd.underlying30 rfl rfl (fun w hI => hI.old httlc hbq)) ?_
    refine OpsJ.op rfl ?_
    refine OpJ.call (packUint32_spec ttl httl v _ bs (bs' ++ ys ++ be16 typ ++ be16 cls) (by simp [be16_len]; omega)) has_93 rfl rfl rfl rfl rfl [0] [1] (by decide) rfl rfl (fun _ _ => trivial) ?_
    rintro _ _ ⟨p46, c46, rfl, rfl⟩
    refine OpsJ.yld rfl rfl rfl (Yld.assign rfl rfl) ?_
    refine OpsJ.nil ?_
    refine ExJ.thenN ?_
    refine CodeJ.seq ?_
    refine CodeJ.region ?_
    refine OpsJ.yld rfl rfl rfl (Yld.move rfl rfl) ?_
    refine OpsJ.yld rfl rfl rfl (Yld.lenSlice rfl rfl rfl Tryd.underlying31 rfl) ?_
    refine OpsJ.yld rfl rfl rfl (Yld.assign rfl rfl) ?_
    refine OpsJ.nil ?_
    refine ExJ.thenN ?_
    refine CodeJ.seq ?_
    refine CodeJ.region ?_
    refine OpsJ.yld rfl rfl rfl (Yld.move rfl rfl) ?_
    refine OpsJ.yld rfl rfl rfl (Yld.move rfl rfl) ?_
    refine OpsJ.yld rfl rfl rfl (Yld.nilCheck rfl rfl) ?_
    refine OpsJ.yld rfl rfl rfl (Yld.fieldAddr fa_67_4 rfl rfl) ?_
    refine OpsJ.yld rfl rfl rfl (Yld.load1 rfl Tryd.underlying22 rfl rfl (fun w hI => hI.old hlenc hbq)) ?_
    refine OpsJ.op rfl ?_
    refine OpJ.call (packUint16_spec len v _ bs (bs' ++ ys ++ be16 typ ++ be16 cls ++ b4 ttl) (by simp [be16_len, b4_len]; omega)) has_92 rfl rfl rfl rfl rfl [0] [1] (by decide) rfl rfl (fun _ _ => trivial) ?_
    rintro _ _ ⟨p54, c54, rfl, rfl⟩
    refine OpsJ.yld rfl rfl rfl (Yld.assign rfl rfl) ?_
    refine OpsJ.nil ?_
    refine ExJ.thenN ?_
    refine CodeJ.seq ?_
    refine CodeJ.region ?_
    refine OpsJ.yld rfl rfl rfl (Yld.move rfl rfl) ?_
    refine OpsJ.yld rfl rfl rfl (Yld.move rfl rfl) ?_
    refine OpsJ.yld rfl rfl rfl (Yld.assign rfl rfl) ?_
    refine OpsJ.yld rfl rfl rfl (Yld.assign rfl rfl) ?_
    refine OpsJ.yld rfl rfl rfl (Yld.assign rfl rfl) ?_
    refine OpsJ.nil ?_
    refine ExJ.thenN ?_
    refine CodeJ.ret ?_
    have e : bs' ++ ys ++ be16 typ ++ be16 cls ++ b4 ttl ++ be16 len = bs' ++ ys ++ rh10 typ cls ttl len := by simp [rh10]
    have e2 : (bs' ++ ys ++ be16 typ ++ be16 cls ++ b4 ttl).length = bs'.length + ys.length + 8 := by simp [be16_len, b4_len]; omega
    refine ExJ.ret3 Tryd.results84 rfl rfl rfl ?_ fun w hI => hI
    exact ⟨p54, c54, by rw [← e, e2], by rw [← e]; rfl⟩
  | err m' =>
    refine CodeJ.seq ?_
    refine CodeJ.region ?_
    refine OpsJ.yld rfl rfl rfl (Yld.assign rfl rfl) ?_
    refine OpsJ.yld rfl rfl rfl (Yld.assign rfl rfl) ?_
    refine OpsJ.yld rfl rfl rfl (Yld.assign rfl rfl) ?_
    refine OpsJ.nil ?_
    refine ExJ.thenN ?_
    refine CodeJ.seq ?_
    refine CodeJ.region ?_
    refine OpsJ.yld rfl rfl rfl (Yld.move rfl rfl) ?_
    refine OpsJ.yld rfl rfl rfl (Yld.assign rfl rfl) ?_
    refine OpsJ.nil ?_
    refine ExJ.thenN ?_
    refine CodeJ.seq ?_
    refine CodeJ.seq ?_
    refine CodeJ.region ?_
    refine OpsJ.yld rfl rfl rfl (Yld.move rfl rfl) ?_
    refine OpsJ.yld rfl rfl rfl (Yld.nilCheck rfl rfl) ?_
    refine OpsJ.yld rfl rfl rfl (Yld.fieldAddr fa_67_0 rfl rfl) ?_
    refine OpsJ.yld rfl rfl rfl (Yld.move rfl rfl) ?_
    refine OpsJ.yld rfl rfl rfl (Yld.move rfl rfl) ?_
    refine OpsJ.yld rfl rfl rfl (Yld.move rfl rfl) ?_
    refine OpsJ.op rfl ?_
    refine OpJ.call (namePack_spec G l hn.pos hn.le hn.last bq (0 + 0) off v bs bs' p c r m hoff (by omega) hm) has_89 rfl rfl rfl rfl rfl [0, 1] [] (by decide) rfl rfl (fun w hI => ⟨hI.old hname hbq, hbq, hge.call hI (is := [0, 1]) rfl⟩) ?_
    rintro _ _ hpost
    rw [hq] at hpost
    obtain ⟨u19, t19, e19, rfl, rfl⟩ := hpost
    refine OpsJ.yld rfl rfl rfl (Yld.move rfl rfl) ?_
    refine OpsJ.yld rfl rfl rfl (Yld.extract rfl rfl rfl) ?_
    refine OpsJ.yld rfl rfl rfl (Yld.extract rfl rfl rfl) ?_
    refine OpsJ.yld rfl rfl rfl (Yld.assign rfl rfl) ?_
    refine OpsJ.yld rfl rfl rfl (Yld.assign rfl rfl) ?_
    refine OpsJ.nil ?_
    refine ExJ.thenN ?_
    refine CodeJ.seq ?_
    refine CodeJ.region ?_
    refine OpsJ.yld rfl rfl rfl (Yld.move rfl rfl) ?_
    refine OpsJ.yld rfl rfl rfl (Yld.ifaceNeNil rfl Tryd.underlying69 rfl rfl) ?_
    refine OpsJ.nil ?_
    refine ExJ.thenN ?_
    refine CodeJ.condT rfl ?_
    refine CodeJ.seq ?_
    refine CodeJ.region ?_
    refine OpsJ.yld rfl rfl rfl (Yld.move rfl rfl) ?_
    refine OpsJ.yld rfl rfl rfl (Yld.move rfl rfl) ?_
    refine OpsJ.yld rfl rfl rfl (Yld.build places_157 zero_157 rfl rfl rfl) ?_
    refine OpsJ.op rfl ?_
    refine OpJ.box rfl rfl rfl rfl fun ne hne => ?_
    refine OpsJ.yld rfl rfl rfl (Yld.makeInterface rfl Tryd.underlying155 rfl rfl) ?_
    refine OpsJ.yld rfl rfl rfl (Yld.assign rfl rfl) ?_
    refine OpsJ.yld rfl rfl rfl (Yld.assign rfl rfl) ?_
    refine OpsJ.yld rfl rfl rfl (Yld.assign rfl rfl) ?_
    refine OpsJ.nil ?_
    refine ExJ.thenN ?_
    refine CodeJ.ret ?_
    refine ExJ.thenR ?_
    exact ExJ.ret3 Tryd.results84 rfl rfl rfl ⟨_, _, _, rfl, rfl⟩ fun w hI => hI.pick (is := [1, 2]) (by decide) rfl

theorem u16_of (x : Nat) (h : x < 65536) : IntKind.u16.wrap (x : Int) = (x : Int) := by rw [u16_wrap, Nat.mod_eq_of_lt h]
theorem fixLen_spec (hb : Nat) (cs : Array Value) (hcs : cs.size = 260) (A Z : List UInt8) (len : Nat) (p : Option Addr) (c : Nat) (hz : Z.length < 65536) (hbig : (A ++ be16 len ++ Z).length ≤ 1000000000000000000) :
    Spec Tryd.prog 86 [.pointer (some ⟨hb, 0, none⟩), .slice p (A ++ be16 len ++ Z).length c, .int .i64 (A.length : Nat), .int .i64 ((A.length + 2 : Nat) : Int)] [.blk hb cs 67, ownB 5 (.slice p (A ++ be16 len ++ Z).length c) (A ++ be16 len ++ Z)] (fun _ => True)
      (fun x H' => x = .nilIface ∧ ∃ cs', H' = [.blk hb cs' 67, ownB 5 (.slice p (A ++ be16 Z.length ++ Z).length c) (A ++ be16 Z.length ++ Z)]) := by
  refine Spec.of Tryd.func86 rfl Tryd.ntmps86 rfl fun w0 _ => ?_
  have hlen : (A ++ be16 len ++ Z).length = A.length + 2 + Z.length := by simp [be16_len]; omega
  have hfl : (A ++ be16 Z.length ++ Z).length = (A ++ be16 len ++ Z).length := by simp [be16_len]
  refine CodeJ.openB (i := 1) rfl (fun h => by rw [h] at hlen; simp at hlen; omega) fun b' ds hp hds hcn htk => ?_
  subst hp
  refine CodeJ.seq ?_
  refine CodeJ.region ?_
  refine OpsJ.yld rfl rfl rfl (Yld.assign rfl rfl) ?_
  refine OpsJ.nil ?_
  refine ExJ.thenN ?_
  refine CodeJ.seq ?_
  refine CodeJ.region ?_
  refine OpsJ.yld rfl rfl rfl (Yld.move rfl rfl) ?_
  refine OpsJ.yld rfl rfl rfl (Yld.lenSlice rfl rfl rfl Tryd.underlying31 rfl) ?_
  refine OpsJ.yld rfl rfl rfl (Yld.move rfl rfl) ?_
  refine OpsJ.yld rfl rfl rfl (Yld.intBin rfl rfl rfl rfl) ?_
  rw [i64_sub _ _ (by omega) (by omega), show (A ++ be16 len ++ Z).length - (A.length + 2) = Z.length by omega]
  refine OpsJ.yld rfl rfl rfl (Yld.assign rfl rfl) ?_
  refine OpsJ.nil ?_
  refine ExJ.thenN ?_
  refine CodeJ.seq ?_
  refine CodeJ.seq ?_
  refine CodeJ.region ?_
  refine OpsJ.yld rfl rfl rfl (Yld.move rfl rfl) ?_
  refine OpsJ.yld rfl rfl rfl (Yld.intBin rfl rfl rfl rfl) ?_
  refine OpsJ.nil ?_
  refine ExJ.thenN ?_
  refine CodeJ.condP rfl (fun c15 => ?_) (fun c15 => ?_)
  · exact absurd c15 (by omega)
  · refine CodeJ.skip ?_
    refine ExJ.thenN ?_
    refine CodeJ.seq ?_
    refine CodeJ.region ?_
    refine OpsJ.yld rfl rfl rfl (Yld.move rfl rfl) ?_
    refine OpsJ.yld rfl rfl rfl (Yld.move rfl rfl) ?_
    refine OpsJ.yld rfl rfl rfl (Yld.move rfl rfl) ?_
    refine OpsJ.yld rfl rfl rfl (Yld.sliceSl (lo := A.length) (hi := A.length) rfl Tryd.underlying31 sz_5 rfl rfl rfl (Nat.le_refl _) (by omega) (by omega)) ?_
    rw [Nat.sub_self]
    refine OpsJ.yld rfl rfl rfl (Yld.move rfl rfl) ?_
    refine OpsJ.yld rfl rfl rfl (Yld.convInt rfl Tryd.underlying3 Tryd.underlying22 rfl) ?_
    rw [u16_of _ hz]
    refine OpsJ.op rfl ?_
    refine OpJ.call (packUint16_in Z.length b' (0 + A.length) 0 (c - A.length) ds (by omega) (by omega)) has_92 rfl rfl rfl rfl rfl [1] [0] (by decide) rfl rfl (fun _ _ => trivial) ?_
    rintro _ _ ⟨rfl, rfl⟩
    refine OpsJ.nil ?_
    refine ExJ.thenN ?_
    refine CodeJ.seq ?_
    refine CodeJ.region ?_
    refine OpsJ.yld rfl rfl rfl (Yld.move rfl rfl) ?_
    refine OpsJ.yld rfl rfl rfl (Yld.move rfl rfl) ?_
    refine OpsJ.yld rfl rfl rfl (Yld.convInt rfl Tryd.underlying3 Tryd.underlying22 rfl) ?_
    rw [u16_of _ hz]
    refine OpsJ.yld rfl rfl rfl (Yld.nilCheck rfl rfl) ?_
    refine OpsJ.yld rfl rfl rfl (Yld.fieldAddr fa_67_4 rfl rfl) ?_
    refine OpsJ.op rfl ?_
    refine OpJ.store1 (i := 1) rfl rfl rfl rfl rfl sz_22 rfl (by rw [hcs]; rfl) ?_
    refine OpsJ.nil ?_
    refine ExJ.thenN ?_
    refine CodeJ.seq ?_
    refine CodeJ.region ?_
    refine OpsJ.yld rfl rfl rfl (Yld.assign rfl rfl) ?_
    refine OpsJ.nil ?_
    refine ExJ.thenN ?_
    refine CodeJ.ret ?_
    refine ExJ.ret1 Tryd.results86 rfl ⟨rfl, setCs cs (0 + 259) [.int .u16 Z.length], rfl⟩ fun w hI => ?_
    have hsz : (setCs ds (0 + A.length + 0) (bytesV (be16 Z.length))).size = c := by rw [setCs_sz _ _ _ (by rw [be16_len]; omega), hds]
    have htk2 := take_setCs ds (A ++ be16 len ++ Z) (be16 Z.length) (0 + A.length + 0) htk (by rw [be16_len]; omega) (by omega)
    have hJ := hI.shutB (i := 0) (bs := A ++ be16 Z.length ++ Z) rfl hsz (by omega) (by
      rw [hfl, htk2]
      congr 1
      have e1 : (A ++ be16 len ++ Z).take (0 + A.length + 0) = A := by simp [List.append_assoc]
      have e2 : (A ++ be16 len ++ Z).drop (0 + A.length + 0 + (be16 Z.length).length) = Z := by
        rw [List.append_assoc, ← List.append_assoc, List.drop_left' (by simp [be16_len])]
      rw [e1, e2])
    exact hJ.pick (is := [1, 0]) (by decide) rfl

theorem checkRes_ok (b : Bd) (bb : Nat) (p : Option Addr) (c : Nat) (r : Option Nat) (h1 : 3 ≤ b.sec) (h2 : b.sec ≤ 5) :
    Spec Tryd.prog 83 [.pointer (some ⟨bb, 0, none⟩)] (bdR b bb p c r) (fun _ => True) (fun x H' => x = .nilIface ∧ H' = bdR b bb p c r) := by
  refine Spec.of Tryd.func83 rfl Tryd.ntmps83 rfl fun w0 _ => ?_
  refine CodeJ.seq ?_
  refine CodeJ.region ?_
  refine OpsJ.yld rfl rfl rfl (Yld.assign rfl rfl) ?_
  refine OpsJ.nil ?_
  refine ExJ.thenN ?_
  refine CodeJ.seq ?_
  refine CodeJ.seq ?_
  refine CodeJ.region ?_
  refine OpsJ.yld rfl rfl rfl (Yld.move rfl rfl) ?_
  refine OpsJ.yld rfl rfl rfl (Yld.nilCheck rfl rfl) ?_
  refine OpsJ.yld rfl rfl rfl (Yld.fieldAddr fa_113_1 rfl rfl) ?_
  refine OpsJ.yld rfl rfl rfl (Yld.load1 rfl Tryd.underlying108 rfl rfl (fun w hI => Inv.cell1 hI (i := 0) rfl rfl)) ?_
  refine OpsJ.yld rfl rfl rfl (Yld.intBin rfl rfl rfl rfl) ?_
  refine OpsJ.nil ?_
  refine ExJ.thenN ?_
  refine CodeJ.condP rfl (fun c7 => ?_) (fun c7 => ?_)
  · exact absurd c7 (by omega)
  · refine CodeJ.skip ?_
    refine ExJ.thenN ?_
    refine CodeJ.seq ?_
    refine CodeJ.seq ?_
    refine CodeJ.region ?_
    refine OpsJ.yld rfl rfl rfl (Yld.move rfl rfl) ?_
    refine OpsJ.yld rfl rfl rfl (Yld.nilCheck rfl rfl) ?_
    refine OpsJ.yld rfl rfl rfl (Yld.fieldAddr fa_113_1 rfl rfl) ?_
    refine OpsJ.yld rfl rfl rfl (Yld.load1 rfl Tryd.underlying108 rfl rfl (fun w hI => Inv.cell1 hI (i := 0) rfl rfl)) ?_
    refine OpsJ.yld rfl rfl rfl (Yld.intBin rfl rfl rfl rfl) ?_
    refine OpsJ.nil ?_
    refine ExJ.thenN ?_
    refine CodeJ.condP rfl (fun c13 => ?_) (fun c13 => ?_)
    · exact absurd c13 (by omega)
    · refine CodeJ.skip ?_
      refine ExJ.thenN ?_
      refine CodeJ.seq ?_
      refine CodeJ.region ?_
      refine OpsJ.yld rfl rfl rfl (Yld.assign rfl rfl) ?_
      refine OpsJ.nil ?_
      refine ExJ.thenN ?_
      refine CodeJ.ret ?_
      exact ExJ.ret1 Tryd.results83 rfl ⟨rfl, rfl⟩ fun w hI => hI

/-- one more record -/
theorem inc_spec (G : GEnv) (b : Bd) (bb : Nat) (p : Option Addr) (c : Nat) (r : Option Nat) (h1 : 3 ≤ b.sec) (h2 : b.sec ≤ 5) (hq : b.cnt < 65535) :
    Spec Tryd.prog 81 [.pointer (some ⟨bb, 0, none⟩)] [.blk bb (bdCs b p c r) 113] (fun w => GE G w (fp [.blk bb (bdCs b p c r) 113]))
      (fun x H' => x = .nilIface ∧ H' = [.blk bb (bdCs b.inc p c r) 113]) := by
  obtain ⟨buf, start, sec, id, bits, q, an, au, ad, m⟩ := b
  simp only at h1 h2
  rcases (by omega : sec = 3 ∨ sec = 4 ∨ sec = 5) with rfl | rfl | rfl
  · exact inc3_spec G buf start id bits q an au ad m bb p c r hq
  · exact inc4_spec G buf start id bits q an au ad m bb p c r hq
  · exact inc5_spec G buf start id bits q an au ad m bb p c r hq
end Go.Proofs.YtamobccbioafmaaDoor

/-
  What adding a record does, in plain terms.
-/
namespace Go.Proofs.YtamobccbioafmaaDoor
open Go
set_option maxRecDepth 100000

/-- how a body is packed; base: where it begins, from the message's start on -/
abbrev BodyPk := Nat → Bool → RecD → List (List UInt8 × Nat) → PkRes
def Bd.rel (b : Bd) : Nat := b.buf.length - b.start
/-- one more record in the section under way -/
def Bd.incr (b : Bd) : Bd := { b with an := if b.sec = 3 then b.an + 1 else b.an, au := if b.sec = 4 then b.au + 1 else b.au, ad := if b.sec = 5 then b.ad + 1 else b.ad }
def recF (typ : RecD → Nat) (B : BodyPk) (x : RecD) (on : Bool) (b : Bd) : Bd × Nat :=
  match packN (b.buf.length - b.start) on (cut255 x.name) b.m with
  | .err m => ({ b with m := m }, 3)
  | .ok ys m =>
    match B (b.rel + ys.length + 10) on x m with
    | .err m => ({ b with m := m }, 3)
    | .ok zs m => (({ b with buf := b.buf ++ ys ++ rh10 (typ x) x.cls x.ttl zs.length ++ zs, m := m } : Bd).incr, 0)
/-- what adds records of a kind; pok: what its body's contract asks -/
def recAdder (typ : RecD → Nat) (B : BodyPk) (pok : RecD → Prop) : Adder :=
  ⟨fun x on b => 3 ≤ b.sec ∧ b.sec ≤ 5 ∧ b.cnt < 65535 ∧ PName (cut255 x.name) ∧ x.wf ∧ ((∃ ys m, packN (b.buf.length - b.start) on (cut255 x.name) b.m = .ok ys m) → pok x ∧ ∀ base m zs m', B base on x m = .ok zs m' → zs.length < 65536), recF typ B⟩

theorem incr_spec (G : GEnv) (b : Bd) (bb : Nat) (p : Option Addr) (c : Nat) (r : Option Nat) (h1 : 3 ≤ b.sec) (h2 : b.sec ≤ 5) (hq : b.cnt < 65535) :
    Spec Tryd.prog 81 [.pointer (some ⟨bb, 0, none⟩)] [.blk bb (bdCs b p c r) 113] (fun w => GE G w (fp [.blk bb (bdCs b p c r) 113]))
      (fun x H' => x = .nilIface ∧ H' = [.blk bb (bdCs b.incr p c r) 113]) := by
  obtain ⟨buf, start, sec, id, bits, q, an, au, ad, m⟩ := b
  simp only at h1 h2
  rcases (by omega : sec = 3 ∨ sec = 4 ∨ sec = 5) with rfl | rfl | rfl
  · exact inc3_spec G buf start id bits q an au ad m bb p c r hq
  · exact inc4_spec G buf start id bits q an au ad m bb p c r hq
  · exact inc5_spec G buf start id bits q an au ad m bb p c r hq

theorem CodeJ.turnH {P : Program} {Q : Exit → Act → World → Prop} {n : Nat} {w0 : World} {S : List Nat} {L : List (Nat × Value)} {H H' : List Res} {code : Code} (hH : ∀ w, Inv w0 S H w → Inv w0 S H' w) (h : CodeJ P Q n w0 S code L H') : CodeJ P Q n w0 S code L H := fun a w hE hI => h a w hE (hH w hI)
/-- memory that was there when the call began, and is none of its own, is none of what is handed on -/
theorem Inv.notin {w0 w : World} {S : List Nat} {H Hp : List Res} (hI : Inv w0 S H w) {b : Nat} (hb : b < w0.heap.size) (hS : b ∉ S) {is : List Nat} (hp : Proofs.YtamobccbioafmaaDoor.pick H is = some Hp) : b ∉ fp Hp := fun h => by
  obtain ⟨r, hr, hbr⟩ := List.mem_flatMap.1 h
  obtain ⟨i, _, hi⟩ := pick_mem hp r hr
  rcases hI.rng r (List.mem_of_getElem? hi) b hbr with h1 | h1
  · exact hS h1
  · omega
theorem rh_setT (l : List UInt8) (hl : l.length ≤ 255) (typ cls ttl len t : Nat) : setCs (rhCs l typ cls ttl len).toArray (0 + 256) [Value.int .u16 (t : Nat)] = (rhCs l t cls ttl len).toArray := by
  have hlen := nameCs_len l hl
  have e1 : (nameCs l ++ [Value.int .u16 typ, .int .u16 cls, .int .u32 ttl, .int .u16 len]).take 256 = nameCs l := List.take_left' hlen
  have e2 : (nameCs l ++ [Value.int .u16 typ, .int .u16 cls, .int .u32 ttl, .int .u16 len]).drop (256 + 1) = [Value.int .u16 cls, .int .u32 ttl, .int .u16 len] := by
    rw [← List.drop_drop, List.drop_left' hlen]
    rfl
  simp only [setCs, rhCs, List.length_singleton, Nat.zero_add]
  rw [e1, e2]
  simp
end Go.Proofs.YtamobccbioafmaaDoor

/-
  What copies of a record's data share: what was there stays; bytes of a fixed number.
-/
namespace Go.Proofs.YtamobccbioafmaaDoor
open Go
set_option maxRecDepth 100000

theorem Bytes.held {w1 w : World} {S : List Nat} {v : Value} {bs : List UInt8} (h : Bytes w1 v bs) (hk : Keep S w1 w) (hn : ∀ k ∈ S, w1.heap.size ≤ k) : Bytes w v bs := by
  rcases h with h | ⟨b, off, c, rfl, hc⟩
  · exact .inl h
  · exact .inr ⟨b, off, c, rfl, hc.keep hk fun hb => by have h1 := hn b hb; have h2 := hc.lt; omega⟩
theorem Row.held {w1 w : World} {S : List Nat} {sz m : Nat} {v : Value} {xs : List Value} (h : Row w1 sz v m xs) (hk : Keep S w1 w) (hn : ∀ k ∈ S, w1.heap.size ≤ k) : Row w sz v m xs := by
  rcases h with h | ⟨b, off, c, rfl, hl, hc⟩
  · exact .inl h
  · exact .inr ⟨b, off, c, rfl, hl, hc.keep hk fun hb => by have h1 := hn b hb; have h2 := hc.lt; omega⟩
theorem RecOk.held {w1 w : World} {S : List Nat} {x : RecD} (h : RecOk w1 x) (hk : Keep S w1 w) (hn : ∀ k ∈ S, w1.heap.size ≤ k) : RecOk w x :=
  ⟨h.data.held hk hn, h.texts.held hk hn, Row.held h.pairs hk hn, fun p hp => (h.pdata p hp).held hk hn⟩
theorem Keep.after {S : List Nat} {w1 w0 w : World} (h1 : Keep [] w1 w0) (h : Keep S w0 w) : Keep S w1 w :=
  ⟨h.os.trans h1.os, h.tape.trans h1.tape, h.output.trans h1.output, Nat.le_trans h1.size h.size, fun b hb hS => (h.block b (Nat.lt_of_lt_of_le hb h1.size) hS).trans (h1.block b hb (by simp))⟩
/-- a record that was there before all that the call may write -/
theorem Inv.recOk {w1 w0 w : World} {S : List Nat} {H : List Res} {x : RecD} (hI : Inv w0 S H w) (h : RecOk w1 x) (hk : Keep [] w1 w0) (hn : ∀ k ∈ S, w1.heap.size ≤ k) : RecOk w x := h.held (hk.after hI.keep) hn

/-- a row is what append is given -/
theorem Row.src {P : Program} {w : World} {tx e' : TypeId} {sz m : Nat} {v : Value} {xs : List Value} (h : Row w sz v m xs) (hk : P.underlying tx = some (.slice e')) (h1 : ∀ u ∈ xs, u.oneCell' = true) : Src P sz tx v m xs w := by
  rcases h with ⟨p, c, rfl, rfl, rfl⟩ | ⟨b, off, c, rfl, hl, hc⟩
  · cases p with
    | none => exact Src.ofNil w hk c
    | some a => exact Src.ofSlice w hk a 0 c [] (by simp) (fun j u hj => by simp at hj) (fun _ h => by cases h)
  · exact Src.ofSlice w hk ⟨b, off, none⟩ m c xs hl (fun j u hj => by rw [addr_add]; exact hc.cell j u hj) h1
/-- the cells of element i, wherever the row holds -/
theorem Row.cellAt {w : World} {sz b off m c : Nat} {xss : List (List Value)} (h : Row w sz (.slice (some ⟨b, off, none⟩) m c) m xss.flatten) (hz : ∀ x ∈ xss, x.length = sz) (hm : m = xss.length) {i : Nat} (hi : i < m) {x : List Value} (hx : xss[i]? = some x) : Cells w b (off + i * sz) x := by
  obtain ⟨b', off', c', hv, hc⟩ := h.at hz hm hi
  simp only [Value.slice.injEq] at hv
  obtain ⟨hv1, _, _⟩ := hv
  injection hv1 with hv1
  injection hv1 with h1 h2 _
  subst h1 h2
  exact hc x hx
/-- a text's bytes are what append is given -/
theorem srcStr {P : Program} {w : World} {tx : TypeId} (hk : P.underlying tx = some .string) (s : ByteArray) : Src P 1 tx (.string s) s.data.toList.length (bytesV s.data.toList) w := by
  have h := Src.ofString (P := P) w hk s
  rw [str_len]
  exact h
theorem flat_one {α : Type} (l : List α) : [l].flatten = l := by simp
/-- n bytes: the first of l, and 0 behind them -/
def fixN (n : Nat) (l : List UInt8) : List UInt8 := l.take n ++ List.replicate (n - l.length) 0
theorem fixN_len (n : Nat) (l : List UInt8) : (fixN n l).length = n := by
  simp only [fixN, List.length_append, List.length_take, List.length_replicate]
  omega
theorem fixN_id {n : Nat} {l : List UInt8} (h : l.length = n) : fixN n l = l := by
  subst h
  simp [fixN]
theorem fixN_fixN (n : Nat) (l : List UInt8) : fixN n (fixN n l) = fixN n l := fixN_id (fixN_len n l)
theorem setCs_fix (n : Nat) (l : List UInt8) : setCs (bytesV (List.replicate n 0)).toArray 0 (bytesV (l.take n)) = (bytesV (fixN n l)).toArray := by
  have h : (bytesV (List.replicate n 0)).drop (l.take n).length = bytesV (List.replicate (n - l.length) 0) := by
    simp only [bytesV, List.map_replicate, List.drop_replicate, List.length_take]
    congr 1
    omega
  simp only [setCs, List.take_zero, List.nil_append, Nat.zero_add, bytesV_len]
  rw [h, fixN, bytesV_append]
/-- a body that is packed as it is -/
def rawP (_base : Nat) (_on : Bool) (l : List UInt8) (m : List (List UInt8 × Nat)) : PkRes := .ok l m
/-- what packing returns, with more resources that are only handed on -/
def PackPostX (T : TypeId) (v : Value) (bs bs' : List UInt8) (r : Option Nat) (X : List Res) (k : PkRes) (x : Value) (H' : List Res) : Prop := ∃ H0, PackPost T v bs bs' r k x H0 ∧ H' = H0 ++ X
end Go.Proofs.YtamobccbioafmaaDoor

/-
  Facts of the program's tables that the kinds' walks use.
-/
namespace Go.Proofs.YtamobccbioafmaaDoor
open Go
set_option maxRecDepth 100000
theorem elt_132 : Elt Tryd.prog 132 22 1 2 (.int .u16 0) := ⟨Tryd.underlying132, by decide, by kernel_rfl, by kernel_rfl, by decide⟩
theorem fa_161_0 : FieldAt Tryd.prog 161 0 0 := by unfold FieldAt; kernel_rfl
theorem fa_161_1 : FieldAt Tryd.prog 161 1 1 := by unfold FieldAt; kernel_rfl
theorem fa_86_1 : FieldAt Tryd.prog 86 1 1 := by unfold FieldAt; kernel_rfl
theorem fa_86_10 : FieldAt Tryd.prog 86 10 10 := by unfold FieldAt; kernel_rfl
theorem fa_86_11 : FieldAt Tryd.prog 86 11 11 := by unfold FieldAt; kernel_rfl
theorem fa_86_14 : FieldAt Tryd.prog 86 14 14 := by unfold FieldAt; kernel_rfl
theorem fa_86_15 : FieldAt Tryd.prog 86 15 15 := by unfold FieldAt; kernel_rfl
theorem fa_86_2 : FieldAt Tryd.prog 86 2 2 := by unfold FieldAt; kernel_rfl
theorem fa_86_3 : FieldAt Tryd.prog 86 3 3 := by unfold FieldAt; kernel_rfl
theorem fa_86_5 : FieldAt Tryd.prog 86 5 5 := by unfold FieldAt; kernel_rfl
theorem fa_86_7 : FieldAt Tryd.prog 86 7 7 := by unfold FieldAt; kernel_rfl
theorem fa_86_9 : FieldAt Tryd.prog 86 9 9 := by unfold FieldAt; kernel_rfl
theorem has_62 : Has Tryd.prog 62 := ⟨_, Tryd.func62, by kernel_rfl, rfl⟩
theorem has_63 : Has Tryd.prog 63 := ⟨_, Tryd.func63, by kernel_rfl, rfl⟩
theorem has_68 : Has Tryd.prog 68 := ⟨_, Tryd.func68, by kernel_rfl, rfl⟩
theorem has_69 : Has Tryd.prog 69 := ⟨_, Tryd.func69, by kernel_rfl, rfl⟩
theorem has_71 : Has Tryd.prog 71 := ⟨_, Tryd.func71, by kernel_rfl, rfl⟩
theorem sz_161 : (Tryd.prog.info? 161).map (·.size) = some 2 := by kernel_rfl
theorem sz_163 : (Tryd.prog.info? 163).map (·.size) = some 14 := by kernel_rfl
theorem sz_9 : (Tryd.prog.info? 9).map (·.size) = some 1 := by kernel_rfl
theorem zero_161 : (Tryd.prog.info? 161).bind (·.zero) = some (.agg #[.int .u16 0, .slice none 0 0]) := by kernel_rfl
theorem zero_163 : (Tryd.prog.info? 163).bind (·.zero) = some (.agg #[.int .u16 0, .int .u16 0, .int .u16 0, .int .u16 0, .int .u16 0, .int .u16 0, .int .u16 0, .int .u16 0, .int .u16 0, .int .u16 0, .int .u16 0, .int .u16 0, .int .u16 0, .int .u16 0]) := by kernel_rfl
end Go.Proofs.YtamobccbioafmaaDoor

/-
  Contracts of the reference: types of kinds; how a record is written, given its body.
-/
namespace Go.Proofs.YtamobccbioafmaaDoor
open Go
set_option maxRecDepth 100000

def typeTab : List Nat := [0, 1, 2, 5, 6, 12, 15, 16, 28, 33, 41, 64, 65, 0]
/-- the type of a kind; of an unknown one: as the record says -/
def typeN (k typ : Nat) : Nat := if k = 13 then typ else typeTab.getD k 0
def typeCs : Array Value := #[.int .u16 0, .int .u16 1, .int .u16 2, .int .u16 5, .int .u16 6, .int .u16 12, .int .u16 15, .int .u16 16, .int .u16 28, .int .u16 33, .int .u16 41, .int .u16 64, .int .u16 65, .int .u16 0]
theorem typeCs_get (k typ : Nat) (hk : k ≤ 12) : typeCs[0 + k * 1]? = some (.int .u16 (typeN k typ : Nat)) := by
  rcases (by omega : k = 0 ∨ k = 1 ∨ k = 2 ∨ k = 3 ∨ k = 4 ∨ k = 5 ∨ k = 6 ∨ k = 7 ∨ k = 8 ∨ k = 9 ∨ k = 10 ∨ k = 11 ∨ k = 12) with h | h | h | h | h | h | h | h | h | h | h | h | h <;> subst h <;> rfl

theorem typeOf_spec (r : RecD) (k : Nat) (hk : k ≤ 13) (hr : r.kind = (k : Nat)) : Spec Tryd.prog 71 [r.val] [] (fun _ => True) (fun x H' => x = .int .u16 (typeN k r.typ : Nat) ∧ H' = []) := by
  obtain ⟨nm, typ, cls, ttl, len, kd, dataV, data, host, box, n1, n2, n3, n4, n5, textsV, texts, pairsV, qs⟩ := r
  simp only at hr
  subst hr
  refine Spec.of Tryd.func71 rfl Tryd.ntmps71 rfl fun w0 _ => ?_
  refine CodeJ.seq ?_
  refine CodeJ.region ?_
  refine OpsJ.op rfl ?_
  refine OpJ.box rfl rfl rfl rfl fun rb hrb => ?_
  refine OpsJ.yld rfl rfl rfl (Yld.assign rfl rfl) ?_
  refine OpsJ.nil ?_
  refine ExJ.thenN ?_
  refine CodeJ.seq ?_
  refine CodeJ.region ?_
  refine OpsJ.yld rfl rfl rfl (Yld.buildArr (cs := typeCs) Tryd.underlying163 sz_22 zero_163 rfl rfl (by kernel_rfl)) ?_
  refine OpsJ.op rfl ?_
  refine OpJ.alloc rfl rfl rfl zero_163 fun tb htb => ?_
  refine OpsJ.op rfl ?_
  refine OpJ.storeW (i := 0) rfl rfl rfl rfl sz_163 rfl rfl rfl ?_
  refine OpsJ.nil ?_
  refine ExJ.thenN ?_
  refine CodeJ.seq ?_
  refine CodeJ.seq ?_
  refine CodeJ.region ?_
  refine OpsJ.yld rfl rfl rfl (Yld.fieldAddr fa_86_5 rfl rfl) ?_
  refine OpsJ.yld rfl rfl rfl (Yld.load1 rfl Tryd.underlying3 rfl rfl (fun w hI => Inv.cell1 hI (i := 1) rfl rfl)) ?_
  refine OpsJ.yld rfl rfl rfl (Yld.intBin rfl rfl rfl rfl) ?_
  refine OpsJ.nil ?_
  refine ExJ.thenN ?_
  refine CodeJ.cond rfl (fun c7 => ?_) (fun c7 => ?_)
  · obtain rfl : k = 13 := by
      have : (k : Int) = 13 := by simpa using c7
      omega
    refine CodeJ.seq ?_
    refine CodeJ.region ?_
    refine OpsJ.yld rfl rfl rfl (Yld.fieldAddr fa_86_1 rfl rfl) ?_
    refine OpsJ.yld rfl rfl rfl (Yld.load1 rfl Tryd.underlying22 rfl rfl (fun w hI => Inv.cell1 hI (i := 1) rfl rfl)) ?_
    refine OpsJ.yld rfl rfl rfl (Yld.assign rfl rfl) ?_
    refine OpsJ.nil ?_
    refine ExJ.thenN ?_
    refine CodeJ.ret ?_
    refine ExJ.thenR ?_
    exact ExJ.ret1 Tryd.results71 rfl ⟨rfl, rfl⟩ fun w hI => hI.pick (is := []) (by decide) rfl
  · have hk' : k ≤ 12 := by
      have : ¬ k = 13 := fun h => by simp [h] at c7
      omega
    refine CodeJ.skip ?_
    refine ExJ.thenN ?_
    refine CodeJ.seq ?_
    refine CodeJ.region ?_
    refine OpsJ.yld rfl rfl rfl (Yld.fieldAddr fa_86_5 rfl rfl) ?_
    refine OpsJ.yld rfl rfl rfl (Yld.load1 rfl Tryd.underlying3 rfl rfl (fun w hI => Inv.cell1 hI (i := 1) rfl rfl)) ?_
    refine OpsJ.yld rfl rfl rfl (Yld.indexAddrArr (i := k) rfl Tryd.underlying163 sz_22 rfl rfl (by omega)) ?_
    refine OpsJ.yld rfl rfl rfl (Yld.load1 rfl Tryd.underlying22 rfl rfl (fun w hI => Inv.cell1 hI (i := 0) rfl (typeCs_get k typ hk'))) ?_
    refine OpsJ.yld rfl rfl rfl (Yld.assign rfl rfl) ?_
    refine OpsJ.nil ?_
    refine ExJ.thenN ?_
    refine CodeJ.ret ?_
    exact ExJ.ret1 Tryd.results71 rfl ⟨rfl, rfl⟩ fun w hI => hI.pick (is := []) (by decide) rfl

theorem recordWire_spec (K : Kind) (r : RecD) (k : Nat) (hk : k ≤ 13) (hr : r.kind = (k : Nat)) (ht : K.typ r = typeN k r.typ) (hbody : Spec Tryd.prog 34 [r.val] [] (fun w => RecOk w r) (RetB 5 (K.body r))) (hlen : (K.body r).length < 65536) (hname : r.name.size ≤ 254) :
    Spec Tryd.prog 38 [r.val] [] (fun w => RecOk w r) (RetB 5 (K.recWire r)) := by
  refine Spec.of Tryd.func38 rfl Tryd.ntmps38 rfl fun w0 hok => ?_
  have hle := wire_le r.name hname
  refine CodeJ.seq ?_
  refine CodeJ.region ?_
  refine OpsJ.op rfl ?_
  refine OpJ.box rfl rfl rfl rfl fun rb hrb => ?_
  refine OpsJ.yld rfl rfl rfl (Yld.assign rfl rfl) ?_
  refine OpsJ.nil ?_
  refine ExJ.thenN ?_
  refine CodeJ.seq ?_
  refine CodeJ.region ?_
  refine OpsJ.yld rfl rfl rfl (Yld.loadN (vs := r.cells) rfl Tryd.underlying86 rfl sz_86 rfl (fun w hI => Inv.whole hI (i := 0) rfl)) ?_
  refine OpsJ.op rfl ?_
  refine OpJ.call (hbody) has_34 rfl rfl rfl rfl rfl [] [0] (by decide) rfl rfl (fun w hI => hok.keep0 hI.keep) ?_
  rintro _ _ ⟨p5, c5, rfl, rfl⟩
  refine OpsJ.yld rfl rfl rfl (Yld.assign rfl rfl) ?_
  refine OpsJ.nil ?_
  refine ExJ.thenN ?_
  refine CodeJ.seq ?_
  refine CodeJ.any (fuel := 20) (listed := #[false, false, false, false, false, false, false, false, false, false, false, false, false, false, false, false, false, false, false, false]) [0, 1] rfl follows_mixed rfl rfl ?_
  refine AnyJ.take (fuel := 19) (listed' := #[true, false, false, false, false, false, false, false, false, false, false, false, false, false, false, false, false, false, false, false]) 0 rfl (by kernel_rfl) (by kernel_rfl) (by kernel_rfl) rfl rfl rfl rfl (Yld.fieldAddr fa_86_0 rfl rfl) (fun w hI => hI.pick (is := [0, 1]) (by decide) rfl) ?_
  refine AnyJ.take (fuel := 18) (listed' := #[true, true, false, false, false, false, false, false, false, false, false, false, false, false, false, false, false, false, false, false]) 1 rfl (by kernel_rfl) (by kernel_rfl) (by kernel_rfl) rfl rfl rfl rfl (Yld.load1 rfl Tryd.underlying9 rfl rfl (fun w hI => Inv.cell1 hI (i := 1) rfl rfl)) (fun w hI => hI.pick (is := [0, 1]) (by decide) rfl) ?_
  refine AnyJ.take (fuel := 17) (listed' := #[true, true, false, true, false, false, false, false, false, false, false, false, false, false, false, false, false, false, false, false]) 3 rfl (by kernel_rfl) (by kernel_rfl) (by kernel_rfl) rfl rfl rfl rfl (Yld.loadN (vs := r.cells) rfl Tryd.underlying86 rfl sz_86 rfl (fun w hI => Inv.whole hI (i := 1) rfl)) (fun w hI => hI.pick (is := [0, 1]) (by decide) rfl) ?_
  refine AnyJ.take (fuel := 16) (listed' := #[true, true, false, true, false, false, true, false, false, false, false, false, false, false, false, false, false, false, false, false]) 6 rfl (by kernel_rfl) (by kernel_rfl) (by kernel_rfl) rfl rfl rfl rfl (Yld.fieldAddr fa_86_2 rfl rfl) (fun w hI => hI.pick (is := [0, 1]) (by decide) rfl) ?_
  refine AnyJ.take (fuel := 15) (listed' := #[true, true, false, true, false, false, true, true, false, false, false, false, false, false, false, false, false, false, false, false]) 7 rfl (by kernel_rfl) (by kernel_rfl) (by kernel_rfl) rfl rfl rfl rfl (Yld.load1 rfl Tryd.underlying22 rfl rfl (fun w hI => Inv.cell1 hI (i := 1) rfl rfl)) (fun w hI => hI.pick (is := [0, 1]) (by decide) rfl) ?_
  refine AnyJ.take (fuel := 14) (listed' := #[true, true, false, true, false, false, true, true, false, true, false, false, false, false, false, false, false, false, false, false]) 9 rfl (by kernel_rfl) (by kernel_rfl) (by kernel_rfl) rfl rfl rfl rfl (Yld.fieldAddr fa_86_3 rfl rfl) (fun w hI => hI.pick (is := [0, 1]) (by decide) rfl) ?_
  refine AnyJ.take (fuel := 13) (listed' := #[true, true, false, true, false, false, true, true, false, true, true, false, false, false, false, false, false, false, false, false]) 10 rfl (by kernel_rfl) (by kernel_rfl) (by kernel_rfl) rfl rfl rfl rfl (Yld.load1 rfl Tryd.underlying30 rfl rfl (fun w hI => Inv.cell1 hI (i := 1) rfl rfl)) (fun w hI => hI.pick (is := [0, 1]) (by decide) rfl) ?_
  refine AnyJ.take (fuel := 12) (listed' := #[true, true, false, true, false, false, true, true, false, true, true, false, true, false, false, false, false, false, false, false]) 12 rfl (by kernel_rfl) (by kernel_rfl) (by kernel_rfl) rfl rfl rfl rfl (Yld.move rfl rfl) (fun w hI => hI.pick (is := [0, 1]) (by decide) rfl) ?_
  refine AnyJ.take (fuel := 11) (listed' := #[true, true, false, true, false, false, true, true, false, true, true, false, true, true, false, false, false, false, false, false]) 13 rfl (by kernel_rfl) (by kernel_rfl) (by kernel_rfl) rfl rfl rfl rfl (Yld.lenSlice rfl rfl rfl Tryd.underlying31 rfl) (fun w hI => hI.pick (is := [0, 1]) (by decide) rfl) ?_
  refine AnyJ.take (fuel := 10) (listed' := #[true, true, false, true, false, false, true, true, false, true, true, false, true, true, true, false, false, false, false, false]) 14 rfl (by kernel_rfl) (by kernel_rfl) (by kernel_rfl) rfl rfl rfl rfl (Yld.convInt rfl Tryd.underlying3 Tryd.underlying22 rfl) (fun w hI => hI.pick (is := [0, 1]) (by decide) rfl) ?_
  rw [u16_wrap]
  refine AnyJ.take (fuel := 9) (listed' := #[true, true, false, true, false, false, true, true, false, true, true, false, true, true, true, false, true, false, false, false]) 16 rfl (by kernel_rfl) (by kernel_rfl) (by kernel_rfl) rfl rfl rfl rfl (Yld.move rfl rfl) (fun w hI => hI.pick (is := [0, 1]) (by decide) rfl) ?_
  refine AnyJ.one (fuel := 8) 2 (by kernel_rfl) ?_
  refine StepJ.op (listed' := #[true, true, true, true, false, false, true, true, false, true, true, false, true, true, true, false, true, false, false, false]) rfl rfl rfl ?_
  refine OpJ.call (wire_spec _ (by omega)) has_65 rfl rfl rfl rfl rfl [] [0, 1] (by decide) rfl rfl (fun _ _ => trivial) ?_
  rintro _ _ ⟨p8, c8, rfl, rfl⟩
  refine ⟨fun w hI => hI.pick (is := [1, 2]) (by decide) rfl, ?_⟩
  refine AnyJ.one (fuel := 7) 4 (by kernel_rfl) ?_
  refine StepJ.op (listed' := #[true, true, true, true, true, false, true, true, false, true, true, false, true, true, true, false, true, false, false, false]) rfl rfl rfl ?_
  refine OpJ.call (typeOf_spec r k hk hr) has_71 rfl rfl rfl rfl rfl [] [0, 1, 2] (by decide) rfl rfl (fun _ _ => trivial) ?_
  rintro _ _ ⟨rfl, rfl⟩
  refine ⟨fun w hI => hI.pick (is := [1, 2]) (by decide) rfl, ?_⟩
  refine AnyJ.one (fuel := 6) 5 (by kernel_rfl) ?_
  refine StepJ.op (listed' := #[true, true, true, true, true, true, true, true, false, true, true, false, true, true, true, false, true, false, false, false]) rfl rfl rfl ?_
  refine OpJ.call (two_spec _) has_67 rfl rfl rfl rfl rfl [] [0, 1, 2] (by decide) rfl rfl (fun _ _ => trivial) ?_
  rintro _ _ ⟨p11, c11, rfl, rfl⟩
  refine ⟨fun w hI => hI.pick (is := [2, 3]) (by decide) rfl, ?_⟩
  refine AnyJ.one (fuel := 5) 8 (by kernel_rfl) ?_
  refine StepJ.op (listed' := #[true, true, true, true, true, true, true, true, true, true, true, false, true, true, true, false, true, false, false, false]) rfl rfl rfl ?_
  refine OpJ.call (two_spec _) has_67 rfl rfl rfl rfl rfl [] [0, 1, 2, 3] (by decide) rfl rfl (fun _ _ => trivial) ?_
  rintro _ _ ⟨p14, c14, rfl, rfl⟩
  refine ⟨fun w hI => hI.pick (is := [3, 4]) (by decide) rfl, ?_⟩
  refine AnyJ.one (fuel := 4) 11 (by kernel_rfl) ?_
  refine StepJ.op (listed' := #[true, true, true, true, true, true, true, true, true, true, true, true, true, true, true, false, true, false, false, false]) rfl rfl rfl ?_
  refine OpJ.call (four_spec _) has_68 rfl rfl rfl rfl rfl [] [0, 1, 2, 3, 4] (by decide) rfl rfl (fun _ _ => trivial) ?_
  rintro _ _ ⟨p17, c17, rfl, rfl⟩
  refine ⟨fun w hI => hI.pick (is := [4, 5]) (by decide) rfl, ?_⟩
  refine AnyJ.one (fuel := 3) 15 (by kernel_rfl) ?_
  refine StepJ.op (listed' := #[true, true, true, true, true, true, true, true, true, true, true, true, true, true, true, true, true, false, false, false]) rfl rfl rfl ?_
  refine OpJ.call (two_spec _) has_67 rfl rfl rfl rfl rfl [] [0, 1, 2, 3, 4, 5] (by decide) rfl rfl (fun _ _ => trivial) ?_
  rintro _ _ ⟨p21, c21, rfl, rfl⟩
  refine ⟨fun w hI => hI.pick (is := [5, 6]) (by decide) rfl, ?_⟩
  refine AnyJ.one (fuel := 2) 17 (by kernel_rfl) ?_
  refine StepJ.op (listed' := #[true, true, true, true, true, true, true, true, true, true, true, true, true, true, true, true, true, true, false, false]) rfl rfl rfl ?_
  refine OpJ.buildSlice (xs := [.tmp 8, .tmp 11, .tmp 14, .tmp 17, .tmp 21, .tmp 22]) elt_162 rfl rfl rfl rfl rfl rfl (by rfl) (by decide) fun parts hparts => ?_
  refine ⟨fun w hI => hI.pick (is := [6, 7]) (by decide) rfl, ?_⟩
  refine AnyJ.one (fuel := 1) 18 (by kernel_rfl) ?_
  refine StepJ.op (listed' := #[true, true, true, true, true, true, true, true, true, true, true, true, true, true, true, true, true, true, true, false]) rfl rfl rfl ?_
  refine OpJ.call (joined_spec _ [wire r.name.data.toList, be16 (typeN k r.typ), be16 r.cls, be16 (r.ttl / 65536 % 65536) ++ be16 (r.ttl % 65536), be16 ((K.body r).length % 65536), K.body r] (by simp [be16_len]; omega) (by simp)) has_66 rfl rfl rfl rfl rfl [] [0, 1, 2, 3, 4, 5, 6, 7] (by decide) rfl rfl (Inv.parts (i := 0) rfl rfl ⟨Inv.bytes (k := 5) rfl, Inv.bytes (k := 4) rfl, Inv.bytes (k := 3) rfl, Inv.bytes (k := 2) rfl, Inv.bytes (k := 1) rfl, Inv.bytes (k := 6) rfl, trivial⟩) ?_
  rintro _ _ ⟨p24, c24, rfl, rfl⟩
  refine ⟨fun w hI => hI.pick (is := [7, 8]) (by decide) rfl, ?_⟩
  refine AnyJ.take (fuel := 0) (listed' := #[true, true, true, true, true, true, true, true, true, true, true, true, true, true, true, true, true, true, true, true]) 19 rfl (by kernel_rfl) (by kernel_rfl) (by kernel_rfl) rfl rfl rfl rfl (Yld.assign rfl rfl) (fun w hI => hI.pick (is := [7, 8]) (by decide) rfl) ?_
  refine AnyJ.done (by kernel_rfl) ?_
  refine ExJ.thenN ?_
  refine CodeJ.ret ?_
  have he : K.recWire r = [wire r.name.data.toList, be16 (typeN k r.typ), be16 r.cls, be16 (r.ttl / 65536 % 65536) ++ be16 (r.ttl % 65536), be16 ((K.body r).length % 65536), K.body r].flatten := by simp [Kind.recWire, ht]
  rw [he]
  exact ExJ.retB Tryd.results38 rfl fun w hI => hI.pick (is := [0]) (by decide) rfl

/-- what the records of a kind meet, one by one -/
structure Kind.One (K : Kind) (k : Nat) (r : RecD) : Prop where
  ok : Spec Tryd.prog 33 [r.val] [] (fun w => RecOk w r) (fun x H' => x = .bool (K.ok r) ∧ H' = [])
  body : K.ok r = true → Spec Tryd.prog 34 [r.val] [] (fun w => RecOk w r) (RetB 5 (K.body r))
  len : K.ok r = true → (K.body r).length < 65536
  kind : r.kind = (k : Nat)
  typ : K.typ r = typeN k r.typ
theorem Kind.meets_of {K : Kind} {k : Nat} {rs : List RecD} (h : ∀ r ∈ rs, K.One k r) : K.Meets rs := ⟨fun r hr => (h r hr).ok, fun r hr => (h r hr).body, fun r hr => (h r hr).len⟩
theorem Kind.writes_of {K : Kind} {k : Nat} (hk : k ≤ 13) {rs : List RecD} (h : ∀ r ∈ rs, K.One k r) (ho : ∀ r ∈ rs, K.recOk r = true) : K.Writes rs := by
  have key : ∀ r ∈ rs, nameOk r.name.data.toList = true ∧ K.ok r = true := fun r hr => by
    have := ho r hr
    simpa [Kind.recOk] using this
  refine ⟨fun r hr => ?_, fun r hr => ?_⟩
  · have h1 := h r hr
    have h2 := key r hr
    exact recordWire_spec K r k hk h1.kind h1.typ (h1.body h2.2) (h1.len h2.2) (nameOk_size _ h2.1)
  · have h2 := key r hr
    have h3 := (h r hr).len h2.2
    have h4 := wire_le _ (nameOk_size _ h2.1)
    simp only [Kind.recWire, List.length_append, be16_len]
    omega
end Go.Proofs.YtamobccbioafmaaDoor

/-
  The kinds of bodies, in plain terms.
-/
namespace Go.Proofs.YtamobccbioafmaaDoor
open Go

/-- a body that is a name -/
def hostK (t : Nat) : Kind := ⟨fun r => nameOk r.host.data.toList && decide ((wire r.host.data.toList).length < 65536), fun r => wire r.host.data.toList, fun _ => t⟩
/-- what is asked of a record's sizes -/
structure RecFit (r : RecD) : Prop where
  host : r.host.size ≤ 140737488351232
  box : r.box.size ≤ 140737488351232
  data : r.data.length ≤ 140737488351232
  texts : r.texts.length * 16 ≤ 140737488351232
  text : ∀ s ∈ r.texts, s.size ≤ 140737488351232
  pairs : r.pairs.length * 32 ≤ 140737488351232
  pair : ∀ p ∈ r.pairs, p.key < 65536 ∧ p.data.length ≤ 140737488351232
theorem RecD.wf.fit {r : RecD} (h : r.wf) : RecFit r := ⟨h.host, h.box, h.data, h.texts, h.text, h.pairs, h.pair⟩
end Go.Proofs.YtamobccbioafmaaDoor

/-
  Facts of the program's tables that the laws' walks use.
-/
namespace Go.Proofs.YtamobccbioafmaaDoor
open Go
set_option maxRecDepth 100000
theorem elt_26 : Elt Tryd.prog 26 35 16 168 (.agg #[.string ByteArray.empty, .int .u16 0, .int .u16 0, .int .u32 0, .int .u16 0, .int .i64 0, .slice none 0 0, .string ByteArray.empty, .string ByteArray.empty, .int .u32 0, .int .u32 0, .int .u32 0, .int .u32 0, .int .u32 0, .slice none 0 0, .slice none 0 0]) := ⟨Tryd.underlying26, by decide, by kernel_rfl, by kernel_rfl, by decide⟩
theorem elt_90 : Elt Tryd.prog 90 26 1 24 (.slice none 0 0) := ⟨Tryd.underlying90, by decide, by kernel_rfl, by kernel_rfl, by decide⟩
theorem has_12 : Has Tryd.prog 12 := ⟨_, Tryd.func12, by kernel_rfl, rfl⟩
theorem has_13 : Has Tryd.prog 13 := ⟨_, Tryd.func13, by kernel_rfl, rfl⟩
theorem has_14 : Has Tryd.prog 14 := ⟨_, Tryd.func14, by kernel_rfl, rfl⟩
theorem has_15 : Has Tryd.prog 15 := ⟨_, Tryd.func15, by kernel_rfl, rfl⟩
theorem has_16 : Has Tryd.prog 16 := ⟨_, Tryd.func16, by kernel_rfl, rfl⟩
theorem has_17 : Has Tryd.prog 17 := ⟨_, Tryd.func17, by kernel_rfl, rfl⟩
theorem has_18 : Has Tryd.prog 18 := ⟨_, Tryd.func18, by kernel_rfl, rfl⟩
theorem has_19 : Has Tryd.prog 19 := ⟨_, Tryd.func19, by kernel_rfl, rfl⟩
theorem has_20 : Has Tryd.prog 20 := ⟨_, Tryd.func20, by kernel_rfl, rfl⟩
theorem has_21 : Has Tryd.prog 21 := ⟨_, Tryd.func21, by kernel_rfl, rfl⟩
end Go.Proofs.YtamobccbioafmaaDoor

/-
  The law's helper 'refused', for all kinds.
-/
namespace Go.Proofs.YtamobccbioafmaaDoor
open Go
set_option maxRecDepth 100000

/-- a function that builds, by what adds its records -/
def BuildMeetsG (G : GEnv) (A : Adder) (f : FuncId) : Prop := ∀ (h : Hd), h.wf → ∀ (pre : List UInt8) (bufV stepsV : Value) (ss : List StepD), ss.length ≤ 1099511627776 → pre.length ≤ 140737488355328 → RunOk A ss false (newB pre h) →
  Spec Tryd.prog f [bufV, .agg (hdCs h).toArray, stepsV] [] (RunIn G bufV pre stepsV ss) (RunPost (runF A ss false (newB pre h)).1.fin (runF A ss false (newB pre h)).2)
def BuildMeets (A : Adder) (f : FuncId) : Prop := ∀ G : GEnv, BuildMeetsG G A f
/-- a kind does not look at what specRecord turns -/
def Kind.Stable (K : Kind) (k : Nat) : Prop := ∀ (r : RecD) (pv : Value), K.ok (specRec (k : Nat) r pv) = K.ok r ∧ K.body (specRec (k : Nat) r pv) = K.body r ∧ K.typ (specRec (k : Nat) r pv) = K.typ r
theorem Kind.Stable.recOk {K : Kind} {k : Nat} (h : K.Stable k) (r : RecD) (pv : Value) : K.recOk (specRec (k : Nat) r pv) = K.recOk r := by simp only [Kind.recOk, (h r pv).1]; rfl
theorem Kind.Stable.wire {K : Kind} {k : Nat} (h : K.Stable k) (r : RecD) (pv : Value) : K.recWire (specRec (k : Nat) r pv) = K.recWire r := by simp only [Kind.recWire, (h r pv).2.1, (h r pv).2.2]; rfl
def BadFor (A : Adder) (x : RecD) : Prop := ∀ b : Bd, 3 ≤ b.sec → b.sec ≤ 5 → b.cnt < 65535 → A.ok x false b ∧ A.eff x false b = (b, 3)
def GoodFor (K : Kind) (A : Adder) (x : RecD) : Prop := ∀ b : Bd, 3 ≤ b.sec → b.sec ≤ 5 → b.cnt < 65535 → A.ok x false b ∧ A.eff x false b = (({ b with buf := b.buf ++ K.recWire x } : Bd).incr, 0)

theorem step_rec (A : Adder) (x : RecD) (on : Bool) (b : Bd) : stepF A (recStep x) on b = (on, A.eff x on b) := rfl
theorem ok_rec (A : Adder) (x : RecD) (on : Bool) (b : Bd) (hb : BdOk b) (h : A.ok x on b) : StepOk A (recStep x) on b :=
  ⟨hb, fun _ h => (by simp [recStep] at h), fun h => (by simp [recStep] at h), fun _ => h⟩
theorem BdOk.more {b : Bd} (h : BdOk b) (ys : List UInt8) (hl : b.buf.length + ys.length ≤ 158329674399744 - 1024) : BdOk (({ b with buf := b.buf ++ ys } : Bd).incr) :=
  ⟨h.sec, by have := h.start; simp [Bd.incr]; omega, by simpa [Bd.incr] using hl, h.small⟩

theorem refused_run (K : Kind) (A : Adder) (h : Hd) (bad good : RecD) (hbad : BadFor A bad) (hgood : GoodFor K A good) (hl : (K.recWire good).length ≤ 70000) :
    RunOk A (stepsL false [] [[bad, good], [bad, good], [bad, good]]) false (newB [] h) ∧
      runF A (stepsL false [] [[bad, good], [bad, good], [bad, good]]) false (newB [] h) = (⟨zero12 ++ K.recWire good ++ K.recWire good ++ K.recWire good, 0, 5, h.id, h.bits, 0, 1, 1, 1, []⟩, [0, 0, 3, 0, 0, 3, 0, 0, 3, 0]) := by
  have hb0 := newB_ok h
  have hz : zero12.length = 12 := rfl
  let b2 : Bd := ⟨zero12, 0, 2, h.id, h.bits, 0, 0, 0, 0, []⟩
  let b3 : Bd := ⟨zero12, 0, 3, h.id, h.bits, 0, 0, 0, 0, []⟩
  let c3 : Bd := ⟨zero12 ++ K.recWire good, 0, 3, h.id, h.bits, 0, 1, 0, 0, []⟩
  let b4 : Bd := ⟨zero12 ++ K.recWire good, 0, 4, h.id, h.bits, 0, 1, 0, 0, []⟩
  let c4 : Bd := ⟨zero12 ++ K.recWire good ++ K.recWire good, 0, 4, h.id, h.bits, 0, 1, 1, 0, []⟩
  let b5 : Bd := ⟨zero12 ++ K.recWire good ++ K.recWire good, 0, 5, h.id, h.bits, 0, 1, 1, 0, []⟩
  let c5 : Bd := ⟨zero12 ++ K.recWire good ++ K.recWire good ++ K.recWire good, 0, 5, h.id, h.bits, 0, 1, 1, 1, []⟩
  have k2 : BdOk b2 := hb0.sec_ (k := 2) (by decide)
  have k3 : BdOk b3 := hb0.sec_ (k := 3) (by decide)
  have j3 : BdOk c3 := k3.more (K.recWire good) (by show zero12.length + _ ≤ _; omega)
  have k4 : BdOk b4 := j3.sec_ (k := 4) (by decide)
  have j4 : BdOk c4 := k4.more (K.recWire good) (by show (zero12 ++ K.recWire good).length + _ ≤ _; simp; omega)
  have k5 : BdOk b5 := j4.sec_ (k := 5) (by decide)
  have j5 : BdOk c5 := k5.more (K.recWire good) (by show (zero12 ++ K.recWire good ++ K.recWire good).length + _ ≤ _; simp; omega)
  have e1 : stepF A (mkStep 2) false (newB [] h) = (false, b2, 0) := rfl
  have e2 : stepF A (mkStep 3) false b2 = (false, b3, 0) := rfl
  have e3 : stepF A (recStep bad) false b3 = (false, b3, 3) := by rw [step_rec, (hbad b3 (Nat.le_of_ble_eq_true rfl) (Nat.le_of_ble_eq_true rfl) (by show (0 : Nat) < 65535; decide)).2]
  have e4 : stepF A (recStep good) false b3 = (false, c3, 0) := by rw [step_rec, (hgood b3 (Nat.le_of_ble_eq_true rfl) (Nat.le_of_ble_eq_true rfl) (by show (0 : Nat) < 65535; decide)).2]; rfl
  have e5 : stepF A (mkStep 4) false c3 = (false, b4, 0) := rfl
  have e6 : stepF A (recStep bad) false b4 = (false, b4, 3) := by rw [step_rec, (hbad b4 (by show (3 : Nat) ≤ 4; decide) (by show (4 : Nat) ≤ 5; decide) (by show (0 : Nat) < 65535; decide)).2]
  have e7 : stepF A (recStep good) false b4 = (false, c4, 0) := by rw [step_rec, (hgood b4 (by show (3 : Nat) ≤ 4; decide) (by show (4 : Nat) ≤ 5; decide) (by show (0 : Nat) < 65535; decide)).2]; rfl
  have e8 : stepF A (mkStep 5) false c4 = (false, b5, 0) := rfl
  have e9 : stepF A (recStep bad) false b5 = (false, b5, 3) := by rw [step_rec, (hbad b5 (by show (3 : Nat) ≤ 5; decide) (by show (5 : Nat) ≤ 5; decide) (by show (0 : Nat) < 65535; decide)).2]
  have e10 : stepF A (recStep good) false b5 = (false, c5, 0) := by rw [step_rec, (hgood b5 (by show (3 : Nat) ≤ 5; decide) (by show (5 : Nat) ≤ 5; decide) (by show (0 : Nat) < 65535; decide)).2]; rfl
  have hs : stepsL false [] [[bad, good], [bad, good], [bad, good]] = [mkStep 2, mkStep 3, recStep bad, recStep good, mkStep 4, recStep bad, recStep good, mkStep 5, recStep bad, recStep good] := rfl
  rw [hs]
  refine ⟨?_, ?_⟩
  · simp only [RunOk, e1, e2, e3, e4, e5, e6, e7, e8, e9, e10]
    refine ⟨ok_mk _ 2 _ _ hb0 (Nat.le_of_ble_eq_true rfl) (by decide), ok_mk _ 3 _ _ k2 (Nat.le_of_ble_eq_true rfl) (by decide), ok_rec _ _ _ _ k3 (hbad b3 (Nat.le_of_ble_eq_true rfl) (Nat.le_of_ble_eq_true rfl) (by show (0 : Nat) < 65535; decide)).1, ok_rec _ _ _ _ k3 (hgood b3 (Nat.le_of_ble_eq_true rfl) (Nat.le_of_ble_eq_true rfl) (by show (0 : Nat) < 65535; decide)).1,
      ok_mk _ 4 _ _ j3 (by show (3 : Nat) ≤ 4; decide) (by decide), ok_rec _ _ _ _ k4 (hbad b4 (by show (3 : Nat) ≤ 4; decide) (by show (4 : Nat) ≤ 5; decide) (by show (0 : Nat) < 65535; decide)).1, ok_rec _ _ _ _ k4 (hgood b4 (by show (3 : Nat) ≤ 4; decide) (by show (4 : Nat) ≤ 5; decide) (by show (0 : Nat) < 65535; decide)).1,
      ok_mk _ 5 _ _ j4 (by show (4 : Nat) ≤ 5; decide) (by decide), ok_rec _ _ _ _ k5 (hbad b5 (by show (3 : Nat) ≤ 5; decide) (by show (5 : Nat) ≤ 5; decide) (by show (0 : Nat) < 65535; decide)).1, ok_rec _ _ _ _ k5 (hgood b5 (by show (3 : Nat) ≤ 5; decide) (by show (5 : Nat) ≤ 5; decide) (by show (0 : Nat) < 65535; decide)).1, j5⟩
  · simp only [runF, e1, e2, e3, e4, e5, e6, e7, e8, e9, e10]
    rfl

theorem fault_at (k f : Nat) (h : [0, 0, 3, 0, 0, 3, 0, 0, 3, 0][k]? = some f) : (((f : Nat) : Int) != 0) = (decide (k = 2) || decide (k = 5) || decide (k = 8)) := by
  have hk := (List.getElem?_eq_some_iff.1 h).1
  simp only [List.length_cons, List.length_nil] at hk
  rcases (by omega : k = 0 ∨ k = 1 ∨ k = 2 ∨ k = 3 ∨ k = 4 ∨ k = 5 ∨ k = 6 ∨ k = 7 ∨ k = 8 ∨ k = 9) with e | e | e | e | e | e | e | e | e | e <;> subst e <;> simp at h <;> subst h <;> rfl

theorem SpecOf.one {k : Int} {r : RecD} {rs : List RecD} (h : SpecOf k [r] rs) : ∃ p c, rs = [specRec k r (.slice p r.pairs.length c)] := by
  match rs, h with
  | [x], h =>
    obtain ⟨p, c, e⟩ := h.1
    exact ⟨p, c, by rw [e]⟩
  | _ :: _ :: _, h => exact h.2.elim
theorem recs_one {w : World} {T : TypeId} {v : Value} {r : RecD} (h : Own w T 16 v 1 (flat [.agg r.cells.toArray])) (hr : RecOk w r) : Recs w v [r] := ⟨Own.row h, fun x hx => by simp at hx; subst hx; exact hr⟩
theorem recs_two {w : World} {T : TypeId} {v : Value} {r s : RecD} (h : Own w T 16 v 2 (flat [.agg r.cells.toArray, .agg s.cells.toArray])) (hr : RecOk w r) (hs : RecOk w s) : Recs w v [r, s] := ⟨Own.row h, fun x hx => by
  simp at hx
  rcases hx with rfl | rfl
  · exact hr
  · exact hs⟩
theorem eq_nat (k j : Nat) : (((k : Nat) : Int) == (j : Nat)) = decide (k = j) := by
  rw [Bool.eq_iff_iff]
  simp
  omega

theorem refused_specG (K : Kind) (k : Nat) (hk : k ≤ 13) (hst : K.Stable k) (A : Adder) (f : FuncId) (hf : Has Tryd.prog f) (G : GEnv) (hb : BuildMeetsG G A f) (h : Hd) (hw : h.wf) (bad good : RecD) (hgw : good.wf) (hbad : BadFor A bad) (hgood : K.recOk good = true → GoodFor K A good) (hone : ∀ pv, K.One k (specRec (k : Nat) good pv)) :
    Spec Tryd.prog 20 [.func (.func f) #[] #[], .int .i64 (k : Nat), .agg (hdCs h).toArray, .agg bad.cells.toArray, .agg good.cells.toArray] [] (fun w => GE G w [] ∧ RecOk w bad ∧ RecOk w good) (fun r H' => r = .bool true ∧ H' = []) := by
  refine Spec.of Tryd.func20 rfl Tryd.ntmps20 rfl fun w0 hR => ?_
  obtain ⟨hge, hrb, hrg⟩ := hR
  refine CodeJ.seq ?_
  refine CodeJ.region ?_
  refine OpsJ.op rfl ?_
  refine OpJ.box rfl rfl rfl rfl fun hd hhd => ?_
  refine OpsJ.op rfl ?_
  refine OpJ.box rfl rfl rfl rfl fun bd hbd => ?_
  refine OpsJ.op rfl ?_
  refine OpJ.box rfl rfl rfl rfl fun gd hgd => ?_
  refine OpsJ.yld rfl rfl rfl (Yld.assign rfl rfl) ?_
  refine OpsJ.nil ?_
  refine ExJ.thenN ?_
  refine CodeJ.seq ?_
  refine CodeJ.region ?_
  refine OpsJ.yld rfl rfl rfl (Yld.move rfl rfl) ?_
  refine OpsJ.yld rfl rfl rfl (Yld.loadN (vs := hdCs h) rfl Tryd.underlying24 rfl sz_24 rfl (fun w hI => Inv.whole hI (i := 2) rfl)) ?_
  refine OpsJ.yld rfl rfl rfl (Yld.loadN (vs := good.cells) rfl Tryd.underlying35 rfl sz_35 rfl (fun w hI => Inv.whole hI (i := 0) rfl)) ?_
  refine OpsJ.op rfl ?_
  refine OpJ.buildSlice (xs := [.tmp 18]) elt_26 rfl rfl rfl rfl rfl rfl (by rfl) (by decide) fun l1 hl1 => ?_
  refine OpsJ.yld rfl rfl rfl (Yld.loadN (vs := good.cells) rfl Tryd.underlying35 rfl sz_35 rfl (fun w hI => Inv.whole hI (i := 1) rfl)) ?_
  refine OpsJ.op rfl ?_
  refine OpJ.buildSlice (xs := [.tmp 20]) elt_26 rfl rfl rfl rfl rfl rfl (by rfl) (by decide) fun l2 hl2 => ?_
  refine OpsJ.yld rfl rfl rfl (Yld.loadN (vs := good.cells) rfl Tryd.underlying35 rfl sz_35 rfl (fun w hI => Inv.whole hI (i := 2) rfl)) ?_
  refine OpsJ.op rfl ?_
  refine OpJ.buildSlice (xs := [.tmp 22]) elt_26 rfl rfl rfl rfl rfl rfl (by rfl) (by decide) fun l3 hl3 => ?_
  refine OpsJ.op rfl ?_
  refine OpJ.call (message_spec (k : Nat) ⟨h, .slice none 0 0, [], .slice (some ⟨l1, 0, none⟩) 1 1, [good], .slice (some ⟨l2, 0, none⟩) 1 1, [good], .slice (some ⟨l3, 0, none⟩) 1 1, [good]⟩ ⟨by simp, by simp, by simp, by simp, fun r hr => by simp at hr; subst hr; exact hgw.pairs⟩) has_13 rfl rfl rfl rfl rfl [] [0, 1, 2, 3, 4, 5] (by decide) rfl rfl (fun w hI => ⟨.inl ⟨none, 0, rfl, rfl, rfl⟩, recs_one (hI.hs _ (List.mem_of_getElem? (i := 2) rfl)).1 (hrg.keep0 hI.keep), recs_one (hI.hs _ (List.mem_of_getElem? (i := 1) rfl)).1 (hrg.keep0 hI.keep), recs_one (hI.hs _ (List.mem_of_getElem? (i := 0) rfl)).1 (hrg.keep0 hI.keep)⟩) ?_
  rintro _ _ ⟨m', q, bs, hq', rfl, hof, hmem, rfl⟩
  obtain ⟨h', va, qs', v1, r1, v2, r2, v3, r3⟩ := m'
  have e1 : h' = h := hof.head
  have e2 : qs' = [] := hof.asks
  obtain ⟨pa, ca, e3⟩ := SpecOf.one hof.one
  obtain ⟨pb, cb, e4⟩ := SpecOf.one hof.two
  obtain ⟨pc, cc, e5⟩ := SpecOf.one hof.three
  simp only at e3 e4 e5
  subst e1 e2 e3 e4 e5
  have hall : ∀ r ∈ [specRec (k : Nat) good (.slice pa good.pairs.length ca)] ++ [specRec (k : Nat) good (.slice pb good.pairs.length cb)] ++ [specRec (k : Nat) good (.slice pc good.pairs.length cc)], ∃ pv, r = specRec (k : Nat) good pv := fun r hr => by
    simp at hr
    rcases hr with rfl | rfl | rfl <;> exact ⟨_, rfl⟩
  refine OpsJ.op rfl ?_
  refine OpJ.alloc rfl rfl rfl zero_40 fun mb hmb => ?_
  refine OpsJ.op rfl ?_
  refine OpJ.storeW (i := 0) rfl rfl rfl rfl sz_40 rfl hof.ones rfl ?_
  refine OpsJ.nil ?_
  refine ExJ.thenN ?_
  refine CodeJ.seq ?_
  refine CodeJ.seq ?_
  refine CodeJ.region ?_
  refine OpsJ.yld rfl rfl rfl (Yld.loadN (vs := MsgD.cells ⟨h', va, [], v1, [specRec (k : Nat) good (.slice pa good.pairs.length ca)], v2, [specRec (k : Nat) good (.slice pb good.pairs.length cb)], v3, [specRec (k : Nat) good (.slice pc good.pairs.length cc)]⟩) rfl Tryd.underlying40 rfl sz_40 rfl (fun w hI => Inv.whole hI (i := 0) rfl)) ?_
  refine OpsJ.op rfl ?_
  refine OpJ.call (ok_spec K ⟨h', va, [], v1, [specRec (k : Nat) good (.slice pa good.pairs.length ca)], v2, [specRec (k : Nat) good (.slice pb good.pairs.length cb)], v3, [specRec (k : Nat) good (.slice pc good.pairs.length cc)]⟩ (Kind.meets_of (k := k) fun r hr => by obtain ⟨pv, rfl⟩ := hall r hr; exact hone pv) (by simp) (fun r hr => by obtain ⟨pv, rfl⟩ := hall r hr; exact Nat.le_trans hgw.name (Nat.le_of_ble_eq_true rfl)) (by simp)) has_14 rfl rfl rfl rfl rfl [] [0, 1, 2, 3, 4, 5, 6, 7] (by decide) rfl rfl (fun w hI => (hmem w (hI.roGet (i := 1) rfl)).ok hof (fun r hr => by simp at hr; subst hr; exact hrg.keep0 hI.keep)) ?_
  rintro _ _ ⟨rfl, rfl⟩
  refine OpsJ.yld rfl rfl rfl (Yld.not rfl rfl) ?_
  refine OpsJ.nil ?_
  refine ExJ.thenN ?_
  refine CodeJ.cond rfl (fun c27 => ?_) (fun c27 => ?_)
  · refine CodeJ.seq ?_
    refine CodeJ.region ?_
    refine OpsJ.yld rfl rfl rfl (Yld.assign rfl rfl) ?_
    refine OpsJ.nil ?_
    refine ExJ.thenN ?_
    refine CodeJ.ret ?_
    refine ExJ.thenR ?_
    exact ExJ.ret1 Tryd.results20 rfl ⟨rfl, rfl⟩ fun w hI => hI.pick (is := []) (by decide) rfl
  · have hokB : K.okB ⟨h', va, [], v1, [specRec (k : Nat) good (.slice pa good.pairs.length ca)], v2, [specRec (k : Nat) good (.slice pb good.pairs.length cb)], v3, [specRec (k : Nat) good (.slice pc good.pairs.length cc)]⟩ = true := by simpa using c27
    have hgok : K.recOk good = true := by
      have := hokB
      simp only [Kind.okB, Bool.and_eq_true, List.all_cons] at this
      have h2 := this.1.1.1.1.1.1.1.1.2.1
      rwa [hst.recOk] at h2
    have hG := hgood hgok
    have hwr : K.Writes ([specRec (k : Nat) good (.slice pa good.pairs.length ca)] ++ [specRec (k : Nat) good (.slice pb good.pairs.length cb)] ++ [specRec (k : Nat) good (.slice pc good.pairs.length cc)]) := Kind.writes_of hk (fun r hr => by obtain ⟨pv, rfl⟩ := hall r hr; exact hone pv) (fun r hr => by obtain ⟨pv, rfl⟩ := hall r hr; rw [hst.recOk]; exact hgok)
    have hrl : (K.recWire good).length ≤ 70000 := by
      have := hwr.len (specRec (k : Nat) good (.slice pa good.pairs.length ca)) (by simp)
      rwa [hst.wire] at this
    obtain ⟨hrun, hrf⟩ := refused_run K A h' bad good hbad hG hrl
    refine CodeJ.skip ?_
    refine ExJ.thenN ?_
    refine CodeJ.seq ?_
    refine CodeJ.region ?_
    refine OpsJ.yld rfl rfl rfl (Yld.loadN (vs := bad.cells) rfl Tryd.underlying35 rfl sz_35 rfl (fun w hI => Inv.whole hI (i := 6) rfl)) ?_
    refine OpsJ.yld rfl rfl rfl (Yld.loadN (vs := good.cells) rfl Tryd.underlying35 rfl sz_35 rfl (fun w hI => Inv.whole hI (i := 5) rfl)) ?_
    refine OpsJ.op rfl ?_
    refine OpJ.buildSlice (xs := [.tmp 28, .tmp 29]) elt_26 rfl rfl rfl rfl rfl rfl (by rfl) (by decide) fun k1 hk1 => ?_
    refine OpsJ.yld rfl rfl rfl (Yld.loadN (vs := bad.cells) rfl Tryd.underlying35 rfl sz_35 rfl (fun w hI => Inv.whole hI (i := 7) rfl)) ?_
    refine OpsJ.yld rfl rfl rfl (Yld.loadN (vs := good.cells) rfl Tryd.underlying35 rfl sz_35 rfl (fun w hI => Inv.whole hI (i := 6) rfl)) ?_
    refine OpsJ.op rfl ?_
    refine OpJ.buildSlice (xs := [.tmp 31, .tmp 32]) elt_26 rfl rfl rfl rfl rfl rfl (by rfl) (by decide) fun k2 hk2 => ?_
    refine OpsJ.yld rfl rfl rfl (Yld.loadN (vs := bad.cells) rfl Tryd.underlying35 rfl sz_35 rfl (fun w hI => Inv.whole hI (i := 8) rfl)) ?_
    refine OpsJ.yld rfl rfl rfl (Yld.loadN (vs := good.cells) rfl Tryd.underlying35 rfl sz_35 rfl (fun w hI => Inv.whole hI (i := 7) rfl)) ?_
    refine OpsJ.op rfl ?_
    refine OpJ.buildSlice (xs := [.tmp 34, .tmp 35]) elt_26 rfl rfl rfl rfl rfl rfl (by rfl) (by decide) fun k3 hk3 => ?_
    refine OpsJ.op rfl ?_
    refine OpJ.buildSlice (xs := [.tmp 30, .tmp 33, .tmp 36]) elt_90 rfl rfl rfl rfl rfl rfl (by rfl) (by decide) fun lists hlists => ?_
    refine OpsJ.op rfl ?_
    refine OpJ.call (steps_spec false [] [[bad, good], [bad, good], [bad, good]] (.slice none 0 0) _ [.slice (some ⟨k1, 0, none⟩) 2 2, .slice (some ⟨k2, 0, none⟩) 2 2, .slice (some ⟨k3, 0, none⟩) 2 2] rfl (by simp [stepsL, secSteps])) has_15 rfl rfl rfl rfl rfl [] [0, 1, 2, 3, 4, 5, 6, 7, 8, 9, 10, 11] (by decide) rfl rfl (fun w hI => ⟨.inl ⟨none, 0, rfl, rfl, rfl⟩, Own.row (hI.hs _ (List.mem_of_getElem? (i := 0) rfl)).1, fun i v rs h1 h2 => by
    have q1 : Recs w (.slice (some ⟨k1, 0, none⟩) 2 2) [bad, good] := recs_two (hI.hs _ (List.mem_of_getElem? (i := 3) rfl)).1 (hrb.keep0 hI.keep) (hrg.keep0 hI.keep)
    have q2 : Recs w (.slice (some ⟨k2, 0, none⟩) 2 2) [bad, good] := recs_two (hI.hs _ (List.mem_of_getElem? (i := 2) rfl)).1 (hrb.keep0 hI.keep) (hrg.keep0 hI.keep)
    have q3 : Recs w (.slice (some ⟨k3, 0, none⟩) 2 2) [bad, good] := recs_two (hI.hs _ (List.mem_of_getElem? (i := 1) rfl)).1 (hrb.keep0 hI.keep) (hrg.keep0 hI.keep)
    match i with
    | 0 => simp at h1 h2; subst h1 h2; exact q1
    | 1 => simp at h1 h2; subst h1 h2; exact q2
    | 2 => simp at h1 h2; subst h1 h2; exact q3
    | i + 3 => simp at h1⟩) ?_
    rintro _ _ ⟨p38, c38, rfl, rfl⟩
    refine OpsJ.yld rfl rfl rfl (Yld.assign rfl rfl) ?_
    refine OpsJ.nil ?_
    refine ExJ.thenN ?_
    refine CodeJ.seq ?_
    refine CodeJ.region ?_
    refine OpsJ.yld rfl rfl rfl (Yld.move rfl rfl) ?_
    refine OpsJ.yld rfl rfl rfl (Yld.loadN (vs := hdCs h') rfl Tryd.underlying24 rfl sz_24 rfl (fun w hI => Inv.whole hI (i := 12) rfl)) ?_
    refine OpsJ.yld rfl rfl rfl (Yld.move rfl rfl) ?_
    refine OpsJ.op rfl ?_
    refine OpJ.call (hb h' hw [] (.slice none 0 0) _ (stepsL false [] [[bad, good], [bad, good], [bad, good]]) (by simp [stepsL, secSteps]) (by simp) hrun) hf rfl rfl rfl rfl rfl [] [0, 1, 2, 3, 4, 5, 6, 7, 8, 9, 10, 11, 12] (by decide) rfl rfl (fun w hI => ⟨hge.call hI (is := []) rfl, .inl ⟨none, 0, rfl, rfl⟩, Own.row (hI.hs _ (List.mem_of_getElem? (i := 0) rfl)).1, stepsL_rec (fun l hl r hr => by simp at hl; subst hl; simp at hr; rcases hr with rfl | rfl; exact hrb.keep0 hI.keep; exact hrg.keep0 hI.keep)⟩) ?_
    rintro _ _ ⟨p1, c1, p2, c2, rfl, rfl⟩
    rw [hrf]
    simp only
    refine OpsJ.op rfl ?_
    refine OpJ.alloc rfl rfl rfl zero_47 fun got hgot => ?_
    refine OpsJ.op rfl ?_
    refine OpJ.storeW (i := 0) rfl rfl rfl rfl sz_47 rfl rfl rfl ?_
    refine OpsJ.nil ?_
    refine ExJ.thenN ?_
    refine CodeJ.seq ?_
    refine CodeJ.seq ?_
    refine CodeJ.region ?_
    refine OpsJ.yld rfl rfl rfl (Yld.fieldAddr fa_47_0 rfl rfl) ?_
    refine OpsJ.yld rfl rfl rfl (Yld.load1 rfl Tryd.underlying45 rfl rfl (fun w hI => Inv.cell1 hI (i := 0) rfl rfl)) ?_
    refine OpsJ.yld rfl rfl rfl (Yld.lenSlice rfl rfl rfl Tryd.underlying45 rfl) ?_
    refine OpsJ.yld rfl rfl rfl (Yld.move rfl rfl) ?_
    refine OpsJ.yld rfl rfl rfl (Yld.lenSlice rfl rfl rfl Tryd.underlying43 rfl) ?_
    refine OpsJ.yld rfl rfl rfl (Yld.intBin rfl rfl rfl rfl) ?_
    refine OpsJ.yld rfl rfl rfl (Yld.move rfl rfl) ?_
    refine OpsJ.splitB (s := 49) rfl (fun g49 => ?_) (fun g49 => ?_)
    · exact absurd g49 (show ¬ ((((10 : Nat) : Int) != ((10 : Nat) : Int)) = true) from by decide)
    · refine OpsJ.opT rfl rfl rfl ?_
      refine OpJ.yld rfl rfl (Yld.fieldAddr fa_47_2 rfl rfl) ?_
      refine OpsJ.opT rfl rfl rfl ?_
      refine OpJ.yld rfl rfl (Yld.load1 rfl Tryd.underlying3 rfl rfl (fun w hI => Inv.cell1 hI (i := 0) rfl rfl)) ?_
      refine OpsJ.opT rfl rfl rfl ?_
      refine OpJ.yld rfl rfl (Yld.intBin rfl rfl rfl rfl) ?_
      refine OpsJ.yld rfl rfl rfl (Yld.pickF rfl rfl rfl) ?_
      refine OpsJ.nil ?_
      refine ExJ.thenN ?_
      refine CodeJ.condF rfl ?_
      refine CodeJ.skip ?_
      refine ExJ.thenN ?_
      refine CodeJ.seq ?_
      refine CodeJ.seq ?_
      refine CodeJ.region ?_
      refine OpsJ.yld rfl rfl rfl (Yld.fieldAddr fa_47_0 rfl rfl) ?_
      refine OpsJ.yld rfl rfl rfl (Yld.load1 rfl Tryd.underlying45 rfl rfl (fun w hI => Inv.cell1 hI (i := 0) rfl rfl)) ?_
      refine OpsJ.yld rfl rfl rfl (Yld.lenSlice rfl rfl rfl Tryd.underlying45 rfl) ?_
      refine OpsJ.someOwn (i := 1) (m := 10) rfl (by decide) fun fb hfb _ => ?_
      subst hfb
      refine OpsJ.yld rfl rfl rfl (Yld.move rfl rfl) ?_
      refine OpsJ.nil ?_
      refine ExJ.thenN ?_
      refine CodeJ.block ?_
      refine CodeJ.loopP (fun L H m => ∃ j : Nat, j ≤ 10 ∧ L = [(11, .pointer (some ⟨mb, 0, none⟩)), (13, .pointer (some ⟨got, 0, none⟩)), (55, .slice (some ⟨fb, 0, none⟩) 10 c1), (56, .int .i64 10), (57, .int .i64 j)] ∧ H = [.blk got #[.slice (some ⟨fb, 0, none⟩) 10 c1, .slice p2 (Bd.fin ⟨zero12 ++ K.recWire good ++ K.recWire good ++ K.recWire good, 0, 5, h'.id, h'.bits, 0, 1, 1, 1, []⟩).length c2, .int .i64 0] 47, ownI 3 (.slice (some ⟨fb, 0, none⟩) 10 c1) [0, 0, 3, 0, 0, 3, 0, 0, 3, 0], ownB 5 (.slice p2 (Bd.fin ⟨zero12 ++ K.recWire good ++ K.recWire good ++ K.recWire good, 0, 5, h'.id, h'.bits, 0, 1, 1, 1, []⟩).length c2) (Bd.fin ⟨zero12 ++ K.recWire good ++ K.recWire good ++ K.recWire good, 0, 5, h'.id, h'.bits, 0, 1, 1, 1, []⟩), .ro q bs hq', .blk mb (MsgD.cells ⟨h', va, [], v1, [specRec (k : Nat) good (.slice pa good.pairs.length ca)], v2, [specRec (k : Nat) good (.slice pb good.pairs.length cb)], v3, [specRec (k : Nat) good (.slice pc good.pairs.length cc)]⟩).toArray 40] ∧ m = 10 - j) ⟨0, by decide, rfl, rfl, rfl⟩ ⟨rfl, rfl, rfl, rfl, rfl, trivial⟩ (fun w hI => hI.pick (is := [0, 1, 2, 9, 8]) (by decide) rfl) ?_
      rintro _ _ _ ⟨j, hj, rfl, rfl, rfl⟩
      refine CodeJ.seq ?_
      refine CodeJ.region ?_
      refine OpsJ.yld rfl rfl rfl (Yld.intBin rfl rfl rfl rfl) ?_
      refine OpsJ.nil ?_
      refine ExJ.thenN ?_
      refine CodeJ.seq ?_
      refine CodeJ.condP rfl (fun c58 => ?_) (fun c58 => ?_)
      · have hj' : j < 10 := by omega
        obtain ⟨fx, hfx⟩ : ∃ fx, [0, 0, 3, 0, 0, 3, 0, 0, 3, 0][j]? = some fx := ⟨_, List.getElem?_eq_getElem (by simpa using hj')⟩
        have hfa := fault_at j fx hfx
        refine CodeJ.skip ?_
        refine ExJ.thenN ?_
        refine CodeJ.seq ?_
        refine CodeJ.block ?_
        refine CodeJ.seq ?_
        refine CodeJ.region ?_
        refine OpsJ.yld rfl rfl rfl (Yld.move rfl rfl) ?_
        refine OpsJ.yld rfl rfl rfl (Yld.indexAddr rfl Tryd.underlying45 sz_3 rfl rfl hj') ?_
        refine OpsJ.yld rfl rfl rfl (Yld.load1 rfl Tryd.underlying3 rfl rfl (fun w hI => (Own.cells (hI.hs _ (List.mem_of_getElem? (i := 1) rfl)).1 _ _ _ _ rfl).2.2.one (k := j) (by simp only [List.getElem?_map, hfx]; rfl))) ?_
        refine OpsJ.yld rfl rfl rfl (Yld.assign rfl rfl) ?_
        refine OpsJ.yld rfl rfl rfl (Yld.assign rfl rfl) ?_
        refine OpsJ.nil ?_
        refine ExJ.thenN ?_
        refine CodeJ.seq ?_
        refine CodeJ.region ?_
        refine OpsJ.yld rfl rfl rfl (Yld.move rfl rfl) ?_
        refine OpsJ.yld rfl rfl rfl (Yld.intBin rfl rfl rfl rfl) ?_
        refine OpsJ.yld rfl rfl rfl (Yld.move rfl rfl) ?_
        refine OpsJ.yld rfl rfl rfl (Yld.intBin rfl rfl rfl rfl) ?_
        refine OpsJ.yld rfl rfl rfl (Yld.move rfl rfl) ?_
        refine OpsJ.splitB (s := 66) rfl (fun g66 => ?_) (fun g66 => ?_)
        · have g66 : decide (j = 2) = true := by rw [← eq_nat]; exact g66
          refine OpsJ.opF rfl rfl rfl rfl rfl rfl ?_
          refine OpsJ.opF rfl rfl rfl rfl rfl rfl ?_
          refine OpsJ.yld rfl rfl rfl (Yld.pickT rfl rfl rfl) ?_
          refine OpsJ.yld rfl rfl rfl (Yld.move rfl rfl) ?_
          refine OpsJ.opF rfl rfl rfl rfl rfl rfl ?_
          refine OpsJ.opF rfl rfl rfl rfl rfl rfl ?_
          refine OpsJ.yld rfl rfl rfl (Yld.pickT rfl rfl rfl) ?_
          refine OpsJ.yld rfl rfl rfl (Yld.boolNe rfl Tryd.underlying4 rfl rfl) ?_
          refine OpsJ.nil ?_
          refine ExJ.thenN ?_
          refine CodeJ.cond rfl (fun c74 => ?_) (fun c74 => ?_)
          · have e8 := eq_nat j 8
            simp_all
          · refine CodeJ.skip ?_
            refine ExJ.blockN ?_
            refine ExJ.thenN ?_
            refine CodeJ.region ?_
            refine OpsJ.yld rfl rfl rfl (Yld.intBin rfl rfl rfl rfl) ?_
            rw [i64_succ j (by omega)]
            refine OpsJ.yld rfl rfl rfl (Yld.move rfl rfl) ?_
            refine OpsJ.nil ?_
            exact ExJ.againP ⟨j + 1, by omega, rfl, rfl, rfl⟩ (by omega) ⟨rfl, rfl, rfl, rfl, rfl, trivial⟩ fun w hI => hI
        · have g66 : decide (j = 2) = false := by rw [← eq_nat]; exact g66
          refine OpsJ.opT rfl rfl rfl ?_
          refine OpJ.yld rfl rfl (Yld.move rfl rfl) ?_
          refine OpsJ.opT rfl rfl rfl ?_
          refine OpJ.yld rfl rfl (Yld.intBin rfl rfl rfl rfl) ?_
          refine OpsJ.yld rfl rfl rfl (Yld.pickF rfl rfl rfl) ?_
          refine OpsJ.yld rfl rfl rfl (Yld.move rfl rfl) ?_
          refine OpsJ.splitB (s := 70) rfl (fun g70 => ?_) (fun g70 => ?_)
          · have g70 : decide (j = 5) = true := by rw [← eq_nat]; exact g70
            refine OpsJ.opF rfl rfl rfl rfl rfl rfl ?_
            refine OpsJ.opF rfl rfl rfl rfl rfl rfl ?_
            refine OpsJ.yld rfl rfl rfl (Yld.pickT rfl rfl rfl) ?_
            refine OpsJ.yld rfl rfl rfl (Yld.boolNe rfl Tryd.underlying4 rfl rfl) ?_
            refine OpsJ.nil ?_
            refine ExJ.thenN ?_
            refine CodeJ.cond rfl (fun c74 => ?_) (fun c74 => ?_)
            · have e8 := eq_nat j 8
              simp_all
            · refine CodeJ.skip ?_
              refine ExJ.blockN ?_
              refine ExJ.thenN ?_
              refine CodeJ.region ?_
              refine OpsJ.yld rfl rfl rfl (Yld.intBin rfl rfl rfl rfl) ?_
              rw [i64_succ j (by omega)]
              refine OpsJ.yld rfl rfl rfl (Yld.move rfl rfl) ?_
              refine OpsJ.nil ?_
              exact ExJ.againP ⟨j + 1, by omega, rfl, rfl, rfl⟩ (by omega) ⟨rfl, rfl, rfl, rfl, rfl, trivial⟩ fun w hI => hI
          · have g70 : decide (j = 5) = false := by rw [← eq_nat]; exact g70
            refine OpsJ.opT rfl rfl rfl ?_
            refine OpJ.yld rfl rfl (Yld.move rfl rfl) ?_
            refine OpsJ.opT rfl rfl rfl ?_
            refine OpJ.yld rfl rfl (Yld.intBin rfl rfl rfl rfl) ?_
            refine OpsJ.yld rfl rfl rfl (Yld.pickF rfl rfl rfl) ?_
            refine OpsJ.yld rfl rfl rfl (Yld.boolNe rfl Tryd.underlying4 rfl rfl) ?_
            refine OpsJ.nil ?_
            refine ExJ.thenN ?_
            refine CodeJ.cond rfl (fun c74 => ?_) (fun c74 => ?_)
            · have e8 := eq_nat j 8
              simp_all
            · refine CodeJ.skip ?_
              refine ExJ.blockN ?_
              refine ExJ.thenN ?_
              refine CodeJ.region ?_
              refine OpsJ.yld rfl rfl rfl (Yld.intBin rfl rfl rfl rfl) ?_
              rw [i64_succ j (by omega)]
              refine OpsJ.yld rfl rfl rfl (Yld.move rfl rfl) ?_
              refine OpsJ.nil ?_
              exact ExJ.againP ⟨j + 1, by omega, rfl, rfl, rfl⟩ (by omega) ⟨rfl, rfl, rfl, rfl, rfl, trivial⟩ fun w hI => hI
      · refine CodeJ.exit ?_
        refine ExJ.thenX ?_
        refine ExJ.thenX ?_
        refine ExJ.blockHit ?_
        refine ExJ.thenN ?_
        refine CodeJ.seq ?_
        refine CodeJ.any (fuel := 6) (listed := #[false, false, false, false, false, false]) [0, 1, 2, 3, 4] rfl follows_mixed rfl rfl ?_
        refine AnyJ.take (fuel := 5) (listed' := #[true, false, false, false, false, false]) 0 rfl (by kernel_rfl) (by kernel_rfl) (by kernel_rfl) rfl rfl rfl rfl (Yld.fieldAddr fa_47_1 rfl rfl) (fun w hI => hI.pick (is := [0, 1, 2, 3, 4]) (by decide) rfl) ?_
        refine AnyJ.take (fuel := 4) (listed' := #[true, true, false, false, false, false]) 1 rfl (by kernel_rfl) (by kernel_rfl) (by kernel_rfl) rfl rfl rfl rfl (Yld.load1 rfl Tryd.underlying31 rfl rfl (fun w hI => Inv.cell1 hI (i := 0) rfl rfl)) (fun w hI => hI.pick (is := [0, 1, 2, 3, 4]) (by decide) rfl) ?_
        refine AnyJ.take (fuel := 3) (listed' := #[true, true, true, false, false, false]) 2 rfl (by kernel_rfl) (by kernel_rfl) (by kernel_rfl) rfl rfl rfl rfl (Yld.loadN (vs := MsgD.cells ⟨h', va, [], v1, [specRec (k : Nat) good (.slice pa good.pairs.length ca)], v2, [specRec (k : Nat) good (.slice pb good.pairs.length cb)], v3, [specRec (k : Nat) good (.slice pc good.pairs.length cc)]⟩) rfl Tryd.underlying40 rfl sz_40 rfl (fun w hI => Inv.whole hI (i := 4) rfl)) (fun w hI => hI.pick (is := [0, 1, 2, 3, 4]) (by decide) rfl) ?_
        refine AnyJ.one (fuel := 2) 3 (by kernel_rfl) ?_
        refine StepJ.op (listed' := #[true, true, true, true, false, false]) rfl rfl rfl ?_
        refine OpJ.call (messageWire_spec K ⟨h', va, [], v1, [specRec (k : Nat) good (.slice pa good.pairs.length ca)], v2, [specRec (k : Nat) good (.slice pb good.pairs.length cb)], v3, [specRec (k : Nat) good (.slice pc good.pairs.length cc)]⟩ hw hwr (by simp) ⟨by simp, by simp, by simp, by simp⟩) has_18 rfl rfl rfl rfl rfl [] [0, 1, 2, 3, 4] (by decide) rfl rfl (fun w hI => (hmem w (hI.roGet (i := 3) rfl)).ok hof (fun r hr => by simp at hr; subst hr; exact hrg.keep0 hI.keep)) ?_
        rintro _ _ ⟨p79, c79, rfl, rfl⟩
        refine ⟨fun w hI => hI.pick (is := [1, 2, 3, 4, 5]) (by decide) rfl, ?_⟩
        refine AnyJ.one (fuel := 1) 4 (by kernel_rfl) ?_
        refine StepJ.op (listed' := #[true, true, true, true, true, false]) rfl rfl rfl ?_
        refine OpJ.call (same_spec _ _ _ (K.wire ⟨h', va, [], v1, [specRec (k : Nat) good (.slice pa good.pairs.length ca)], v2, [specRec (k : Nat) good (.slice pb good.pairs.length cb)], v3, [specRec (k : Nat) good (.slice pc good.pairs.length cc)]⟩)) has_17 rfl rfl rfl rfl rfl [] [0, 1, 2, 3, 4, 5] (by decide) rfl rfl (fun w hI => ⟨Inv.bytes (k := 3) rfl w hI, Inv.bytes (k := 0) rfl w hI⟩) ?_
        rintro _ _ ⟨rfl, rfl⟩
        refine ⟨fun w hI => hI.pick (is := [1, 2, 3, 4, 5]) (by decide) rfl, ?_⟩
        refine AnyJ.take (fuel := 0) (listed' := #[true, true, true, true, true, true]) 5 rfl (by kernel_rfl) (by kernel_rfl) (by kernel_rfl) rfl rfl rfl rfl (Yld.assign rfl rfl) (fun w hI => hI.pick (is := [1, 2, 3, 4, 5]) (by decide) rfl) ?_
        refine AnyJ.done (by kernel_rfl) ?_
        refine ExJ.thenN ?_
        refine CodeJ.ret ?_
        exact ExJ.ret1 Tryd.results20 rfl ⟨by simp [Kind.wire, hst.wire, Bd.fin, zero12, hd12, headWire], rfl⟩ fun w hI => hI.pick (is := []) (by decide) rfl
theorem refused_spec (K : Kind) (k : Nat) (hk : k ≤ 13) (hst : K.Stable k) (A : Adder) (f : FuncId) (hf : Has Tryd.prog f) (hb : BuildMeets A f) (G : GEnv) (h : Hd) (hw : h.wf) (bad good : RecD) (hgw : good.wf) (hbad : BadFor A bad) (hgood : K.recOk good = true → GoodFor K A good) (hone : ∀ pv, K.One k (specRec (k : Nat) good pv)) :
    Spec Tryd.prog 20 [.func (.func f) #[] #[], .int .i64 (k : Nat), .agg (hdCs h).toArray, .agg bad.cells.toArray, .agg good.cells.toArray] [] (fun w => GE G w [] ∧ RecOk w bad ∧ RecOk w good) (fun r H' => r = .bool true ∧ H' = []) :=
  refused_specG K k hk hst A f hf G (hb G) h hw bad good hgw hbad hgood hone
end Go.Proofs.YtamobccbioafmaaDoor

/-
  Plain laws: records that are added, and records that are refused.
-/
namespace Go.Proofs.YtamobccbioafmaaDoor
open Go
set_option maxRecDepth 100000

theorem rec_wire_eq (K : Kind) (x : RecD) (hlen : (K.body x).length < 65536) : wire x.name.data.toList ++ rh10 (K.typ x) x.cls x.ttl (K.body x).length ++ K.body x = K.recWire x := by
  simp [Kind.recWire, rh10, b4, Nat.mod_eq_of_lt hlen]
theorem good_for {K : Kind} {typ : RecD → Nat} {B : BodyPk} {pok : RecD → Prop} {x : RecD} (hwf : x.wf) (hok : nameOk x.name.data.toList = true) (ht : typ x = K.typ x) (hlen : (K.body x).length < 65536) (hpok : pok x) (hB : ∀ base m, B base false x m = .ok (K.body x) m) : GoodFor K (recAdder typ B pok) x := by
  intro b h3 h5 hc
  have hp : packN (b.buf.length - b.start) false (cut255 x.name) b.m = .ok (wire x.name.data.toList) b.m := by rw [cut_ok hok]; exact packN_wire _ _ _ hok
  refine ⟨⟨h3, h5, hc, by rw [cut_ok hok]; exact nameOk_pname hok, hwf, fun _ => ⟨hpok, fun base m zs m' h => ?_⟩⟩, ?_⟩
  · rw [hB] at h
    injection h with h1 h2
    subst h1
    exact hlen
  · show recF typ B x false b = _
    simp only [recF, hp, hB, ht]
    rw [← rec_wire_eq K x hlen]
    simp [List.append_assoc]
theorem bad_name {typ : RecD → Nat} {B : BodyPk} {pok : RecD → Prop} {x : RecD} (hwf : x.wf) (hl : longLabel x.name.data.toList = true) : BadFor (recAdder typ B pok) x := by
  intro b h3 h5 hc
  have hp : packN (b.buf.length - b.start) false (cut255 x.name) b.m = .err b.m := by rw [cut_long hl]; exact packN_long _ _ _ hl
  refine ⟨⟨h3, h5, hc, by rw [cut_long hl]; exact long_pname hl, hwf, fun ⟨ys, m, h⟩ => ?_⟩, ?_⟩
  · rw [hp] at h
    cases h
  · show recF typ B x false b = _
    simp only [recF, hp]
theorem bad_body {typ : RecD → Nat} {B : BodyPk} {pok : RecD → Prop} {x : RecD} (hwf : x.wf) (hok : nameOk x.name.data.toList = true) (hpok : pok x) (hB : ∀ base m, B base false x m = .err m) : BadFor (recAdder typ B pok) x := by
  intro b h3 h5 hc
  have hp : packN (b.buf.length - b.start) false (cut255 x.name) b.m = .ok (wire x.name.data.toList) b.m := by rw [cut_ok hok]; exact packN_wire _ _ _ hok
  refine ⟨⟨h3, h5, hc, by rw [cut_ok hok]; exact nameOk_pname hok, hwf, fun _ => ⟨hpok, fun base m zs m' h => ?_⟩⟩, ?_⟩
  · rw [hB] at h
    cases h
  · show recF typ B x false b = _
    simp only [recF, hp, hB]

theorem type_run (K : Kind) (A : Adder) (h : Hd) (x : RecD) (hgood : GoodFor K A x) (hl : (K.recWire x).length ≤ 70000) :
    RunOk A (stepsL false [] [[x]]) false (newB [] h) ∧ runF A (stepsL false [] [[x]]) false (newB [] h) = (⟨zero12 ++ K.recWire x, 0, 3, h.id, h.bits, 0, 1, 0, 0, []⟩, [0, 0, 0]) := by
  have hb0 := newB_ok h
  have hz : zero12.length = 12 := rfl
  let b2 : Bd := ⟨zero12, 0, 2, h.id, h.bits, 0, 0, 0, 0, []⟩
  let b3 : Bd := ⟨zero12, 0, 3, h.id, h.bits, 0, 0, 0, 0, []⟩
  let c3 : Bd := ⟨zero12 ++ K.recWire x, 0, 3, h.id, h.bits, 0, 1, 0, 0, []⟩
  have k2 : BdOk b2 := hb0.sec_ (k := 2) (by decide)
  have k3 : BdOk b3 := hb0.sec_ (k := 3) (by decide)
  have j3 : BdOk c3 := k3.more (K.recWire x) (by show zero12.length + _ ≤ _; omega)
  have hg := hgood b3 (Nat.le_of_ble_eq_true rfl) (Nat.le_of_ble_eq_true rfl) (by show (0 : Nat) < 65535; decide)
  have e1 : stepF A (mkStep 2) false (newB [] h) = (false, b2, 0) := rfl
  have e2 : stepF A (mkStep 3) false b2 = (false, b3, 0) := rfl
  have e4 : stepF A (recStep x) false b3 = (false, c3, 0) := by rw [step_rec, hg.2]; rfl
  have hs : stepsL false [] [[x]] = [mkStep 2, mkStep 3, recStep x] := rfl
  rw [hs]
  refine ⟨?_, ?_⟩
  · simp only [RunOk, e1, e2, e4]
    exact ⟨ok_mk _ 2 _ _ hb0 (Nat.le_of_ble_eq_true rfl) (by decide), ok_mk _ 3 _ _ k2 (Nat.le_of_ble_eq_true rfl) (by decide), ok_rec _ _ _ _ k3 hg.1, j3⟩
  · simp only [runF, e1, e2, e4]
    rfl
/-- with another type and another length -/
def RecD.other (r : RecD) (number : Nat) : RecD := { r with len := number, typ := number }
def RecD.longer (r : RecD) (number : Nat) : RecD := { r with len := number }
theorem other_wf {r : RecD} (h : r.wf) (number : Nat) (hn : number < 65536) : (r.other number).wf := ⟨hn, h.cls, h.ttl, hn, h.n1, h.n2, h.n3, h.n4, h.n5, h.name, h.host, h.box, h.data, h.texts, h.text, h.pairs, h.pair⟩
theorem longer_wf {r : RecD} (h : r.wf) (number : Nat) (hn : number < 65536) : (r.longer number).wf := ⟨h.typ, h.cls, h.ttl, hn, h.n1, h.n2, h.n3, h.n4, h.n5, h.name, h.host, h.box, h.data, h.texts, h.text, h.pairs, h.pair⟩
theorem other_ok {w : World} {r : RecD} (h : RecOk w r) (number : Nat) : RecOk w (r.other number) := ⟨h.data, h.texts, h.pairs, h.pdata⟩
theorem longer_ok {w : World} {r : RecD} (h : RecOk w r) (number : Nat) : RecOk w (r.longer number) := ⟨h.data, h.texts, h.pairs, h.pdata⟩
theorem SpecOf.zero {k : Int} {rs : List RecD} (h : SpecOf k [] rs) : rs = [] := h.nil
theorem host_pok {x : RecD} (h : nameOk x.host.data.toList = true) : PName (cut255 x.host) := by rw [cut_ok h]; exact nameOk_pname h
theorem specRec_fit {r : RecD} (h : RecFit r) (k : Int) (pv : Value) : RecFit (specRec k r pv) := ⟨h.host, h.box, h.data, h.texts, h.text, h.pairs, h.pair⟩
end Go.Proofs.YtamobccbioafmaaDoor
