/-
  Plain laws: how names are packed; what the builder's steps give for questions.
-/
import Derived.Test.YtdiememgbnplkaaDoorSteps
import Derived.Test.YtdiememgbnplkaaDoorHead
namespace Go.Proofs.YtdiememgbnplkaaDoor
open Go

theorem nokNone : ∀ s : List UInt8, s.foldl nokStep none = none
  | [] => rfl
  | _ :: r => nokNone r
theorem pk_wire (base : Nat) (m : List (List UInt8 × Nat)) : ∀ (s lab ys : List UInt8), s.foldl nokStep (some lab.length) = some 0 → pk base false s lab ys m = .ok ((s.foldl wstep (ys, lab)).1 ++ [0]) m
  | [], lab, ys, _ => by simp [pk]
  | c :: r, lab, ys, h => by
    rw [pk]
    by_cases hc : c = 46
    · subst hc
      by_cases h0 : lab.length = 0 ∨ lab.length > 63
      · have e : nokStep (some lab.length) 46 = none := by simp only [nokStep, if_pos h0]; simp
        rw [List.foldl_cons, e, nokNone] at h
        cases h
      · have e : nokStep (some lab.length) 46 = some 0 := by simp only [nokStep, if_neg h0]; simp
        rw [List.foldl_cons, e] at h
        have ih := pk_wire base m r [] (ys ++ [UInt8.ofNat lab.length] ++ lab) h
        have e2 : wstep (ys, lab) 46 = (ys ++ [UInt8.ofNat lab.length] ++ lab, []) := by
          have : lab.length > 0 := by omega
          simp only [wstep, if_pos this]
          simp
        rw [if_pos rfl, if_neg (by omega), if_neg (by omega), ih, List.foldl_cons, e2]
    · have e : nokStep (some lab.length) c = some (lab ++ [c]).length := by simp [nokStep, hc]
      rw [List.foldl_cons, e] at h
      have ih := pk_wire base m r (lab ++ [c]) ys h
      have e2 : wstep (ys, lab) c = (ys, lab ++ [c]) := by simp [wstep, hc]
      rw [if_neg hc, if_neg (by simp), ih, List.foldl_cons, e2]
theorem pk_ok (base : Nat) (on : Bool) : ∀ (s lab ys : List UInt8) (m : List (List UInt8 × Nat)), s.foldl nokStep (some lab.length) = some 0 → ∃ zs m', pk base on s lab ys m = .ok zs m'
  | [], lab, ys, m, _ => ⟨_, _, by rw [pk]⟩
  | c :: r, lab, ys, m, h => by
    rw [pk]
    by_cases hc : c = 46
    · subst hc
      by_cases h0 : lab.length = 0 ∨ lab.length > 63
      · have e : nokStep (some lab.length) 46 = none := by simp only [nokStep, if_pos h0]; simp
        rw [List.foldl_cons, e, nokNone] at h
        cases h
      · have e : nokStep (some lab.length) 46 = some 0 := by simp only [nokStep, if_neg h0]; simp
        rw [List.foldl_cons, e] at h
        rw [if_pos rfl, if_neg (by omega), if_neg (by omega)]
        exact pk_ok base on r [] _ m h
    · have e : nokStep (some lab.length) c = some (lab ++ [c]).length := by simp [nokStep, hc]
      rw [List.foldl_cons, e] at h
      rw [if_neg hc]
      split
      · split
        · exact ⟨_, _, rfl⟩
        · split
          · exact pk_ok base on r _ _ _ h
          · exact pk_ok base on r _ _ _ h
      · exact pk_ok base on r _ _ _ h
theorem pk_long (base : Nat) (m : List (List UInt8 × Nat)) : ∀ (s lab ys : List UInt8), s.foldl llStep (lab.length, decide (lab.length > 63)) = (0, true) → pk base false s lab ys m = .err m
  | [], lab, ys, h => by
    simp only [List.foldl_nil, Prod.mk.injEq, decide_eq_true_eq] at h
    omega
  | c :: r, lab, ys, h => by
    rw [pk]
    by_cases hc : c = 46
    · subst hc
      rw [if_pos rfl]
      by_cases h1 : lab.length ≥ 64
      · rw [if_pos h1]
      · rw [if_neg h1]
        by_cases h0 : lab.length = 0
        · rw [if_pos h0]
        · rw [if_neg h0]
          refine pk_long base m r [] _ ?_
          have e : llStep (lab.length, decide (lab.length > 63)) 46 = (0, false) := by
            have : ¬ lab.length > 63 := by omega
            simp [llStep, this]
          rw [List.foldl_cons, e] at h
          exact h
    · rw [if_neg hc, if_neg (by simp)]
      refine pk_long base m r _ _ ?_
      have e : llStep (lab.length, decide (lab.length > 63)) c = ((lab ++ [c]).length, decide ((lab ++ [c]).length > 63)) := by
        simp only [llStep, if_neg hc, List.length_append, List.length_singleton, Prod.mk.injEq, true_and]
        rw [Bool.eq_iff_iff]
        simp
        omega
      rw [List.foldl_cons, e] at h
      exact h

theorem nok_last (s : List UInt8) (h : nok s = some 0) (hl : 1 ≤ s.length) : s[s.length - 1]? = some 46 := by
  obtain ⟨t, c, rfl⟩ : ∃ t c, s = t ++ [c] := ⟨s.dropLast, s.getLast (by intro e; simp [e] at hl), (List.dropLast_concat_getLast _).symm⟩
  rw [nok_snoc] at h
  have hc : c = 46 := by
    cases hn : nok t with
    | none => rw [hn] at h; simp [nokStep] at h
    | some n =>
      rw [hn] at h
      by_cases hc : c = 46
      · exact hc
      · simp [nokStep, hc] at h
  subst hc
  simp
theorem ll_last (s : List UInt8) (h : (ll s).1 = 0) (hl : 1 ≤ s.length) : s[s.length - 1]? = some 46 := by
  obtain ⟨t, c, rfl⟩ : ∃ t c, s = t ++ [c] := ⟨s.dropLast, s.getLast (by intro e; simp [e] at hl), (List.dropLast_concat_getLast _).symm⟩
  rw [ll_snoc] at h
  have hc : c = 46 := by
    by_cases hc : c = 46
    · exact hc
    · simp [llStep, hc] at h
  subst hc
  simp
theorem nameOk_pname {l : List UInt8} (h : nameOk l = true) : PName l := by
  simp only [nameOk, Bool.or_eq_true, Bool.and_eq_true, decide_eq_true_eq] at h
  rcases h with h | ⟨⟨h1, h2⟩, h3⟩
  · have e : l = [46] := by simpa using h
    subst e
    exact ⟨by simp, by simp, by simp⟩
  · exact ⟨by omega, h3, nok_last l (by simpa using h1) (by omega)⟩
theorem long_pname {l : List UInt8} (h : longLabel l = true) : PName l := by
  simp only [longLabel, Bool.and_eq_true, decide_eq_true_eq] at h
  obtain ⟨⟨h1, h2⟩, h3⟩ := h
  have hl : 1 ≤ l.length := by
    cases l with
    | nil => simp [ll] at h1
    | cons c r => simp
  exact ⟨hl, h3, ll_last l (by simpa using h2) hl⟩
theorem cut255_id {s : ByteArray} (h : s.data.toList.length ≤ 255) : cut255 s = s.data.toList := List.take_of_length_le h
theorem cut_ok {s : ByteArray} (h : nameOk s.data.toList = true) : cut255 s = s.data.toList := cut255_id (Nat.le_trans (nameOk_pname h).le (by decide))
theorem cut_long {s : ByteArray} (h : longLabel s.data.toList = true) : cut255 s = s.data.toList := cut255_id (Nat.le_trans (long_pname h).le (by decide))
theorem packN_wire (base : Nat) (l : List UInt8) (m : List (List UInt8 × Nat)) (h : nameOk l = true) : packN base false l m = .ok (wire l) m := by
  unfold packN
  split
  · next e => subst e; rfl
  · next e =>
    simp only [nameOk, Bool.or_eq_true, Bool.and_eq_true, decide_eq_true_eq] at h
    rcases h with h | ⟨⟨h1, h2⟩, h3⟩
    · exact absurd (by simpa using h) e
    · exact pk_wire base m l [] [] (by simpa [nok] using h1)
theorem packN_ok (base : Nat) (on : Bool) (l : List UInt8) (m : List (List UInt8 × Nat)) (h : nameOk l = true) : ∃ zs m', packN base on l m = .ok zs m' := by
  unfold packN
  split
  · exact ⟨_, _, rfl⟩
  · next e =>
    simp only [nameOk, Bool.or_eq_true, Bool.and_eq_true, decide_eq_true_eq] at h
    rcases h with h | ⟨⟨h1, h2⟩, h3⟩
    · exact absurd (by simpa using h) e
    · exact pk_ok base on l [] [] m (by simpa [nok] using h1)
theorem packN_long (base : Nat) (l : List UInt8) (m : List (List UInt8 × Nat)) (h : longLabel l = true) : packN base false l m = .err m := by
  unfold packN
  split
  · next e => subst e; simp [longLabel, ll, llStep] at h
  · simp only [longLabel, Bool.and_eq_true, decide_eq_true_eq] at h
    obtain ⟨⟨h1, h2⟩, h3⟩ := h
    refine pk_long base m l [] [] ?_
    have : ll l = (0, true) := by
      have h2 : (ll l).1 = 0 := by simpa using h2
      exact Prod.ext h2 h1
    simpa [ll] using this
theorem packN_le (base : Nat) (on : Bool) (l : List UInt8) (m : List (List UInt8 × Nat)) (zs : List UInt8) (m' : List (List UInt8 × Nat)) (hl : l.length ≤ 254) (h : packN base on l m = .ok zs m') : zs.length ≤ 520 := by
  unfold packN at h
  split at h
  · injection h with h1 h2
    subst h1
    simp
  · have := pk_len base on l [] [] m zs m' h
    simp at this
    omega
theorem packN_tab (base : Nat) (on : Bool) (l : List UInt8) (m : List (List UInt8 × Nat)) (zs : List UInt8) (m' : List (List UInt8 × Nat)) (hs : ∀ x ∈ m, x.2 < 65536) (h : packN base on l m = .ok zs m') : ∀ x ∈ m', x.2 < 65536 := by
  unfold packN at h
  split at h
  · injection h with h1 h2
    subst h2
    exact hs
  · have := pk_small base on l [] [] m hs
    rw [h] at this
    exact this

/-! ### steps -/
theorem step_mk (A : Adder) (k : Nat) (on : Bool) (b : Bd) (h1 : 2 ≤ k) (h2 : k ≤ 5) : stepF A (mkStep k) on b = (on, { b with sec := k }, 0) := by
  rcases (by omega : k = 2 ∨ k = 3 ∨ k = 4 ∨ k = 5) with rfl | rfl | rfl | rfl <;> rfl
theorem step_on (A : Adder) (on : Bool) (b : Bd) : stepF A (mkStep 1) on b = (true, { b with m := [] }, 0) := rfl
theorem step_ask (A : Adder) (a : AskD) (on : Bool) (b : Bd) : stepF A (askStep a) on b = (on, askF a on b) := rfl
theorem ok_mk (A : Adder) (k : Nat) (on : Bool) (b : Bd) (hb : BdOk b) (h1 : b.sec ≤ k) (h2 : k ≤ 5) : StepOk A (mkStep k) on b :=
  ⟨hb, fun _ _ => h1, fun h => (by simp [mkStep] at h; omega), fun h => (by simp [mkStep] at h; omega)⟩
theorem ok_on (A : Adder) (on : Bool) (b : Bd) (hb : BdOk b) : StepOk A (mkStep 1) on b :=
  ⟨hb, fun h _ => (by simp [mkStep] at h), fun h => (by simp [mkStep] at h), fun h => (by simp [mkStep] at h)⟩
theorem ok_ask (A : Adder) (a : AskD) (on : Bool) (b : Bd) (hb : BdOk b) (h : b.sec < 2 ∨ (b.sec = 2 ∧ b.q < 65535 ∧ PName (cut255 a.name))) : StepOk A (askStep a) on b :=
  ⟨hb, fun _ h => (by simp [askStep] at h), fun _ => h, fun h => (by simp [askStep] at h)⟩
theorem BdOk.sec_ {b : Bd} (h : BdOk b) {k : Nat} (hk : 1 ≤ k) : BdOk { b with sec := k } := ⟨hk, h.start, h.big, h.small⟩
theorem BdOk.off {b : Bd} (h : BdOk b) : BdOk { b with m := [] } := ⟨h.sec, h.start, h.big, fun x hx => by cases hx⟩

theorem askF_ok {a : AskD} {on : Bool} {b : Bd} (h2 : b.sec = 2) (hn : nameOk a.name.data.toList = true) : ∃ ys m', askF a on b = ({ b with buf := b.buf ++ ys, q := b.q + 1, m := m' }, 0) ∧ ys.length ≤ 600 ∧ ((∀ x ∈ b.m, x.2 < 65536) → ∀ x ∈ m', x.2 < 65536) ∧ (on = false → ys = askWire a ∧ m' = b.m) := by
  obtain ⟨zs, m', hp⟩ := packN_ok (b.buf.length - b.start) on a.name.data.toList b.m hn
  refine ⟨zs ++ be16 a.typ ++ be16 a.cls, m', ?_, ?_, ?_, ?_⟩
  · rw [askF, if_neg (by omega), packQ, cut_ok hn, hp]
  · have := packN_le _ _ _ _ _ _ (nameOk_pname hn).le hp
    simp only [List.length_append, be16_len]
    omega
  · intro hs
    exact packN_tab _ _ _ _ _ _ hs hp
  · intro hon
    subst hon
    rw [packN_wire _ _ _ hn] at hp
    injection hp with h1 h2
    subst h1 h2
    exact ⟨rfl, rfl⟩

/-- the questions, one behind the other; ts: what is done behind them -/
theorem asks_run (A : Adder) (on : Bool) (ts : List StepD) : ∀ (qs : List AskD) (b : Bd), (∀ a ∈ qs, nameOk a.name.data.toList = true) → b.sec = 2 → BdOk b → b.q + qs.length ≤ 65535 → b.buf.length + 600 * qs.length ≤ 158329674399744 - 1024 →
    ∃ ys m', BdOk { b with buf := b.buf ++ ys, q := b.q + qs.length, m := m' } ∧ (on = false → ys = (qs.map askWire).flatten ∧ m' = b.m) ∧ ys.length ≤ 600 * qs.length ∧
      (RunOk A ts on { b with buf := b.buf ++ ys, q := b.q + qs.length, m := m' } → RunOk A (qs.map askStep ++ ts) on b) ∧
      runF A (qs.map askStep ++ ts) on b = ((runF A ts on { b with buf := b.buf ++ ys, q := b.q + qs.length, m := m' }).1, List.replicate qs.length 0 ++ (runF A ts on { b with buf := b.buf ++ ys, q := b.q + qs.length, m := m' }).2)
  | [], b, _, _, hb, _, _ => ⟨[], b.m, by simpa using hb, fun _ => ⟨rfl, rfl⟩, by simp, by simp, by simp⟩
  | a :: r, b, hn, h2, hb, hq, hl => by
    simp only [List.length_cons] at hq hl
    obtain ⟨ys, m', e, hy, hm, hw⟩ := askF_ok (on := on) h2 (hn a (by simp))
    have hb1 : BdOk { b with buf := b.buf ++ ys, q := b.q + 1, m := m' } := ⟨hb.sec, by simp; have := hb.start; omega, by simp; omega, hm hb.small⟩
    obtain ⟨zs, m2, hb2, hw2, hz, hr, hf⟩ := asks_run A on ts r { b with buf := b.buf ++ ys, q := b.q + 1, m := m' } (fun x hx => hn x (by simp [hx])) h2 hb1 (by simp; omega) (by simp; omega)
    have e2 : ({ b with buf := b.buf ++ ys ++ zs, q := b.q + 1 + r.length, m := m2 } : Bd) = { b with buf := b.buf ++ (ys ++ zs), q := b.q + (a :: r).length, m := m2 } := by
      rw [List.append_assoc, List.length_cons, show b.q + 1 + r.length = b.q + (r.length + 1) by omega]
    simp only at hb2 hr hf
    rw [e2] at hb2 hr hf
    refine ⟨ys ++ zs, m2, hb2, ?_, ?_, ?_, ?_⟩
    · intro hon
      obtain ⟨h3, h4⟩ := hw hon
      obtain ⟨h5, h6⟩ := hw2 hon
      exact ⟨by rw [h3, h5]; simp, by rw [h6, h4]⟩
    · simp only [List.length_append, List.length_cons]
      omega
    · intro h
      rw [List.map_cons, List.cons_append, RunOk, step_ask, e]
      exact ⟨ok_ask A a on b hb (.inr ⟨h2, by omega, by rw [cut_ok (hn a (by simp))]; exact nameOk_pname (hn a (by simp))⟩), hr h⟩
    · rw [List.map_cons, List.cons_append, runF, step_ask, e]
      simp only [hf]
      simp [List.replicate_succ]
end Go.Proofs.YtdiememgbnplkaaDoor
