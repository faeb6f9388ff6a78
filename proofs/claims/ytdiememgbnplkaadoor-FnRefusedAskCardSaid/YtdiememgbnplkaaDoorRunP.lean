/-
  What the steps of a builder do, in plain terms.
-/
import Derived.Test.YtdiememgbnplkaaDoorDnsJ
import Derived.Test.YtdiememgbnplkaaDoorMem6
namespace Go.Proofs.YtdiememgbnplkaaDoor
open Go

structure StepD where
  act : Nat
  ask : AskD
  rec_ : RecD
def StepD.cells (s : StepD) : List Value := [.int .i64 s.act, .string s.ask.name, .int .u16 s.ask.typ, .int .u16 s.ask.cls] ++ s.rec_.cells
theorem StepD.len (s : StepD) : s.cells.length = 20 := rfl

/-- what adds a record does: 'ok': when it is spoken of; 'eff': the builder behind it, and the fault -/
structure Adder where
  ok : RecD → Bool → Bd → Prop
  eff : RecD → Bool → Bd → Bd × Nat

/-- a question -/
def askF (a : AskD) (on : Bool) (b : Bd) : Bd × Nat :=
  if b.sec < 2 then (b, 1)
  else match packQ (b.buf.length - b.start) on (cut255 a.name) a.typ a.cls b.m with
    | .ok ys m' => ({ b with buf := b.buf ++ ys, q := b.q + 1, m := m' }, 0)
    | .err m' => ({ b with m := m' }, 3)
def stepF (A : Adder) (s : StepD) (on : Bool) (b : Bd) : Bool × Bd × Nat :=
  if s.act = 1 then (true, { b with m := [] }, 0)
  else if s.act = 2 then (on, { b with sec := 2 }, 0)
  else if s.act = 3 then (on, { b with sec := 3 }, 0)
  else if s.act = 4 then (on, { b with sec := 4 }, 0)
  else if s.act = 5 then (on, { b with sec := 5 }, 0)
  else if s.act = 6 then (on, askF s.ask on b)
  else if s.act = 7 then (on, A.eff s.rec_ on b)
  else (on, b, 0)

structure BdOk (b : Bd) : Prop where
  sec : 1 ≤ b.sec
  start : b.start + 12 ≤ b.buf.length
  big : b.buf.length ≤ 158329674399744 - 1024
  small : ∀ x ∈ b.m, x.2 < 65536
structure StepOk (A : Adder) (s : StepD) (on : Bool) (b : Bd) : Prop where
  bd : BdOk b
  sec : 2 ≤ s.act → s.act ≤ 5 → b.sec ≤ s.act
  ask : s.act = 6 → b.sec < 2 ∨ (b.sec = 2 ∧ b.q < 65535 ∧ PName (cut255 s.ask.name))
  rec_ : s.act = 7 → A.ok s.rec_ on b

def RunOk (A : Adder) : List StepD → Bool → Bd → Prop
  | [], _, b => BdOk b
  | s :: r, on, b => StepOk A s on b ∧ RunOk A r (stepF A s on b).1 (stepF A s on b).2.1
def runF (A : Adder) : List StepD → Bool → Bd → Bd × List Nat
  | [], _, b => (b, [])
  | s :: r, on, b => ((runF A r (stepF A s on b).1 (stepF A s on b).2.1).1, (stepF A s on b).2.2 :: (runF A r (stepF A s on b).1 (stepF A s on b).2.1).2)

/-- what an error says -/
def ErrIs (G : Nat → Addr) (y : Value) (f : Nat) : Prop :=
  (f = 0 ∧ y = .nilIface) ∨ (f = 1 ∧ y = .iface 147 (.pointer (some (G 0)))) ∨ (f = 3 ∧ ∃ a, y = .iface 137 (.pointer (some a)))
theorem faultOf_spec (G : Nat → Addr) (y : Value) (f : Nat) (h : ErrIs G y f) : Spec Tryd.prog 40 [y] [] (fun w => GE G w []) (fun r H' => r = .int .i64 f ∧ H' = []) := by
  rcases h with ⟨rfl, rfl⟩ | ⟨rfl, rfl⟩ | ⟨rfl, a, rfl⟩
  · exact faultOf_nil G
  · exact faultOf_early G
  · exact faultOf_nested G a

theorem question_spec (G : Nat → Addr) (a : AskD) (on : Bool) (b : Bd) (hb : BdOk b) (ha : b.sec < 2 ∨ (b.sec = 2 ∧ b.q < 65535 ∧ PName (cut255 a.name))) (bb : Nat) (p : Option Addr) (c : Nat) (r : Option Nat) (hr : r.isSome = on) :
    Spec Tryd.prog 45 [.pointer (some ⟨bb, 0, none⟩), .agg (questCs (cut255 a.name) a.typ a.cls).toArray] (bdR b bb p c r) (fun w => GE G w (fp (bdR b bb p c r)))
      (fun y H' => ErrIs G y (askF a on b).2 ∧ ∃ p' c', H' = bdR (askF a on b).1 bb p' c' r) := by
  subst hr
  rcases ha with ha | ⟨h2, hq, hn⟩
  · have e : askF a r.isSome b = (b, 1) := by simp [askF, ha]
    rw [e]
    exact (question_early G b _ a.typ a.cls bb p c r ha).mono (fun _ h => h) fun v H' ⟨h1, h2⟩ => ⟨.inr (.inl ⟨rfl, h1⟩), p, c, h2⟩
  · obtain ⟨buf, start, sec, id, bits, q, an, au, ad, m⟩ := b
    simp only at h2
    subst h2
    have hst := hb.start
    have hbig := hb.big
    simp only at hst hbig
    cases hp : packQ (buf.length - start) r.isSome (cut255 a.name) a.typ a.cls m with
    | ok ys m' =>
      have e : askF a r.isSome ⟨buf, start, 2, id, bits, q, an, au, ad, m⟩ = (⟨buf ++ ys, start, 2, id, bits, q + 1, an, au, ad, m'⟩, 0) := by simp [askF, hp]
      rw [e]
      exact (question_ok G buf start id bits q an au ad m _ hn a.typ a.cls bb p c r hq (by omega) hbig hb.small ys m' hp).mono (fun _ h => h) fun v H' ⟨h1, h2⟩ => ⟨.inl ⟨rfl, h1⟩, h2⟩
    | err m' =>
      have e : askF a r.isSome ⟨buf, start, 2, id, bits, q, an, au, ad, m⟩ = (⟨buf, start, 2, id, bits, q, an, au, ad, m'⟩, 3) := by simp [askF, hp]
      rw [e]
      exact (question_err G buf start id bits q an au ad m _ hn a.typ a.cls bb p c r (by omega) hbig hb.small m' hp).mono (fun _ h => h) fun v H' ⟨h1, h2⟩ => ⟨.inr (.inr ⟨rfl, h1⟩), p, c, h2⟩

def Adder.Meets (A : Adder) (f : FuncId) : Prop := ∀ (G : Nat → Addr) (x : RecD) (on : Bool) (b : Bd) (bb : Nat) (p : Option Addr) (c : Nat) (r : Option Nat), A.ok x on b → BdOk b → r.isSome = on →
  Spec Tryd.prog f [.pointer (some ⟨bb, 0, none⟩), .agg (rhCs (cut255 x.name) x.typ x.cls x.ttl x.len).toArray, .agg x.cells.toArray] (bdR b bb p c r)
    (fun w => GE G w (fp (bdR b bb p c r)) ∧ ∃ w1, RecOk w1 x ∧ Keep [] w1 w ∧ ∀ k ∈ fp (bdR b bb p c r), w1.heap.size ≤ k)
    (fun y H' => ErrIs G y (A.eff x on b).2 ∧ ∃ p' c', H' = bdR (A.eff x on b).1 bb p' c' r)

/-- no records -/
def noAdder : Adder := ⟨fun _ _ _ => True, fun _ _ b => (b, 0)⟩
end Go.Proofs.YtdiememgbnplkaaDoor
