/-
  Plain laws: a record whose body is never shortened stands as it is written without compression.
-/
import Derived.Test.YtamobccbioafmaaDoorHOwnP
namespace Go.Proofs.YtamobccbioafmaaDoor
open Go
set_option maxRecDepth 100000

/-- a record whose host is its own name -/
def RecD.ownH (r : RecD) : RecD := { r with host := r.name }
theorem ownH_wf {r : RecD} (h : r.wf) : r.ownH.wf := ⟨h.typ, h.cls, h.ttl, h.len, h.n1, h.n2, h.n3, h.n4, h.n5, h.name, h.name, h.box, h.data, h.texts, h.text, h.pairs, h.pair⟩
theorem whole_run {K : Kind} {BA : BodyAt} {typ : RecD → Nat} {B : BodyPk} {pok : RecD → Prop} (h : Hd) (x : RecD) (hx : RecShort K BA (recAdder typ B pok) x) (hn : nameOk x.name.data.toList = true) (ht : typ x = K.typ x) (hlen : (K.body x).length < 65536) (hb : ∀ base m, B base true x m = .ok (K.body x) m) :
    ∃ m', RunOk (recAdder typ B pok) (stepsL true [] [[x]]) false (newB [] h) ∧ runF (recAdder typ B pok) (stepsL true [] [[x]]) false (newB [] h) = (⟨zero12 ++ K.recWire x, 0, 3, h.id, h.bits, 0, 1, 0, 0, m'⟩, [0, 0, 0, 0]) := by
  have s0 := St.new h
  have s1 := s0.on
  have s2 := s1.to 2 (by decide)
  have s3 := s2.to 3 (by decide)
  obtain ⟨aok, ys, m1, e1, s4, a1, l1, l2⟩ := hx true _ [] s3 (Nat.le_of_ble_eq_true rfl) (Nat.le_of_ble_eq_true rfl) (by show (0 : Nat) < 65535; decide) (by simp)
  obtain ⟨m2, hp, _⟩ := packN_first 12 x.name.data.toList hn
  have e2 : recF typ B x true { { { newB [] h with m := [] } with sec := 2 } with sec := 3 } = (({ { { { newB [] h with m := [] } with sec := 2 } with sec := 3 } with buf := zero12 ++ wire x.name.data.toList ++ rh10 (K.typ x) x.cls x.ttl (K.body x).length ++ K.body x, m := m2 } : Bd).incr, 0) := by
    have hp' : packN (({ { { newB [] h with m := [] } with sec := 2 } with sec := 3 } : Bd).buf.length - ({ { { newB [] h with m := [] } with sec := 2 } with sec := 3 } : Bd).start) true (cut255 x.name) ({ { { newB [] h with m := [] } with sec := 2 } with sec := 3 } : Bd).m = .ok (wire x.name.data.toList) m2 := by
      rw [cut_ok hn]
      exact hp
    simp only [recF, hp', hb, ht]
    rfl
  have hy : ([] : List UInt8) ++ ys = K.recWire x := by
    have e3 := e1
    change recF typ B x true _ = _ at e3
    rw [e2] at e3
    have e4 : zero12 ++ wire x.name.data.toList ++ rh10 (K.typ x) x.cls x.ttl (K.body x).length ++ K.body x = zero12 ++ ([] ++ ys) := congrArg (fun p : Bd × Nat => p.1.buf) e3
    rw [List.append_assoc, List.append_assoc, List.append_right_inj, ← List.append_assoc, rec_wire_eq K x hlen] at e4
    exact e4.symm
  rw [hy] at e1 s4
  refine ⟨m1, ?_, ?_⟩
  · show RunOk _ [mkStep 1, mkStep 2, mkStep 3, recStep x] false (newB [] h)
    refine ⟨ok_on _ _ _ s0.ok, ok_mk _ 2 _ _ s1.ok (Nat.le_of_ble_eq_true rfl) (by decide), ok_mk _ 3 _ _ s2.ok (by show (2 : Nat) ≤ 3; decide) (by decide), ok_rec _ x true _ s3.ok aok, ?_⟩
    have := s4.ok
    show RunOk _ [] true ((recAdder typ B pok).eff x true { { { newB [] h with m := [] } with sec := 2 } with sec := 3 }).1
    rw [e1]
    exact this
  · show runF _ [mkStep 1, mkStep 2, mkStep 3, recStep x] false (newB [] h) = _
    rw [runF, step_on]
    simp only
    rw [runF, step_mk _ 2 true _ (by decide) (by decide)]
    simp only
    rw [runF, step_mk _ 3 true _ (by decide) (by decide)]
    simp only
    rw [runF, step_rec, e1]
    simp [runF, Bd.incr, newB]
end Go.Proofs.YtamobccbioafmaaDoor
