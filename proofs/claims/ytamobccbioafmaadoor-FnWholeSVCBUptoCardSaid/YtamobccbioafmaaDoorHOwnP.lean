/-
  Plain laws: a record that tells its own name again.
-/
import Derived.Test.YtamobccbioafmaaDoorBh
namespace Go.Proofs.YtamobccbioafmaaDoor
open Go
set_option maxRecDepth 100000

/-- a record whose data tell its own name -/
def RecD.own (r : RecD) : RecD := { r with host := r.name, box := r.name }
theorem own_wf {r : RecD} (h : r.wf) : r.own.wf := ⟨h.typ, h.cls, h.ttl, h.len, h.n1, h.n2, h.n3, h.n4, h.n5, h.name, h.name, h.name, h.data, h.texts, h.text, h.pairs, h.pair⟩
/-- its body is shorter, where its name is in the table -/
structure OwnShort (K : Kind) (typ : RecD → Nat) (B : BodyPk) (pok : RecD → Prop) (A : Adder) (x : RecD) : Prop where
  adder : A = recAdder typ B pok
  name : nameOk x.name.data.toList = true
  long : 1 < x.name.data.toList.length
  typ_ : typ x = K.typ x
  body : ∀ base m p, m.lookup x.name.data.toList = some p → ∃ zs m', B base true x m = .ok zs m' ∧ zs.length < (K.body x).length

theorem own_short {K : Kind} {BA : BodyAt} (_hg : BA.Grows) {typ : RecD → Nat} {B : BodyPk} {pok : RecD → Prop} (A : Adder) (h : Hd) (x : RecD) (hx : RecShort K BA A x) (ho : OwnShort K typ B pok A x) :
    ∃ t m', RecsAt K BA t 12 (12 + t.length) [x] ∧ t.length < (K.recWire x).length ∧ t.length ≤ 70000 ∧ RunOk A (stepsL true [] [[x]]) false (newB [] h) ∧ runF A (stepsL true [] [[x]]) false (newB [] h) = (⟨zero12 ++ t, 0, 3, h.id, h.bits, 0, 1, 0, 0, m'⟩, [0, 0, 0, 0]) := by
  have s0 := St.new h
  have s1 := s0.on
  have s2 := s1.to 2 (by decide)
  have s3 := s2.to 3 (by decide)
  obtain ⟨aok, ys, m1, e1, s4, a1, l1, l2⟩ := hx true _ [] s3 (Nat.le_of_ble_eq_true rfl) (Nat.le_of_ble_eq_true rfl) (by show (0 : Nat) < 65535; decide) (by simp)
  obtain ⟨rfl, hn, hl, ht, hb⟩ := ho
  obtain ⟨m2, hp, hlk⟩ := packN_first 12 x.name.data.toList hn
  obtain ⟨zs, m3, hz, hzl⟩ := hb (12 + (wire x.name.data.toList).length + 10) m2 12 (hlk hl (by decide))
  have hlen : ys.length < (K.recWire x).length := by
    have e2 : recF typ B x true { { { newB [] h with m := [] } with sec := 2 } with sec := 3 } = (({ { { { newB [] h with m := [] } with sec := 2 } with sec := 3 } with buf := zero12 ++ wire x.name.data.toList ++ rh10 (K.typ x) x.cls x.ttl zs.length ++ zs, m := m3 } : Bd).incr, 0) := by
      have hrel : (zero12.length - ([] : List UInt8).length) = 12 := rfl
      have hp' : packN (({ { { newB [] h with m := [] } with sec := 2 } with sec := 3 } : Bd).buf.length - ({ { { newB [] h with m := [] } with sec := 2 } with sec := 3 } : Bd).start) true (cut255 x.name) ({ { { newB [] h with m := [] } with sec := 2 } with sec := 3 } : Bd).m = .ok (wire x.name.data.toList) m2 := by
        rw [cut_ok hn]
        exact hp
      have hz' : B (({ { { newB [] h with m := [] } with sec := 2 } with sec := 3 } : Bd).rel + (wire x.name.data.toList).length + 10) true x m2 = .ok zs m3 := hz
      simp only [recF, hp', hz', ht]
      rfl
    have e3 := e1
    change recF typ B x true _ = _ at e3
    rw [e2] at e3
    have e4 : zero12 ++ wire x.name.data.toList ++ rh10 (K.typ x) x.cls x.ttl zs.length ++ zs = zero12 ++ ([] ++ ys) := congrArg (fun p : Bd × Nat => p.1.buf) e3
    have e5 := congrArg List.length e4
    simp only [List.length_append, rh10_len, List.length_nil] at e5
    simp only [Kind.recWire, List.length_append, be16_len]
    omega
  refine ⟨ys, m1, ?_, hlen, l2, ?_, ?_⟩
  · have := a1
    simp only [List.nil_append, List.length_nil, Nat.add_zero] at this
    exact ⟨12 + ys.length, this, rfl⟩
  · show RunOk _ [mkStep 1, mkStep 2, mkStep 3, recStep x] false (newB [] h)
    refine ⟨ok_on _ _ _ s0.ok, ok_mk _ 2 _ _ s1.ok (Nat.le_of_ble_eq_true rfl) (by decide), ok_mk _ 3 _ _ s2.ok (by show (2 : Nat) ≤ 3; decide) (by decide), ok_rec _ x true _ s3.ok aok, ?_⟩
    have := s4.ok
    show RunOk _ [] true ((recAdder typ B pok).eff x true { { { newB [] h with m := [] } with sec := 2 } with sec := 3 }).1
    rw [e1]
    exact this
  · show runF _ [mkStep 1, mkStep 2, mkStep 3, recStep x] false (newB [] h) = _
    rw [runF, step_on]
    simp only
    rw [runF, step_mk _ 2 true _ (by decide) (by decide)]
    simp only
    rw [runF, step_mk _ 3 true _ (by decide) (by decide)]
    simp only
    rw [runF, step_rec, e1]
    simp [runF, Bd.incr, newB]
theorem fin_own (h : Hd) (t : List UInt8) (m : List (List UInt8 × Nat)) : (⟨zero12 ++ t, 0, 3, h.id, h.bits, 0, 1, 0, 0, m⟩ : Bd).fin = headWire h [0, 1, 0, 0] ++ t := by
  simp [Bd.fin, zero12, hd12, headWire]
end Go.Proofs.YtamobccbioafmaaDoor
