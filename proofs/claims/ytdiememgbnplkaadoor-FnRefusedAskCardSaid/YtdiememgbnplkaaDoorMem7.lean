/-
  Owned slices of structs, and resources that are only read from now on.
-/
import Derived.Test.YtdiememgbnplkaaDoorMem6
namespace Go.Proofs.YtdiememgbnplkaaDoor
open Go
section
variable {P : Program} {Q : Exit → Act → World → Prop} {n : Nat} {w0 : World} {S : List Nat} {o : Oper} {L : List (Nat × Value)} {H : List Res} {M : List (Nat × Value) → List Res → Prop} {I : World → Prop}

/-- an owned slice whose elements are told by α -/
def ownL {α : Type} (T : TypeId) (sz : Nat) (cells : α → List Value) (v : Value) (xs : List α) : Res := own T sz v xs.length (xs.map cells).flatten

theorem OpJ.appendL {α : Type} {cells : α → List Value} {t T tx : TypeId} {sz bytes : Nat} {z : Value} {d i : Nat} {x y : Operand} {v u : Value} {xs : List α} {news : α} (he : Elt P t T sz bytes z) (ho : o.op = .call ⟨.builtin .append, #[x, y], #[t, tx]⟩) (hd : o.dst = some d) (hn : d.blt n = true)
    (hx : ev L x = some v) (hy : ev L y = some u) (hi : H[i]? = some (ownL T sz cells v xs)) (hsrc : ∀ w, Inv w0 S H w → Src P sz tx u 1 (cells news) w) (hroom : (xs.length + 1) * bytes ≤ 175921860444160 ∧ xs.length + 1 ≤ 9223372036854775807)
    (h : ∀ p c, M ((d, .slice p (xs ++ [news]).length c) :: L) (H.set i (ownL T sz cells (.slice p (xs ++ [news]).length c) (xs ++ [news])))) : OpJ P Q n w0 S o L H M :=
  OpJ.appendOwn he ho hd hn hx hy hi hsrc hroom.1 hroom.2 fun p c => by
    have e1 : (xs ++ [news]).length = xs.length + 1 := by simp
    have e2 : ((xs ++ [news]).map cells).flatten = (xs.map cells).flatten ++ cells news := by simp
    have := h p c
    unfold ownL at this
    rw [e1, e2] at this
    exact this

theorem ownL.row {α : Type} {T sz : Nat} {cells : α → List Value} {v : Value} {xs : List α} {w : World} (h : (ownL T sz cells v xs).holds w) : Own w T sz v xs.length (xs.map cells).flatten := h.1

/-- two resources as one, to be read -/
def Res.join (r s : Res) : Res := .ro (fun w => r.holds w ∧ s.holds w) (r.ats ++ s.ats) fun _ _ h hp => ⟨Res.congr hp.1 fun b hb => h b (by simp [hb]), Res.congr hp.2 fun b hb => h b (by simp [hb])⟩

theorem Inv.join {w : World} {r s : Res} (h : Inv w0 S (r :: s :: H) w) : Inv w0 S (Res.join r s :: H) w := by
  have hp := List.pairwise_cons.1 h.dj
  have hp2 := List.pairwise_cons.1 hp.2
  refine ⟨h.keep, ?_, ?_, ?_⟩
  · intro x hx
    rcases List.mem_cons.1 hx with rfl | hx
    · refine ⟨⟨h.hs r (by simp), h.hs s (by simp)⟩, fun b hb => ?_⟩
      rcases List.mem_append.1 hb with hb | hb
      · exact h.lt r (by simp) b hb
      · exact h.lt s (by simp) b hb
    · exact h.hs x (by simp [hx])
  · refine List.pairwise_cons.2 ⟨fun x hx b hb => ?_, hp2.2⟩
    rcases List.mem_append.1 hb with hb | hb
    · exact hp.1 x (by simp [hx]) b hb
    · exact hp2.1 x hx b hb
  · intro x hx b hb
    rcases List.mem_cons.1 hx with rfl | hx
    · rcases List.mem_append.1 hb with hb | hb
      · exact h.rng r (by simp) b hb
      · exact h.rng s (by simp) b hb
    · exact h.rng x (by simp [hx]) b hb

theorem Inv.roMono {w : World} {p q : World → Prop} {bs : List Nat} {hp : ∀ w w' : World, (∀ b ∈ bs, w'.heap[b]? = w.heap[b]?) → p w → p w'} {hq : ∀ w w' : World, (∀ b ∈ bs, w'.heap[b]? = w.heap[b]?) → q w → q w'}
    (h : Inv w0 S (.ro p bs hp :: H) w) (hpq : ∀ w, p w → q w) : Inv w0 S (.ro q bs hq :: H) w := by
  refine ⟨h.keep, ?_, ?_, ?_⟩
  · intro x hx
    rcases List.mem_cons.1 hx with rfl | hx
    · have := h.hs _ (List.mem_cons_self ..)
      exact ⟨hpq w this.1, this.2⟩
    · exact h.hs x (by simp [hx])
  · have hp := List.pairwise_cons.1 h.dj
    exact List.pairwise_cons.2 ⟨fun x hx b hb => hp.1 x hx b hb, hp.2⟩
  · intro x hx b hb
    rcases List.mem_cons.1 hx with rfl | hx
    · exact h.rng _ (List.mem_cons_self ..) b hb
    · exact h.rng x (by simp [hx]) b hb

theorem Inv.roGet {w : World} {p : World → Prop} {bs : List Nat} {hp : ∀ w w' : World, (∀ b ∈ bs, w'.heap[b]? = w.heap[b]?) → p w → p w'} (h : Inv w0 S H w) {i : Nat} (hi : H[i]? = some (.ro p bs hp)) : p w := (h.hs _ (List.mem_of_getElem? hi)).1

/-- a resource that holds nothing -/
theorem Inv.roNil {w : World} (h : Inv w0 S H w) {p : World → Prop} (hp : ∀ w, p w) : Inv w0 S (.ro p [] (fun _ _ _ _ => hp _) :: H) w := by
  refine ⟨h.keep, ?_, List.pairwise_cons.2 ⟨fun _ _ b hb => (by cases hb), h.dj⟩, ?_⟩
  · intro x hx
    rcases List.mem_cons.1 hx with rfl | hx
    · exact ⟨hp w, fun b hb => by cases hb⟩
    · exact h.hs x hx
  · intro x hx b hb
    rcases List.mem_cons.1 hx with rfl | hx
    · cases hb
    · exact h.rng x hx b hb
end
end Go.Proofs.YtdiememgbnplkaaDoor
