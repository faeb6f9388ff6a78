/-
  Regions that draw their order: quiet operations are taken first.
-/
import Derived.Test.YtdiememgbnplkaaDoorMem2
namespace Go.Proofs.YtdiememgbnplkaaDoor
open Go

def NP (Q : Exit → Act → World → Prop) : Exit → Act → World → Prop
  | .panic _, _, _ => False
  | e, a, w => Q e a w
theorem NP.imp {Q : Exit → Act → World → Prop} : ∀ (e : Exit) (a : Act) (w : World), NP Q e a w → Q e a w := fun e _ _ h => by
  cases e <;> first | exact h | exact (h : False).elim

section
variable {P : Program} {ops : Array Oper} {Q : Exit → Act → World → Prop} {n : Nat} {w0 : World} {S : List Nat} {o : Oper} {L : List (Nat × Value)} {H Hk : List Res} {fuel : Nat} {listed listed' : Array Bool}

def AnyJ (P : Program) (ops : Array Oper) (Q : Exit → Act → World → Prop) (n : Nat) (w0 : World) (S : List Nat) (Hk : List Res) (fuel : Nat) (listed : Array Bool) (L : List (Nat × Value)) (H : List Res) : Prop :=
  ∀ a w, E n a L → Inv w0 S H w → wpAnyH P .any ops (NP Q) (fun w => Inv w0 S Hk w) fuel listed a w

theorem CodeJ.any {id : Nat} (is : List Nat) (_hp : Proofs.YtdiememgbnplkaaDoor.pick H is = some Hk) (hm : P.follows .mixedOrders = true) (hf : ops.size = fuel) (hl : Array.replicate fuel false = listed) (h : AnyJ P ops Q n w0 S Hk fuel listed L H) : CodeJ P Q n w0 S (.region id ops true) L H :=
  fun a w hE hI => by
    refine wp_mono (wp_region_held (S := fun w => Inv w0 S Hk w) (Q := NP Q) hm ?_) NP.imp
    rw [hf, hl]
    exact h a w.drew hE hI.drew

theorem AnyJ.take {d : Nat} {v : Value} (i : Nat) (hi : ops[i]? = some o) (hs : Region.noSelect ops = true) (hf : Region.free .any ops listed i = true) (hr : (Region.ready .any ops listed).contains i = true) (hl : listed.setIfInBounds i true = listed')
    (hg : o.guard = none) (hd : o.dst = some d) (hn : d.blt n = true) (hy : Yld P o n L (Inv w0 S Hk) v) (hk : ∀ w, Inv w0 S H w → Inv w0 S Hk w) (h : AnyJ P ops Q n w0 S Hk fuel listed' ((d, v) :: L) H) : AnyJ P ops Q n w0 S Hk (fuel + 1) listed L H :=
  fun a w hE hI => by
    refine wpAnyH_take (v := v) hi hs hf hr (fun _ _ _ h => h) (.inl ⟨by simp [Region.wanted, hg], fun w hw => hy a w hE hw⟩) (hk w hI) ?_
    rw [hl, hd]
    exact h _ _ (hE.put hn) hI

theorem AnyJ.takeT {d j s : Nat} {b : Bool} {v : Value} (i : Nat) (hi : ops[i]? = some o) (hs : Region.noSelect ops = true) (hf : Region.free .any ops listed i = true) (hr : (Region.ready .any ops listed).contains i = true) (hl : listed.setIfInBounds i true = listed')
    (hg : o.guard = some (j, b)) (hj : (ops[j]?).bind (·.dst) = some s) (hv : L.lookup s = some (.bool b)) (hd : o.dst = some d) (hn : d.blt n = true) (hy : Yld P o n L (Inv w0 S Hk) v) (hk : ∀ w, Inv w0 S H w → Inv w0 S Hk w) (h : AnyJ P ops Q n w0 S Hk fuel listed' ((d, v) :: L) H) : AnyJ P ops Q n w0 S Hk (fuel + 1) listed L H :=
  fun a w hE hI => by
    have hyl := yielded_of (ops := ops) hE hj hv
    refine wpAnyH_take (v := v) hi hs hf hr (fun _ _ _ h => h) (.inl ⟨by simp [Region.wanted, hg, hyl], fun w hw => hy a w hE hw⟩) (hk w hI) ?_
    rw [hl, hd]
    exact h _ _ (hE.put hn) hI

theorem AnyJ.takeF {d j s : Nat} {b : Bool} {u : Value} (i : Nat) (hi : ops[i]? = some o) (hs : Region.noSelect ops = true) (hf : Region.free .any ops listed i = true) (hr : (Region.ready .any ops listed).contains i = true) (hl : listed.setIfInBounds i true = listed')
    (hg : o.guard = some (j, b)) (hj : (ops[j]?).bind (·.dst) = some s) (hv : L.lookup s = some u) (hb : notB b u = true) (hd : o.dst = some d) (hn : d.blt n = true) (hk : ∀ w, Inv w0 S H w → Inv w0 S Hk w) (h : AnyJ P ops Q n w0 S Hk fuel listed' ((d, undef) :: L) H) : AnyJ P ops Q n w0 S Hk (fuel + 1) listed L H :=
  fun a w hE hI => by
    have hyl := yielded_of (ops := ops) hE hj hv
    have hw : Region.wanted o (yielded ops a.tmps) = false := by
      simp only [Region.wanted, hg, hyl]
      cases u <;> simp_all [notB]
    refine wpAnyH_take (v := undef) hi hs hf hr (fun _ _ _ h => h) (.inr ⟨hw, rfl⟩) (hk w hI) ?_
    rw [hl, hd]
    exact h _ _ (hE.put hn) hI

theorem AnyJ.splitB {s : Nat} {c : Bool} (hs : L.lookup s = some (.bool c)) (ht : c = true → AnyJ P ops Q n w0 S Hk fuel listed ((s, .bool true) :: L) H) (hf : c = false → AnyJ P ops Q n w0 S Hk fuel listed ((s, .bool false) :: L) H) : AnyJ P ops Q n w0 S Hk fuel listed L H :=
  fun a w hE hI => by
    cases h : c with
    | true => exact ht h a w (hE.bool hs h) hI
    | false => exact hf h a w (hE.bool hs h) hI
theorem AnyJ.splitP {s : Nat} {p : Prop} [Decidable p] (hs : L.lookup s = some (.bool (decide p))) (ht : p → AnyJ P ops Q n w0 S Hk fuel listed ((s, .bool true) :: L) H) (hf : ¬ p → AnyJ P ops Q n w0 S Hk fuel listed ((s, .bool false) :: L) H) : AnyJ P ops Q n w0 S Hk fuel listed L H :=
  AnyJ.splitB hs (fun h => ht (of_decide_eq_true h)) (fun h => hf (of_decide_eq_false h))

/-- what is to be shown of an operation that comes up -/
def StepJ (P : Program) (ops : Array Oper) (Q : Exit → Act → World → Prop) (n : Nat) (w0 : World) (S : List Nat) (Hk : List Res) (fuel : Nat) (listed : Array Bool) (i : Nat) (L : List (Nat × Value)) (H : List Res) : Prop :=
  ∀ a w, E n a L → Inv w0 S H w → wpOp P ops (NP Q) i (fun a' w' => Inv w0 S Hk w' ∧ wpAnyH P .any ops (NP Q) (fun w => Inv w0 S Hk w) fuel (listed.setIfInBounds i true) a' w') a w

theorem StepJ.op {i : Nat} (hi : ops[i]? = some o) (hg : o.guard = none) (hl : listed.setIfInBounds i true = listed')
    (h : OpJ P (NP Q) n w0 S o L H (fun L' H' => (∀ w, Inv w0 S H' w → Inv w0 S Hk w) ∧ AnyJ P ops Q n w0 S Hk fuel listed' L' H')) : StepJ P ops Q n w0 S Hk fuel listed i L H :=
  fun a w hE hI => by
    unfold wpOp
    simp only [hi]
    rw [if_pos (by simp [Region.wanted, hg])]
    refine .inl (h _ (fun L' H' hM a w hE hI => ?_) a w hE hI)
    rw [hl]
    exact ⟨hM.1 w hI, hM.2 a w hE hI⟩

theorem StepJ.opT {i j s : Nat} {b : Bool} (hi : ops[i]? = some o) (hg : o.guard = some (j, b)) (hj : (ops[j]?).bind (·.dst) = some s) (hv : L.lookup s = some (.bool b)) (hl : listed.setIfInBounds i true = listed')
    (h : OpJ P (NP Q) n w0 S o L H (fun L' H' => (∀ w, Inv w0 S H' w → Inv w0 S Hk w) ∧ AnyJ P ops Q n w0 S Hk fuel listed' L' H')) : StepJ P ops Q n w0 S Hk fuel listed i L H :=
  fun a w hE hI => by
    have hyl := yielded_of (ops := ops) hE hj hv
    unfold wpOp
    simp only [hi]
    rw [if_pos (by simp [Region.wanted, hg, hyl])]
    refine .inl (h _ (fun L' H' hM a w hE hI => ?_) a w hE hI)
    rw [hl]
    exact ⟨hM.1 w hI, hM.2 a w hE hI⟩

theorem StepJ.opF {i j s d : Nat} {b : Bool} {u : Value} (hi : ops[i]? = some o) (hg : o.guard = some (j, b)) (hj : (ops[j]?).bind (·.dst) = some s) (hv : L.lookup s = some u) (hb : notB b u = true) (hd : o.dst = some d) (hn : d.blt n = true) (hl : listed.setIfInBounds i true = listed')
    (hk : ∀ w, Inv w0 S H w → Inv w0 S Hk w) (h : AnyJ P ops Q n w0 S Hk fuel listed' ((d, undef) :: L) H) : StepJ P ops Q n w0 S Hk fuel listed i L H :=
  fun a w hE hI => by
    have hyl := yielded_of (ops := ops) hE hj hv
    have hw : Region.wanted o (yielded ops a.tmps) = false := by
      simp only [Region.wanted, hg, hyl]
      cases u <;> simp_all [notB]
    unfold wpOp
    simp only [hi]
    rw [if_neg (by simp [hw]), hl, hd]
    exact ⟨hk w hI, h _ _ (hE.put hn) hI⟩

theorem AnyJ.one (i : Nat) (hr : Region.ready .any ops listed = [i]) (h : StepJ P ops Q n w0 S Hk fuel listed i L H) : AnyJ P ops Q n w0 S Hk (fuel + 1) listed L H :=
  fun a w hE hI => wpAnyH_all hr (by simp) fun j hj => by
    simp at hj
    subst hj
    exact h a w hE hI

theorem AnyJ.two (i j : Nat) (hr : Region.ready .any ops listed = [i, j]) (h : StepJ P ops Q n w0 S Hk fuel listed i L H) (h' : StepJ P ops Q n w0 S Hk fuel listed j L H) : AnyJ P ops Q n w0 S Hk (fuel + 1) listed L H :=
  fun a w hE hI => wpAnyH_all hr (by simp) fun k hj => by
    simp at hj
    rcases hj with rfl | rfl
    · exact h a w hE hI
    · exact h' a w hE hI

theorem AnyJ.done (hr : Region.ready .any ops listed = []) (h : ExJ Q .normal n w0 S L H) : AnyJ P ops Q n w0 S Hk fuel listed L H :=
  fun a w hE hI => wpAnyH_done (Q := NP Q) hr (h a w hE hI) fuel
end
end Go.Proofs.YtdiememgbnplkaaDoor
