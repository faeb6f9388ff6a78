/-
  Rules for the model's operations and pieces of code, over the lists of XCore.
-/
import Derived.Test.YtdiememgbnplkaaDoorCore
namespace Go.Proofs.YtdiememgbnplkaaDoor
open Go

section
variable {P : Program} {ops : Array Oper} {Q : Exit → Act → World → Prop} {n : Nat} {w0 : World} {S : List Nat}

/-- one operation -/
def OpJ (P : Program) (Q : Exit → Act → World → Prop) (n : Nat) (w0 : World) (S : List Nat) (o : Oper) (L : List (Nat × Value)) (H : List Res) (M : List (Nat × Value) → List Res → Prop) : Prop :=
  ∀ (K : Act → World → Prop), (∀ L' H', M L' H' → ∀ a w, E n a L' → Inv w0 S H' w → K a w) → ∀ a w, E n a L → Inv w0 S H w → o.wp P a w K Q

/-- a list of operations -/
def OpsJ (P : Program) (ops : Array Oper) (Q : Exit → Act → World → Prop) (n : Nat) (w0 : World) (S : List Nat) (l : List Oper) (L : List (Nat × Value)) (H : List Res) : Prop :=
  ∀ a w, E n a L → Inv w0 S H w → wpList P ops Q l a w

/-- a piece of code -/
def CodeJ (P : Program) (Q : Exit → Act → World → Prop) (n : Nat) (w0 : World) (S : List Nat) (c : Code) (L : List (Nat × Value)) (H : List Res) : Prop :=
  ∀ a w, E n a L → Inv w0 S H w → c.wp P Q a w

/-- an exit -/
def ExJ (Q : Exit → Act → World → Prop) (e : Exit) (n : Nat) (w0 : World) (S : List Nat) (L : List (Nat × Value)) (H : List Res) : Prop :=
  ∀ a w, E n a L → Inv w0 S H w → Q e a w

theorem OpsJ.op {o : Oper} {rest : List Oper} {L H} (hg : o.guard = none) (h : OpJ P Q n w0 S o L H (fun L' H' => OpsJ P ops Q n w0 S rest L' H')) : OpsJ P ops Q n w0 S (o :: rest) L H :=
  fun a w hE hI => wpList_plain hg fun K hK => h K (fun _ _ hM a w hE hI => hK a w (hM a w hE hI)) a w hE hI

theorem yielded_of {L : List (Nat × Value)} {a : Act} {j s : Nat} {v : Value} (hE : E n a L) (hj : (ops[j]?).bind (·.dst) = some s) (hv : L.lookup s = some v) :
    yielded ops a.tmps j = (match v with | .bool b => some b | _ => none) := by
  unfold yielded
  rw [hj]
  simp only [Option.bind_some]
  rw [hE.at_ s v hv]
  cases v <;> rfl

/-- a guarded operation whose guard says yes -/
theorem OpsJ.opT {o : Oper} {rest : List Oper} {L H} {j s : Nat} {b : Bool} (hg : o.guard = some (j, b)) (hj : (ops[j]?).bind (·.dst) = some s) (hv : L.lookup s = some (.bool b))
    (h : OpJ P Q n w0 S o L H (fun L' H' => OpsJ P ops Q n w0 S rest L' H')) : OpsJ P ops Q n w0 S (o :: rest) L H :=
  fun a w hE hI => wpList_step fun K hK => by
    have hy := yielded_of (ops := ops) hE hj hv
    have hw : Region.wanted o (yielded ops a.tmps) = true := by simp [Region.wanted, hg, hy]
    rw [if_pos hw]
    exact h K (fun _ _ hM a w hE hI => hK a w (hM a w hE hI)) a w hE hI

/-- a value that is not this bool -/
def notB (b : Bool) : Value → Bool
  | .bool c => c != b
  | _ => true

/-- a guarded operation whose guard says no -/
theorem OpsJ.opF {o : Oper} {rest : List Oper} {L H} {j s d : Nat} {b : Bool} {v : Value} (hg : o.guard = some (j, b)) (hj : (ops[j]?).bind (·.dst) = some s) (hv : L.lookup s = some v) (hb : notB b v = true)
    (hd : o.dst = some d) (hn : d.blt n = true)
    (h : OpsJ P ops Q n w0 S rest ((d, undef) :: L) H) : OpsJ P ops Q n w0 S (o :: rest) L H :=
  fun a w hE hI => wpList_step fun K hK => by
    have hy := yielded_of (ops := ops) hE hj hv
    have hw : Region.wanted o (yielded ops a.tmps) = false := by
      simp only [Region.wanted, hg, hy]
      cases v <;> simp_all [notB]
    rw [if_neg (by simp [hw]), hd]
    exact hK _ _ (h _ _ (hE.put hn) hI)

/-- what a quiet operation yields -/
def Yld (P : Program) (o : Oper) (n : Nat) (L : List (Nat × Value)) (I : World → Prop) (v : Value) : Prop :=
  ∀ a w, E n a L → I w → (execOp a.eval o).run P w = .ok (.value v) w

theorem OpJ.yld {o : Oper} {L H M} {d : Nat} {v : Value} (hd : o.dst = some d) (hn : d.blt n = true) (hy : Yld P o n L (Inv w0 S H) v) (h : M ((d, v) :: L) H) : OpJ P Q n w0 S o L H M :=
  fun K hK a w hE hI => by
    unfold Oper.wp
    rw [hy a w hE hI]
    show K (a.put o.dst v) w
    rw [hd]
    exact hK _ _ h _ _ (hE.put hn) hI

theorem OpsJ.yld {o : Oper} {rest : List Oper} {L H} {d : Nat} {v : Value} (hg : o.guard = none) (hd : o.dst = some d) (hn : d.blt n = true) (hy : Yld P o n L (Inv w0 S H) v) (h : OpsJ P ops Q n w0 S rest ((d, v) :: L) H) : OpsJ P ops Q n w0 S (o :: rest) L H :=
  OpsJ.op hg (OpJ.yld hd hn hy h)

/-- a slot that holds a bool: by cases -/
theorem E.bool {a : Act} {L : List (Nat × Value)} {s : Nat} {c d : Bool} (hE : E n a L) (hs : L.lookup s = some (.bool c)) (h : c = d) : E n a ((s, .bool d) :: L) :=
  ⟨hE.defers, hE.size, fun t v ht => by
    by_cases e : t = s
    · subst e
      simp [List.lookup] at ht
      subst ht
      rw [← h]
      exact hE.at_ t _ hs
    · have : (t == s) = false := by simpa using e
      simp [List.lookup, this] at ht
      exact hE.at_ t v ht⟩
theorem OpsJ.splitB {l : List Oper} {L H} {s : Nat} {c : Bool} (hs : L.lookup s = some (.bool c)) (ht : c = true → OpsJ P ops Q n w0 S l ((s, .bool true) :: L) H) (hf : c = false → OpsJ P ops Q n w0 S l ((s, .bool false) :: L) H) : OpsJ P ops Q n w0 S l L H :=
  fun a w hE hI => by
    cases h : c with
    | true => exact ht h a w (hE.bool hs h) hI
    | false => exact hf h a w (hE.bool hs h) hI
theorem OpsJ.splitP {l : List Oper} {L H} {s : Nat} {p : Prop} [Decidable p] (hs : L.lookup s = some (.bool (decide p))) (ht : p → OpsJ P ops Q n w0 S l ((s, .bool true) :: L) H) (hf : ¬ p → OpsJ P ops Q n w0 S l ((s, .bool false) :: L) H) : OpsJ P ops Q n w0 S l L H :=
  OpsJ.splitB hs (fun h => ht (of_decide_eq_true h)) (fun h => hf (of_decide_eq_false h))

/-- the resources are turned into others that hold wherever they do -/
theorem OpsJ.weaken {l : List Oper} {L H L' H'} (hL : Sub L L') (hH : ∀ w, Inv w0 S H w → Inv w0 S H' w) (h : OpsJ P ops Q n w0 S l L' H') : OpsJ P ops Q n w0 S l L H :=
  fun a w hE hI => h a w (hE.sub hL) (hH w hI)

theorem OpsJ.congrH {l : List Oper} {L H H'} (hH : H = H') (h : OpsJ P ops Q n w0 S l L H') : OpsJ P ops Q n w0 S l L H := hH ▸ h
theorem OpsJ.congrL {l : List Oper} {L L' H} (hL : L = L') (h : OpsJ P ops Q n w0 S l L' H) : OpsJ P ops Q n w0 S l L H := hL ▸ h
theorem CodeJ.weaken {c : Code} {L H L' H'} (hL : Sub L L') (hH : ∀ w, Inv w0 S H w → Inv w0 S H' w) (h : CodeJ P Q n w0 S c L' H') : CodeJ P Q n w0 S c L H :=
  fun a w hE hI => h a w (hE.sub hL) (hH w hI)

theorem CodeJ.pick {c : Code} {L H L' H'} (is : List Nat) (hn : is.Nodup) (hp : pick H is = some H') (hL : Sub L L') (h : CodeJ P Q n w0 S c L' H') : CodeJ P Q n w0 S c L H :=
  fun a w hE hI => h a w (hE.sub hL) (hI.pick hn hp)

/-! ### code -/
theorem CodeJ.region {id : Nat} {l : List Oper} {L H} (h : OpsJ P l.toArray Q n w0 S l L H) : CodeJ P Q n w0 S (.region id l.toArray false) L H :=
  fun a w hE hI => wp_region_lit (h a w hE hI)

theorem CodeJ.seq {x y : Code} {L H} (h : CodeJ P (Exit.then (y.wp P Q) Q) n w0 S x L H) : CodeJ P Q n w0 S (.seq x y) L H :=
  fun a w hE hI => wp_seq (h a w hE hI)

/-- with a cut: what holds behind the first part -/
theorem CodeJ.seqCut {x y : Code} {L H} (N : Act → World → Prop) (h : CodeJ P (Exit.then N Q) n w0 S x L H) (hy : ∀ a w, N a w → y.wp P Q a w) : CodeJ P Q n w0 S (.seq x y) L H :=
  fun a w hE hI => wp_seq (wp_mono (h a w hE hI) fun e a w hq => by cases e <;> first | exact hy a w hq | exact hq)

theorem OpsJ.nil {L H} (h : ExJ Q .normal n w0 S L H) : OpsJ P ops Q n w0 S [] L H := fun a w hE hI => wpList_nil (h a w hE hI)

/-- the end of a region that is followed by y -/
theorem OpsJ.next {y : Code} {L H} (h : CodeJ P Q n w0 S y L H) : OpsJ P ops (Exit.then (y.wp P Q) Q) n w0 S [] L H := fun a w hE hI => wpList_nil (h a w hE hI)

theorem CodeJ.skip {L H} (h : ExJ Q .normal n w0 S L H) : CodeJ P Q n w0 S .skip L H := fun a w hE hI => wp_skip (h a w hE hI)
theorem CodeJ.exit {id : Nat} {L H} (h : ExJ Q (.exit id) n w0 S L H) : CodeJ P Q n w0 S (.exit id) L H := fun a w hE hI => wp_exit (h a w hE hI)
theorem CodeJ.ret {L H} (h : ExJ Q .ret n w0 S L H) : CodeJ P Q n w0 S .ret L H := fun a w hE hI => wp_ret (h a w hE hI)

theorem CodeJ.cond {c : Operand} {x y : Code} {t : Bool} {L H} (hc : ev L c = some (.bool t)) (ht : t = true → CodeJ P Q n w0 S x L H) (hf : t = false → CodeJ P Q n w0 S y L H) : CodeJ P Q n w0 S (.cond c x y) L H :=
  fun a w hE hI => wp_cond_split (hE.eval hc) (fun h => ht h a w hE hI) (fun h => hf h a w hE hI)

theorem CodeJ.condT {c : Operand} {x y : Code} {L H} (hc : ev L c = some (.bool true)) (h : CodeJ P Q n w0 S x L H) : CodeJ P Q n w0 S (.cond c x y) L H :=
  fun a w hE hI => wp_cond_true (hE.eval hc) (h a w hE hI)
theorem CodeJ.condF {c : Operand} {x y : Code} {L H} (hc : ev L c = some (.bool false)) (h : CodeJ P Q n w0 S y L H) : CodeJ P Q n w0 S (.cond c x y) L H :=
  fun a w hE hI => wp_cond_false (hE.eval hc) (h a w hE hI)

/-- a test whose bool is decide p -/
theorem CodeJ.condP {c : Operand} {x y : Code} {p : Prop} [Decidable p] {L H} (hc : ev L c = some (.bool (decide p))) (ht : p → CodeJ P Q n w0 S x L H) (hf : ¬ p → CodeJ P Q n w0 S y L H) : CodeJ P Q n w0 S (.cond c x y) L H :=
  CodeJ.cond hc (fun h => ht (of_decide_eq_true h)) (fun h => hf (of_decide_eq_false h))

theorem CodeJ.block {id : Nat} {c : Code} {L H} (h : CodeJ P (Exit.inBlock id Q) n w0 S c L H) : CodeJ P Q n w0 S (.block id c) L H :=
  fun a w hE hI => wp_block (h a w hE hI)

/-- a loop: its states are told by α -/
theorem CodeJ.loop {α : Type} {c : Code} {L H} (Lk : α → List (Nat × Value)) (Hk : α → List Res) (I : α → Prop) (μ : α → Nat) (k0 : α) (h0 : I k0) (hL : Sub L (Lk k0)) (hH : ∀ w, Inv w0 S H w → Inv w0 S (Hk k0) w)
    (round : ∀ k, I k → CodeJ P (Exit.then (fun a w => ∃ k', I k' ∧ μ k' < μ k ∧ E n a (Lk k') ∧ Inv w0 S (Hk k') w) Q) n w0 S c (Lk k) (Hk k)) : CodeJ P Q n w0 S (.loop c) L H := by
  intro a w hE hI b k cs
  have key : ∀ m k, μ k = m → I k → ∀ a w, E n a (Lk k) → Inv w0 S (Hk k) w →
      ∀ (b : Frame) (k' : List Item) (cs : List Frame), ∃ e a' w', Q e a' w' ∧ Arrives P (lone (b.at a (.code c :: .inLoop c :: k')) cs w) b k' cs e a' w' := by
    intro m
    induction m using Nat.strongRecOn with
    | _ m ih =>
      intro k hm hk a w hE hI b k' cs
      obtain ⟨e, a₁, w₁, hq, harr⟩ := round k hk a w hE hI b (.inLoop c :: k') cs
      cases e with
      | normal =>
        obtain ⟨k2, hk2, hlt, hE2, hI2⟩ := hq
        obtain ⟨e₂, a₂, w₂, hq₂, harr₂⟩ := ih (μ k2) (hm ▸ hlt) k2 rfl hk2 a₁ w₁ hE2 hI2 b k' cs
        exact ⟨e₂, a₂, w₂, hq₂, .of_steps (Steps.trans harr (.one step_inLoop)) harr₂⟩
      | exit id => exact ⟨_, a₁, w₁, hq, .pass (x := .inLoop c) rfl (fun _ _ => .inl (by simp)) harr⟩
      | goto l => exact ⟨_, a₁, w₁, hq, .pass (x := .inLoop c) rfl (fun _ _ => .inl (by simp)) harr⟩
      | ret => exact ⟨_, a₁, w₁, hq, .pass (x := .inLoop c) rfl (fun _ _ => .inl (by simp)) harr⟩
      | panic ch => exact ⟨_, a₁, w₁, hq, .pass (x := .inLoop c) rfl (fun _ _ => .inl (by simp)) harr⟩
      | outgrown => exact ⟨_, a₁, w₁, hq, .pass (x := .inLoop c) rfl (fun _ _ => .inl (by simp)) harr⟩
  obtain ⟨e, a', w', hq, harr⟩ := key _ k0 rfl h0 a w (hE.sub hL) (hH w hI) b k cs
  exact ⟨e, a', w', hq, .of_steps (.one step_loop) harr⟩

/-- a loop: what holds at each round's head of slots, resources and a number that falls -/
theorem CodeJ.loopP {c : Code} {L H L0 H0} {m0 : Nat} (I : List (Nat × Value) → List Res → Nat → Prop) (h0 : I L0 H0 m0) (hL : Sub L L0) (hH : ∀ w, Inv w0 S H w → Inv w0 S H0 w)
    (round : ∀ L H m, I L H m → CodeJ P (Exit.then (fun a w => ∃ L' H' m', I L' H' m' ∧ m' < m ∧ E n a L' ∧ Inv w0 S H' w) Q) n w0 S c L H) : CodeJ P Q n w0 S (.loop c) L H :=
  CodeJ.loop (α := List (Nat × Value) × List Res × Nat) (fun k => k.1) (fun k => k.2.1) (fun k => I k.1 k.2.1 k.2.2) (fun k => k.2.2) (L0, H0, m0) h0 hL hH fun k hk a w hE hI =>
    wp_mono (round k.1 k.2.1 k.2.2 hk a w hE hI) fun e a w hq => by
      cases e with
      | normal => obtain ⟨L', H', m', h1, h2, h3, h4⟩ := hq; exact ⟨(L', H', m'), h1, h2, h3, h4⟩
      | _ => exact hq

theorem ExJ.againP {L H L' H'} {m m' : Nat} {I : List (Nat × Value) → List Res → Nat → Prop} (hI' : I L' H' m') (hm : m' < m) (hL : Sub L L') (hH : ∀ w, Inv w0 S H w → Inv w0 S H' w) :
    ExJ (Exit.then (fun a w => ∃ L' H' m', I L' H' m' ∧ m' < m ∧ E n a L' ∧ Inv w0 S H' w) Q) .normal n w0 S L H :=
  fun _ w hE hI => ⟨L', H', m', hI', hm, hE.sub hL, hH w hI⟩

/-- a cut -/
theorem CodeJ.cutP {x y : Code} {L H} (N : List (Nat × Value) → List Res → Prop) (h : CodeJ P (Exit.then (fun a w => ∃ L' H', N L' H' ∧ E n a L' ∧ Inv w0 S H' w) Q) n w0 S x L H)
    (hy : ∀ L H, N L H → CodeJ P Q n w0 S y L H) : CodeJ P Q n w0 S (.seq x y) L H :=
  CodeJ.seqCut _ h fun a w ⟨L', H', hN, hE, hI⟩ => hy L' H' hN a w hE hI

theorem ExJ.meetP {L H L' H'} {N : List (Nat × Value) → List Res → Prop} (hN : N L' H') (hL : Sub L L') (hH : ∀ w, Inv w0 S H w → Inv w0 S H' w) :
    ExJ (Exit.then (fun a w => ∃ L' H', N L' H' ∧ E n a L' ∧ Inv w0 S H' w) Q) .normal n w0 S L H :=
  fun _ w hE hI => ⟨L', H', hN, hE.sub hL, hH w hI⟩

theorem ExJ.thenN {y : Code} {L H} (h : CodeJ P Q n w0 S y L H) : ExJ (Exit.then (y.wp P Q) Q) .normal n w0 S L H := h
theorem ExJ.thenX {N : Act → World → Prop} {i : Nat} {L H} (h : ExJ Q (.exit i) n w0 S L H) : ExJ (Exit.then N Q) (.exit i) n w0 S L H := h
theorem ExJ.thenR {N : Act → World → Prop} {L H} (h : ExJ Q .ret n w0 S L H) : ExJ (Exit.then N Q) .ret n w0 S L H := h
theorem ExJ.blockN {i : Nat} {L H} (h : ExJ Q .normal n w0 S L H) : ExJ (Exit.inBlock i Q) .normal n w0 S L H := h
theorem ExJ.blockR {i : Nat} {L H} (h : ExJ Q .ret n w0 S L H) : ExJ (Exit.inBlock i Q) .ret n w0 S L H := h
theorem ExJ.blockHit {i : Nat} {L H} (h : ExJ Q .normal n w0 S L H) : ExJ (Exit.inBlock i Q) (.exit i) n w0 S L H := fun a w hE hI => by
  simp only [Exit.inBlock, if_true]
  exact h a w hE hI
theorem ExJ.blockMiss {i j : Nat} {L H} (hij : j ≠ i) (h : ExJ Q (.exit j) n w0 S L H) : ExJ (Exit.inBlock i Q) (.exit j) n w0 S L H := fun a w hE hI => by
  simp only [Exit.inBlock, hij, if_false]
  exact h a w hE hI
theorem ExJ.endN {fn : Func} {R : Ending → World → Prop} {L H} (h : ExJ (bodyPost P fn R) .ret n w0 S L H) : ExJ (bodyPost P fn R) .normal n w0 S L H := h

/-- the loop's round is done: on with the state k' -/
theorem ExJ.again {α : Type} {L H} {Lk : α → List (Nat × Value)} {Hk : α → List Res} {I : α → Prop} {μ : α → Nat} {k : α} (k' : α) (hk : I k') (hm : μ k' < μ k) (hL : Sub L (Lk k')) (hH : ∀ w, Inv w0 S H w → Inv w0 S (Hk k') w) :
    ExJ (Exit.then (fun a w => ∃ k', I k' ∧ μ k' < μ k ∧ E n a (Lk k') ∧ Inv w0 S (Hk k') w) Q) .normal n w0 S L H :=
  fun _ w hE hI => ⟨k', hk, hm, hE.sub hL, hH w hI⟩

/-- a cut's condition is met -/
theorem ExJ.cut {α : Type} {L H} {N : α → List (Nat × Value) × List Res} {I : α → Prop} (k : α) (hk : I k) (hL : Sub L (N k).1) (hH : ∀ w, Inv w0 S H w → Inv w0 S (N k).2 w) :
    ExJ (Exit.then (fun a w => ∃ k, I k ∧ E n a (N k).1 ∧ Inv w0 S (N k).2 w) Q) .normal n w0 S L H :=
  fun _ w hE hI => ⟨k, hk, hE.sub hL, hH w hI⟩

/-- a cut: the states behind the first part are told by α -/
theorem CodeJ.cut {α : Type} {x y : Code} {L H} (N : α → List (Nat × Value) × List Res) (I : α → Prop) (h : CodeJ P (Exit.then (fun a w => ∃ k, I k ∧ E n a (N k).1 ∧ Inv w0 S (N k).2 w) Q) n w0 S x L H)
    (hy : ∀ k, I k → CodeJ P Q n w0 S y (N k).1 (N k).2) : CodeJ P Q n w0 S (.seq x y) L H :=
  CodeJ.seqCut _ h fun a w ⟨k, hk, hE, hI⟩ => hy k hk a w hE hI

/-! ### a function's beginning and its end -/
def argL : Nat → List Value → List (Nat × Value)
  | _, [] => []
  | i, v :: r => (i, v) :: argL (i + 1) r

theorem argL_lookup : ∀ (vs : List Value) (i s : Nat) (v : Value), (argL i vs).lookup s = some v → ∃ j, s = i + j ∧ vs[j]? = some v
  | [], i, s, v, h => by simp [argL] at h
  | u :: r, i, s, v, h => by
    by_cases e : s = i
    · subst e
      simp [argL] at h
      exact ⟨0, by omega, by simp [h]⟩
    · have : (s == i) = false := by simpa using e
      simp [argL, List.lookup, this] at h
      obtain ⟨j, hj, hv⟩ := argL_lookup r (i + 1) s v h
      exact ⟨j + 1, by omega, by simpa using hv⟩

theorem enter {f : FuncId} {fn : Func} {c : Code} {args : List Value} {H : List Res} {R : Ending → World → Prop} (hf : P.funcs[f]? = some fn) (hb : fn.body = some c) (hn : fn.ntmps = n) (hl : args.length.ble n = true)
    (h : CodeJ P (bodyPost P fn R) n w0 S c (argL 0 args) H) (hI : Inv w0 S H w0) : Calls P f args.toArray w0 R := by
  refine calls_of_wp hf hb (h _ w0 ⟨rfl, ?_, ?_⟩ hI)
  · have := Nat.le_of_ble_eq_true hl
    simp [hn]; omega
  · intro s v hs
    obtain ⟨j, hj, hv⟩ := argL_lookup args 0 s v hs
    have hlt : j < args.length := (List.getElem?_eq_some_iff.1 hv).1
    have : s = j := by omega
    subst this
    show (args.toArray ++ _)[s]? = some v
    rw [Array.getElem?_append_left (by simpa using hlt)]
    simpa using hv

/-- the contract of a call that is handed the resources H -/
def Spec (P : Program) (f : FuncId) (args : List Value) (H : List Res) (R : World → Prop) (Post : Value → List Res → Prop) : Prop :=
  ∀ w, Pre H w → R w → Calls P f args.toArray w (Ret w (fp H) Post)

theorem Spec.of {f : FuncId} {fn : Func} {c : Code} {args : List Value} {H : List Res} {R : World → Prop} {Post : Value → List Res → Prop} (hf : P.funcs[f]? = some fn) (hb : fn.body = some c) (hn : fn.ntmps = n) (hl : args.length.ble n = true)
    (h : ∀ w0, R w0 → CodeJ P (bodyPost P fn (Ret w0 (fp H) Post)) n w0 (fp H) c (argL 0 args) H) : Spec P f args H R Post :=
  fun w hw hR => enter hf hb hn hl (h w hR) hw.inv

theorem Spec.mono {f : FuncId} {args : List Value} {H : List Res} {R R' : World → Prop} {Post Post' : Value → List Res → Prop} (h : Spec P f args H R Post) (hr : ∀ w, R' w → R w) (hp : ∀ v H', Post v H' → Post' v H') : Spec P f args H R' Post' :=
  fun w hw hR => (h w hw (hr w hR)).mono fun _ _ ⟨v, H', he, hP, hI⟩ => ⟨v, H', he, hp v H' hP, hI⟩

/-- a return: one result in a slot -/
theorem ExJ.ret1 {fn : Func} {s : Nat} {v : Value} {L H H'} {w1 : World} {S1 : List Nat} {Post : Value → List Res → Prop} (hr : fn.results = #[.tmp s]) (hs : L.lookup s = some v) (hP : Post v H') (hH : ∀ w, Inv w0 S H w → Inv w1 S1 H' w) :
    ExJ (bodyPost P fn (Ret w1 S1 Post)) .ret n w0 S L H := fun a w hE hI => by
  refine ⟨hE.defers, v, ?_, v, H', rfl, hP, hH w hI⟩
  have := hE.at_ s v hs
  simp [results, hr, this]

theorem ExJ.ret2 {fn : Func} {s t : Nat} {v u : Value} {L H H'} {w1 : World} {S1 : List Nat} {Post : Value → List Res → Prop} (hr : fn.results = #[.tmp s, .tmp t]) (hs : L.lookup s = some v) (ht : L.lookup t = some u) (hP : Post (.tuple #[v, u]) H') (hH : ∀ w, Inv w0 S H w → Inv w1 S1 H' w) :
    ExJ (bodyPost P fn (Ret w1 S1 Post)) .ret n w0 S L H := fun a w hE hI => by
  refine ⟨hE.defers, _, ?_, _, H', rfl, hP, hH w hI⟩
  have h1 := hE.at_ s v hs
  have h2 := hE.at_ t u ht
  simp [results, hr, h1, h2]

/-- what the results of a function are, in general -/
theorem ExJ.retOf {fn : Func} {v : Value} {L H H'} {w1 : World} {S1 : List Nat} {Post : Value → List Res → Prop} (hr : ∀ a w, E n a L → Inv w0 S H w → (results fn a.tmps).run P w = .ok v w) (hP : Post v H') (hH : ∀ w, Inv w0 S H w → Inv w1 S1 H' w) :
    ExJ (bodyPost P fn (Ret w1 S1 Post)) .ret n w0 S L H := fun a w hE hI =>
  ⟨hE.defers, v, hr a w hE hI, v, H', rfl, hP, hH w hI⟩
end
end Go.Proofs.YtdiememgbnplkaaDoor
