/-
  The program logic that the proofs of this claim use: what is known of a frame's slots (a list), what is known of memory (a list of blocks that the call may write), and rules for the model's operations.
-/
import Derived.WalkKit
import Derived.OrdersHeld
import Derived.Deep.AppendSrc
import Derived.Deep.DeepAppendWide
import Derived.Laws.MakeOwn
import Derived.LaidEql
namespace Go.Proofs.YtamobccbioafmaaDoor
open Go

/-! ### slots -/
def ev (L : List (Nat × Value)) : Operand → Option Value
  | .tmp t => L.lookup t
  | .const v => some v
  | .global g => some (.pointer (some ⟨g, 0, none⟩))
  | .func f => some (.func (.func f) #[] #[])

/-- what is known of a frame -/
structure E (n : Nat) (a : Act) (L : List (Nat × Value)) : Prop where
  defers : a.defers = []
  size : a.tmps.size = n
  at_ : ∀ s v, L.lookup s = some v → a.tmps[s]? = some v

theorem E.eval {n a L x v} (h : E n a L) (hv : ev L x = some v) : a.eval x = v := by
  cases x with
  | tmp t =>
    have := h.at_ t v hv
    simp [Act.eval, this]
  | const c => simpa [ev, Act.eval] using hv
  | global g => simpa [ev, Act.eval] using hv
  | func f => simpa [ev, Act.eval] using hv

theorem E.put {n a L v} {d : Nat} (h : E n a L) (hd : d.blt n = true) : E n (a.put (some d) v) ((d, v) :: L) := by
  have hd' : d < n := Nat.blt_eq.mp hd
  refine ⟨h.defers, by simp [Act.put, h.size], fun s u hs => ?_⟩
  simp only [Act.put, Array.getElem?_setIfInBounds]
  by_cases e : s = d
  · subst e
    simp [List.lookup] at hs
    subst hs
    simp [h.size, hd']
  · have : (s == d) = false := by simpa using e
    simp [List.lookup, this] at hs
    rw [if_neg (fun h => e h.symm)]
    exact h.at_ s u hs

theorem E.none {n a L v} (h : E n a L) : E n (a.put none v) L := h

/-- the slots of L' are among those of L -/
def Sub (L : List (Nat × Value)) : List (Nat × Value) → Prop
  | [] => True
  | (s, v) :: r => L.lookup s = some v ∧ Sub L r

theorem Sub.get {L : List (Nat × Value)} : ∀ {L' : List (Nat × Value)} {s v}, Sub L L' → L'.lookup s = some v → L.lookup s = some v
  | [], s, v, _, h => by simp [List.lookup] at h
  | (t, u) :: r, s, v, h, hl => by
    by_cases e : s = t
    · subst e
      simp [List.lookup] at hl
      subst hl
      exact h.1
    · have : (s == t) = false := by simpa using e
      simp [List.lookup, this] at hl
      exact Sub.get h.2 hl

theorem E.sub {n a L L'} (h : E n a L) (hs : Sub L L') : E n a L' := ⟨h.defers, h.size, fun s v hl => h.at_ s v (hs.get hl)⟩

/-! ### memory -/
/-- below w's size, w' is as w but for the blocks of S -/
structure Keep (S : List Nat) (w w' : World) : Prop where
  os : w'.os = w.os
  tape : w'.tape = w.tape
  output : w'.output = w.output
  size : w.heap.size ≤ w'.heap.size
  block : ∀ b, b < w.heap.size → b ∉ S → w'.heap[b]? = w.heap[b]?

theorem Keep.refl (S : List Nat) (w : World) : Keep S w w := ⟨rfl, rfl, rfl, Nat.le_refl _, fun _ _ _ => rfl⟩

theorem Keep.drew {S : List Nat} {w w' : World} (h : Keep S w w') : Keep S w w'.drew := ⟨h.os, h.tape, h.output, h.size, h.block⟩

theorem Keep.below {w w' : World} (h : Keep [] w w') : RowKit.Below w.heap.size w w' := ⟨h.os, h.tape, h.output, h.size, fun b hb => h.block b hb (by simp)⟩

/-- A slice that owns its row: nil, or at the head of a block that is not frozen; xs: the cells of its n elements of sz cells. -/
def Own (w : World) (T : TypeId) (sz : Nat) (v : Value) (n : Nat) (xs : List Value) : Prop :=
  (v = .slice none 0 0 ∧ n = 0 ∧ xs = []) ∨
  ∃ b cap c, v = .slice (some ⟨b, 0, none⟩) n cap ∧ w.heap[b]? = some (.cells c T (0, 0)) ∧ n ≤ cap ∧ c.size = cap * sz ∧ xs.length = n * sz ∧ xs = c.toList.take (n * sz)

def blkOf : Value → List Nat
  | .slice (some a) _ _ => [a.block]
  | _ => []

inductive Res where
  | blk (b : Nat) (cs : Array Value) (T : TypeId)
  | sl (T : TypeId) (sz : Nat) (v : Value) (n : Nat) (xs : List Value) (v' : Value) (n' : Nat) (xs' : List Value)
  | mp (r : Option Nat) (kvs : List (Value × Value))
  | ro (p : World → Prop) (bs : List Nat) (h : ∀ w w' : World, (∀ b ∈ bs, w'.heap[b]? = w.heap[b]?) → p w → p w')

/-- a slice alone -/
def own (T : TypeId) (sz : Nat) (v : Value) (n : Nat) (xs : List Value) : Res := .sl T sz v n xs v n xs

def Res.ats : Res → List Nat
  | .blk b _ _ => [b]
  | .sl _ _ v _ _ v' _ _ => blkOf v ++ blkOf v'
  | .mp r _ => r.toList
  | .ro _ bs _ => bs

def Res.holds (w : World) : Res → Prop
  | .blk b cs T => w.heap[b]? = some (.cells cs T (0, 0))
  | .sl T sz v n xs v' n' xs' => Own w T sz v n xs ∧ Own w T sz v' n' xs' ∧ n ≤ n'
  | .mp (some b) kvs => ∃ es clock, w.heap[b]? = some (.map es clock) ∧ es.toList.map (fun e => (e.key, e.val)) = kvs
  | .mp none kvs => kvs = []
  | .ro p bs _ => p w ∧ ∀ b ∈ bs, b < w.heap.size

theorem Own.lt {w T sz v n xs} (h : Own w T sz v n xs) : ∀ b ∈ blkOf v, b < w.heap.size := by
  rcases h with ⟨rfl, _, _⟩ | ⟨b, cap, c, rfl, hb, _⟩
  · simp [blkOf]
  · intro b' hb'
    simp [blkOf] at hb'
    subst hb'
    exact (Array.getElem?_eq_some_iff.1 hb).1

theorem Own.congr {w w' : World} {T sz v n xs} (h : Own w T sz v n xs) (hb : ∀ b ∈ blkOf v, w'.heap[b]? = w.heap[b]?) : Own w' T sz v n xs := by
  rcases h with h | ⟨b, cap, c, rfl, h, r⟩
  · exact .inl h
  · exact .inr ⟨b, cap, c, rfl, (hb b (by simp [blkOf])).trans h, r⟩

theorem Res.lt {w : World} {r : Res} (h : r.holds w) : ∀ b ∈ r.ats, b < w.heap.size := by
  cases r with
  | blk b cs T =>
    intro b' hb'
    simp [Res.ats] at hb'
    subst hb'
    exact (Array.getElem?_eq_some_iff.1 h).1
  | sl T sz v n xs v' n' xs' =>
    intro b hb
    simp [Res.ats] at hb
    rcases hb with hb | hb
    · exact h.1.lt b hb
    · exact h.2.1.lt b hb
  | mp r kvs =>
    cases r with
    | none => intro b hb; simp [Res.ats] at hb
    | some b =>
      obtain ⟨es, clock, hb, _⟩ := h
      intro b' hb'
      simp [Res.ats] at hb'
      subst hb'
      exact (Array.getElem?_eq_some_iff.1 hb).1
  | ro p bs hp => exact h.2

theorem Res.congr {w w' : World} {r : Res} (h : r.holds w) (hb : ∀ b ∈ r.ats, w'.heap[b]? = w.heap[b]?) : r.holds w' := by
  cases r with
  | blk b cs T => exact (hb b (by simp [Res.ats])).trans h
  | sl T sz v n xs v' n' xs' =>
    exact ⟨h.1.congr fun b h' => hb b (by simp [Res.ats, h']), h.2.1.congr fun b h' => hb b (by simp [Res.ats, h']), h.2.2⟩
  | mp r kvs =>
    cases r with
    | none => exact h
    | some b =>
      obtain ⟨es, clock, h, hk⟩ := h
      exact ⟨es, clock, (hb b (by simp [Res.ats])).trans h, hk⟩
  | ro p bs hp =>
    refine ⟨hp w w' hb h.1, fun b hb' => ?_⟩
    have h1 := h.2 b hb'
    have h2 : w'.heap[b]? = some w.heap[b] := (hb b hb').trans (Array.getElem?_eq_getElem h1)
    exact (Array.getElem?_eq_some_iff.1 h2).1

def Apart (r s : Res) : Prop := ∀ b ∈ r.ats, b ∉ s.ats

theorem Apart.symm {r s : Res} (h : Apart r s) : Apart s r := fun b hb hb' => h b hb' hb

/-- what is known of memory: since w0 only the blocks of S, and new ones, have turned; the resources of H are there, no two of them share a block -/
structure Inv (w0 : World) (S : List Nat) (H : List Res) (w : World) : Prop where
  keep : Keep S w0 w
  hs : ∀ r ∈ H, r.holds w
  dj : H.Pairwise Apart
  rng : ∀ r ∈ H, ∀ b ∈ r.ats, b ∈ S ∨ w0.heap.size ≤ b

def fp (H : List Res) : List Nat := H.flatMap Res.ats

/-- a call begins -/
structure Pre (H : List Res) (w : World) : Prop where
  hs : ∀ r ∈ H, r.holds w
  dj : H.Pairwise Apart

theorem Pre.nil (w : World) : Pre [] w := ⟨fun _ h => (by cases h), .nil⟩

theorem Pre.inv {H w} (h : Pre H w) : Inv w (fp H) H w :=
  ⟨Keep.refl _ _, h.hs, h.dj, fun r hr _ hb => .inl (List.mem_flatMap.2 ⟨r, hr, hb⟩)⟩

theorem Inv.lt {w0 S H w} (h : Inv w0 S H w) : ∀ r ∈ H, ∀ b ∈ r.ats, b < w.heap.size := fun r hr => Res.lt (h.hs r hr)

/-- a new block -/
theorem Inv.new {w0 S H w} (h : Inv w0 S H w) (w' : World) (o : Obj) (hh : w'.heap = w.heap.push o) (ho : w'.os = w.os) (ht : w'.tape = w.tape) (hu : w'.output = w.output)
    (r : Res) (hr : r.holds w') (ha : ∀ b ∈ r.ats, b = w.heap.size) : Inv w0 S (r :: H) w' := by
  have same : ∀ b, b < w.heap.size → w'.heap[b]? = w.heap[b]? := fun b hb => by
    rw [hh, Array.getElem?_push, if_neg (by omega)]
  refine ⟨⟨ho.trans h.keep.os, ht.trans h.keep.tape, hu.trans h.keep.output, ?_, ?_⟩, ?_, ?_, ?_⟩
  · have := h.keep.size; simp [hh]; omega
  · intro b hb hS
    have hk := h.keep.size
    rw [same b (by omega)]
    exact h.keep.block b hb hS
  · intro s hs
    rcases List.mem_cons.1 hs with rfl | hs
    · exact hr
    · exact Res.congr (h.hs s hs) fun b hb => same b (h.lt s hs b hb)
  · refine List.pairwise_cons.2 ⟨fun s hs b hb hb' => ?_, h.dj⟩
    have h1 := ha b hb
    have h2 := h.lt s hs b hb'
    omega
  · intro s hs b hb
    rcases List.mem_cons.1 hs with rfl | hs
    · right
      have := h.keep.size
      have := ha b hb
      omega
    · exact h.rng s hs b hb

/-- a world that differs in nothing but the count of draws -/
theorem Inv.drew {w0 S H w} (h : Inv w0 S H w) : Inv w0 S H w.drew :=
  ⟨h.keep.drew, fun r hr => Res.congr (h.hs r hr) fun _ _ => rfl, h.dj, h.rng⟩

/-- one resource is turned, in its own blocks and new ones -/
theorem Inv.turn {w0 S H w} (h : Inv w0 S H w) {i : Nat} {r r' : Res} (hi : H[i]? = some r) (w' : World)
    (ho : w'.os = w.os) (ht : w'.tape = w.tape) (hu : w'.output = w.output) (hz : w.heap.size ≤ w'.heap.size)
    (same : ∀ b, b < w.heap.size → b ∉ r.ats → w'.heap[b]? = w.heap[b]?) (hr : r'.holds w') (ha : ∀ b ∈ r'.ats, b ∈ r.ats ∨ w.heap.size ≤ b) : Inv w0 S (H.set i r') w' := by
  have hmem : r ∈ H := List.mem_of_getElem? hi
  have hk := h.keep.size
  have hlt : i < H.length := (List.getElem?_eq_some_iff.1 hi).1
  have hget : H[i] = r := (List.getElem?_eq_some_iff.1 hi).2
  have apart : ∀ j, j ≠ i → ∀ s, H[j]? = some s → Apart r s := fun j hj s hs => by
    have hjl : j < H.length := (List.getElem?_eq_some_iff.1 hs).1
    have hsg : H[j] = s := (List.getElem?_eq_some_iff.1 hs).2
    have pw := List.pairwise_iff_getElem.1 h.dj
    rcases Nat.lt_or_ge j i with hji | hji
    · have := pw j i hjl hlt hji
      rw [hget, hsg] at this
      exact this.symm
    · have := pw i j hlt hjl (by omega)
      rw [hget, hsg] at this
      exact this
  refine ⟨⟨ho.trans h.keep.os, ht.trans h.keep.tape, hu.trans h.keep.output, by omega, ?_⟩, ?_, ?_, ?_⟩
  · intro b hb hS
    rw [same b (by omega) ?_]
    · exact h.keep.block b hb hS
    · intro hb'
      rcases h.rng r hmem b hb' with h1 | h1
      · exact hS h1
      · omega
  · intro s hs
    obtain ⟨j, hj⟩ := List.getElem?_of_mem hs
    rw [List.getElem?_set] at hj
    by_cases hne : i = j
    · rw [if_pos hne, if_pos hlt] at hj
      simp at hj; subst hj; exact hr
    · rw [if_neg hne] at hj
      have hs' : s ∈ H := List.mem_of_getElem? hj
      exact Res.congr (h.hs s hs') fun b hb => same b (h.lt s hs' b hb) fun hb' => apart j (fun e => hne e.symm) s hj b hb' hb
  · refine List.pairwise_iff_getElem.2 fun x y hx hy hxy => ?_
    simp only [List.length_set] at hx hy
    simp only [List.getElem_set]
    have pw := List.pairwise_iff_getElem.1 h.dj
    have key : ∀ j (hj : j < H.length), j ≠ i → Apart r' H[j] := fun j hj hji b hb hb' => by
      rcases ha b hb with h1 | h1
      · exact apart j hji H[j] (List.getElem?_eq_getElem hj) b h1 hb'
      · have := h.lt H[j] (List.getElem_mem hj) b hb'
        omega
    split
    · rw [if_neg (by omega)]
      exact key y hy (by omega)
    · split
      · exact (key x hx (by omega)).symm
      · exact pw x y hx hy hxy
  · intro s hs b hb
    obtain ⟨j, hj⟩ := List.getElem?_of_mem hs
    rw [List.getElem?_set] at hj
    by_cases hne : i = j
    · rw [if_pos hne, if_pos hlt] at hj
      simp at hj; subst hj
      rcases ha b hb with h1 | h1
      · exact h.rng r hmem b h1
      · right; omega
    · rw [if_neg hne] at hj
      exact h.rng s (List.mem_of_getElem? hj) b hb

/-- choose resources by their places -/
def pick (H : List Res) : List Nat → Option (List Res)
  | [] => some []
  | i :: is => match H[i]?, pick H is with
    | some r, some rs => some (r :: rs)
    | _, _ => none

theorem pick_mem {H : List Res} : ∀ {is : List Nat} {H' : List Res}, pick H is = some H' → ∀ r ∈ H', ∃ i ∈ is, H[i]? = some r
  | [], H', h, r, hr => by simp [pick] at h; subst h; cases hr
  | i :: is, H', h, r, hr => by
    simp only [pick] at h
    split at h
    · rename_i r0 rs h0 hrs
      simp at h
      subst h
      rcases List.mem_cons.1 hr with rfl | hr
      · exact ⟨i, by simp, h0⟩
      · obtain ⟨j, hj, hj'⟩ := pick_mem hrs r hr
        exact ⟨j, by simp [hj], hj'⟩
    · cases h

theorem pick_pw {H : List Res} (hd : H.Pairwise Apart) : ∀ {is : List Nat} {H' : List Res}, is.Nodup → pick H is = some H' → H'.Pairwise Apart
  | [], H', _, h => by simp [pick] at h; subst h; exact .nil
  | i :: is, H', hn, h => by
    simp only [pick] at h
    split at h
    · rename_i r0 rs h0 hrs
      simp at h
      subst h
      have hn' := List.nodup_cons.1 hn
      refine List.pairwise_cons.2 ⟨fun s hs => ?_, pick_pw hd hn'.2 hrs⟩
      obtain ⟨j, hj, hj'⟩ := pick_mem hrs s hs
      have hji : j ≠ i := fun e => hn'.1 (e ▸ hj)
      have pw := List.pairwise_iff_getElem.1 hd
      have il := (List.getElem?_eq_some_iff.1 h0)
      have jl := (List.getElem?_eq_some_iff.1 hj')
      rcases Nat.lt_or_ge j i with h1 | h1
      · have := pw j i jl.1 il.1 h1
        rw [il.2, jl.2] at this
        exact this.symm
      · have := pw i j il.1 jl.1 (by omega)
        rw [il.2, jl.2] at this
        exact this
    · cases h

theorem Inv.pick {w0 S H w} (h : Inv w0 S H w) {is : List Nat} {H' : List Res} (hn : is.Nodup) (hp : pick H is = some H') : Inv w0 S H' w :=
  ⟨h.keep, fun r hr => let ⟨_, _, hi⟩ := pick_mem hp r hr; h.hs r (List.mem_of_getElem? hi), pick_pw h.dj hn hp,
    fun r hr => let ⟨_, _, hi⟩ := pick_mem hp r hr; h.rng r (List.mem_of_getElem? hi)⟩

/-- what a call returns -/
def Ret (w0 : World) (S : List Nat) (Post : Value → List Res → Prop) : Ending → World → Prop :=
  fun e w' => ∃ v H', e = .returned v ∧ Post v H' ∧ Inv w0 S H' w'

theorem Inv.pre {w0 S H w} (h : Inv w0 S H w) {is : List Nat} {H' : List Res} (hn : is.Nodup) (hp : Proofs.YtamobccbioafmaaDoor.pick H is = some H') : Pre H' w :=
  ⟨(h.pick hn hp).hs, (h.pick hn hp).dj⟩

/-- the world behind a call that was handed some of the resources -/
theorem Inv.called {w0 S H w} (h : Inv w0 S H w) {is js : List Nat} {Hp Hr : List Res} (hn : (is ++ js).Nodup) (hp : Proofs.YtamobccbioafmaaDoor.pick H is = some Hp) (hr : Proofs.YtamobccbioafmaaDoor.pick H js = some Hr)
    {w' : World} {H' : List Res} (hc : Inv w (fp Hp) H' w') : Inv w0 S (H' ++ Hr) w' := by
  have hn1 := (List.nodup_append.1 hn)
  have hP := h.pick hn1.1 hp
  have hR := h.pick hn1.2.1 hr
  have hk := h.keep.size
  have cross : ∀ r ∈ Hr, ∀ b ∈ r.ats, b ∉ fp Hp := fun r hr' b hb hb' => by
    obtain ⟨s, hs, hbs⟩ := List.mem_flatMap.1 hb'
    obtain ⟨i, hi, hi'⟩ := pick_mem hp s hs
    obtain ⟨j, hj, hj'⟩ := pick_mem hr r hr'
    have hij : i ≠ j := fun e => hn1.2.2 i hi j hj e
    have pw := List.pairwise_iff_getElem.1 h.dj
    have il := (List.getElem?_eq_some_iff.1 hi')
    have jl := (List.getElem?_eq_some_iff.1 hj')
    rcases Nat.lt_or_ge i j with h1 | h1
    · have := pw i j il.1 jl.1 h1
      rw [il.2, jl.2] at this
      exact this b hbs hb
    · have := pw j i jl.1 il.1 (by omega)
      rw [il.2, jl.2] at this
      exact this b hb hbs
  refine ⟨⟨hc.keep.os.trans h.keep.os, hc.keep.tape.trans h.keep.tape, hc.keep.output.trans h.keep.output, Nat.le_trans hk hc.keep.size, fun b hb hS => ?_⟩, ?_, ?_, ?_⟩
  · rw [hc.keep.block b (by omega) ?_]
    · exact h.keep.block b hb hS
    · intro hb'
      obtain ⟨s, hs, hbs⟩ := List.mem_flatMap.1 hb'
      rcases hP.rng s hs b hbs with h1 | h1
      · exact hS h1
      · omega
  · intro r hr'
    rcases List.mem_append.1 hr' with h1 | h1
    · exact hc.hs r h1
    · exact Res.congr (hR.hs r h1) fun b hb => hc.keep.block b (hR.lt r h1 b hb) (cross r h1 b hb)
  · refine List.pairwise_append.2 ⟨hc.dj, hR.dj, fun r h1 s h2 b hb hb' => ?_⟩
    rcases hc.rng r h1 b hb with h3 | h3
    · exact cross s h2 b hb' h3
    · have := hR.lt s h2 b hb'
      omega
  · intro r hr' b hb
    rcases List.mem_append.1 hr' with h1 | h1
    · rcases hc.rng r h1 b hb with h3 | h3
      · obtain ⟨s, hs, hbs⟩ := List.mem_flatMap.1 h3
        exact hP.rng s hs b hbs
      · right; omega
    · exact hR.rng r h1 b hb

end Go.Proofs.YtamobccbioafmaaDoor

/-
  Rules for the model's operations and pieces of code, over the lists of XCore.
-/
namespace Go.Proofs.YtamobccbioafmaaDoor
open Go

section
variable {P : Program} {ops : Array Oper} {Q : Exit → Act → World → Prop} {n : Nat} {w0 : World} {S : List Nat}

/-- one operation -/
def OpJ (P : Program) (Q : Exit → Act → World → Prop) (n : Nat) (w0 : World) (S : List Nat) (o : Oper) (L : List (Nat × Value)) (H : List Res) (M : List (Nat × Value) → List Res → Prop) : Prop :=
  ∀ (K : Act → World → Prop), (∀ L' H', M L' H' → ∀ a w, E n a L' → Inv w0 S H' w → K a w) → ∀ a w, E n a L → Inv w0 S H w → o.wp P a w K Q

/-- a list of operations -/
def OpsJ (P : Program) (ops : Array Oper) (Q : Exit → Act → World → Prop) (n : Nat) (w0 : World) (S : List Nat) (l : List Oper) (L : List (Nat × Value)) (H : List Res) : Prop :=
  ∀ a w, E n a L → Inv w0 S H w → wpList P ops Q l a w

/-- a piece of code -/
def CodeJ (P : Program) (Q : Exit → Act → World → Prop) (n : Nat) (w0 : World) (S : List Nat) (c : Code) (L : List (Nat × Value)) (H : List Res) : Prop :=
  ∀ a w, E n a L → Inv w0 S H w → c.wp P Q a w

/-- an exit -/
def ExJ (Q : Exit → Act → World → Prop) (e : Exit) (n : Nat) (w0 : World) (S : List Nat) (L : List (Nat × Value)) (H : List Res) : Prop :=
  ∀ a w, E n a L → Inv w0 S H w → Q e a w

theorem OpsJ.op {o : Oper} {rest : List Oper} {L H} (hg : o.guard = none) (h : OpJ P Q n w0 S o L H (fun L' H' => OpsJ P ops Q n w0 S rest L' H')) : OpsJ P ops Q n w0 S (o :: rest) L H :=
  fun a w hE hI => wpList_plain hg fun K hK => h K (fun _ _ hM a w hE hI => hK a w (hM a w hE hI)) a w hE hI

theorem yielded_of {L : List (Nat × Value)} {a : Act} {j s : Nat} {v : Value} (hE : E n a L) (hj : (ops[j]?).bind (·.dst) = some s) (hv : L.lookup s = some v) :
    yielded ops a.tmps j = (match v with | .bool b => some b | _ => none) := by
  unfold yielded
  rw [hj]
  simp only [Option.bind_some]
  rw [hE.at_ s v hv]
  cases v <;> rfl

/-- a guarded operation whose guard says yes -/
theorem OpsJ.opT {o : Oper} {rest : List Oper} {L H} {j s : Nat} {b : Bool} (hg : o.guard = some (j, b)) (hj : (ops[j]?).bind (·.dst) = some s) (hv : L.lookup s = some (.bool b))
    (h : OpJ P Q n w0 S o L H (fun L' H' => OpsJ P ops Q n w0 S rest L' H')) : OpsJ P ops Q n w0 S (o :: rest) L H :=
  fun a w hE hI => wpList_step fun K hK => by
    have hy := yielded_of (ops := ops) hE hj hv
    have hw : Region.wanted o (yielded ops a.tmps) = true := by simp [Region.wanted, hg, hy]
    rw [if_pos hw]
    exact h K (fun _ _ hM a w hE hI => hK a w (hM a w hE hI)) a w hE hI

/-- a value that is not this bool -/
def notB (b : Bool) : Value → Bool
  | .bool c => c != b
  | _ => true

/-- a guarded operation whose guard says no -/
theorem OpsJ.opF {o : Oper} {rest : List Oper} {L H} {j s d : Nat} {b : Bool} {v : Value} (hg : o.guard = some (j, b)) (hj : (ops[j]?).bind (·.dst) = some s) (hv : L.lookup s = some v) (hb : notB b v = true)
    (hd : o.dst = some d) (hn : d.blt n = true)
    (h : OpsJ P ops Q n w0 S rest ((d, undef) :: L) H) : OpsJ P ops Q n w0 S (o :: rest) L H :=
  fun a w hE hI => wpList_step fun K hK => by
    have hy := yielded_of (ops := ops) hE hj hv
    have hw : Region.wanted o (yielded ops a.tmps) = false := by
      simp only [Region.wanted, hg, hy]
      cases v <;> simp_all [notB]
    rw [if_neg (by simp [hw]), hd]
    exact hK _ _ (h _ _ (hE.put hn) hI)

/-- what a quiet operation yields -/
def Yld (P : Program) (o : Oper) (n : Nat) (L : List (Nat × Value)) (I : World → Prop) (v : Value) : Prop :=
  ∀ a w, E n a L → I w → (execOp a.eval o).run P w = .ok (.value v) w

theorem OpJ.yld {o : Oper} {L H M} {d : Nat} {v : Value} (hd : o.dst = some d) (hn : d.blt n = true) (hy : Yld P o n L (Inv w0 S H) v) (h : M ((d, v) :: L) H) : OpJ P Q n w0 S o L H M :=
  fun K hK a w hE hI => by
    unfold Oper.wp
    rw [hy a w hE hI]
    show K (a.put o.dst v) w
    rw [hd]
    exact hK _ _ h _ _ (hE.put hn) hI

theorem OpsJ.yld {o : Oper} {rest : List Oper} {L H} {d : Nat} {v : Value} (hg : o.guard = none) (hd : o.dst = some d) (hn : d.blt n = true) (hy : Yld P o n L (Inv w0 S H) v) (h : OpsJ P ops Q n w0 S rest ((d, v) :: L) H) : OpsJ P ops Q n w0 S (o :: rest) L H :=
  OpsJ.op hg (OpJ.yld hd hn hy h)

/-- a slot that holds a bool: by cases -/
theorem E.bool {a : Act} {L : List (Nat × Value)} {s : Nat} {c d : Bool} (hE : E n a L) (hs : L.lookup s = some (.bool c)) (h : c = d) : E n a ((s, .bool d) :: L) :=
  ⟨hE.defers, hE.size, fun t v ht => by
    by_cases e : t = s
    · subst e
      simp [List.lookup] at ht
      subst ht
      rw [← h]
      exact hE.at_ t _ hs
    · have : (t == s) = false := by simpa using e
      simp [List.lookup, this] at ht
      exact hE.at_ t v ht⟩
theorem OpsJ.splitB {l : List Oper} {L H} {s : Nat} {c : Bool} (hs : L.lookup s = some (.bool c)) (ht : c = true → OpsJ P ops Q n w0 S l ((s, .bool true) :: L) H) (hf : c = false → OpsJ P ops Q n w0 S l ((s, .bool false) :: L) H) : OpsJ P ops Q n w0 S l L H :=
  fun a w hE hI => by
    cases h : c with
    | true => exact ht h a w (hE.bool hs h) hI
    | false => exact hf h a w (hE.bool hs h) hI
theorem OpsJ.splitP {l : List Oper} {L H} {s : Nat} {p : Prop} [Decidable p] (hs : L.lookup s = some (.bool (decide p))) (ht : p → OpsJ P ops Q n w0 S l ((s, .bool true) :: L) H) (hf : ¬ p → OpsJ P ops Q n w0 S l ((s, .bool false) :: L) H) : OpsJ P ops Q n w0 S l L H :=
  OpsJ.splitB hs (fun h => ht (of_decide_eq_true h)) (fun h => hf (of_decide_eq_false h))

/-- the resources are turned into others that hold wherever they do -/
theorem OpsJ.weaken {l : List Oper} {L H L' H'} (hL : Sub L L') (hH : ∀ w, Inv w0 S H w → Inv w0 S H' w) (h : OpsJ P ops Q n w0 S l L' H') : OpsJ P ops Q n w0 S l L H :=
  fun a w hE hI => h a w (hE.sub hL) (hH w hI)

theorem OpsJ.congrH {l : List Oper} {L H H'} (hH : H = H') (h : OpsJ P ops Q n w0 S l L H') : OpsJ P ops Q n w0 S l L H := hH ▸ h
theorem OpsJ.congrL {l : List Oper} {L L' H} (hL : L = L') (h : OpsJ P ops Q n w0 S l L' H) : OpsJ P ops Q n w0 S l L H := hL ▸ h
theorem CodeJ.weaken {c : Code} {L H L' H'} (hL : Sub L L') (hH : ∀ w, Inv w0 S H w → Inv w0 S H' w) (h : CodeJ P Q n w0 S c L' H') : CodeJ P Q n w0 S c L H :=
  fun a w hE hI => h a w (hE.sub hL) (hH w hI)

theorem CodeJ.pick {c : Code} {L H L' H'} (is : List Nat) (hn : is.Nodup) (hp : pick H is = some H') (hL : Sub L L') (h : CodeJ P Q n w0 S c L' H') : CodeJ P Q n w0 S c L H :=
  fun a w hE hI => h a w (hE.sub hL) (hI.pick hn hp)

/-! ### code -/
theorem CodeJ.region {id : Nat} {l : List Oper} {L H} (h : OpsJ P l.toArray Q n w0 S l L H) : CodeJ P Q n w0 S (.region id l.toArray false) L H :=
  fun a w hE hI => wp_region_lit (h a w hE hI)

theorem CodeJ.seq {x y : Code} {L H} (h : CodeJ P (Exit.then (y.wp P Q) Q) n w0 S x L H) : CodeJ P Q n w0 S (.seq x y) L H :=
  fun a w hE hI => wp_seq (h a w hE hI)

/-- with a cut: what holds behind the first part -/
theorem CodeJ.seqCut {x y : Code} {L H} (N : Act → World → Prop) (h : CodeJ P (Exit.then N Q) n w0 S x L H) (hy : ∀ a w, N a w → y.wp P Q a w) : CodeJ P Q n w0 S (.seq x y) L H :=
  fun a w hE hI => wp_seq (wp_mono (h a w hE hI) fun e a w hq => by cases e <;> first | exact hy a w hq | exact hq)

theorem OpsJ.nil {L H} (h : ExJ Q .normal n w0 S L H) : OpsJ P ops Q n w0 S [] L H := fun a w hE hI => wpList_nil (h a w hE hI)

/-- the end of a region that is followed by y -/
theorem OpsJ.next {y : Code} {L H} (h : CodeJ P Q n w0 S y L H) : OpsJ P ops (Exit.then (y.wp P Q) Q) n w0 S [] L H := fun a w hE hI => wpList_nil (h a w hE hI)

theorem CodeJ.skip {L H} (h : ExJ Q .normal n w0 S L H) : CodeJ P Q n w0 S .skip L H := fun a w hE hI => wp_skip (h a w hE hI)
theorem CodeJ.exit {id : Nat} {L H} (h : ExJ Q (.exit id) n w0 S L H) : CodeJ P Q n w0 S (.exit id) L H := fun a w hE hI => wp_exit (h a w hE hI)
theorem CodeJ.ret {L H} (h : ExJ Q .ret n w0 S L H) : CodeJ P Q n w0 S .ret L H := fun a w hE hI => wp_ret (h a w hE hI)

theorem CodeJ.cond {c : Operand} {x y : Code} {t : Bool} {L H} (hc : ev L c = some (.bool t)) (ht : t = true → CodeJ P Q n w0 S x L H) (hf : t = false → CodeJ P Q n w0 S y L H) : CodeJ P Q n w0 S (.cond c x y) L H :=
  fun a w hE hI => wp_cond_split (hE.eval hc) (fun h => ht h a w hE hI) (fun h => hf h a w hE hI)

theorem CodeJ.condT {c : Operand} {x y : Code} {L H} (hc : ev L c = some (.bool true)) (h : CodeJ P Q n w0 S x L H) : CodeJ P Q n w0 S (.cond c x y) L H :=
  fun a w hE hI => wp_cond_true (hE.eval hc) (h a w hE hI)
theorem CodeJ.condF {c : Operand} {x y : Code} {L H} (hc : ev L c = some (.bool false)) (h : CodeJ P Q n w0 S y L H) : CodeJ P Q n w0 S (.cond c x y) L H :=
  fun a w hE hI => wp_cond_false (hE.eval hc) (h a w hE hI)

/-- a test whose bool is decide p -/
theorem CodeJ.condP {c : Operand} {x y : Code} {p : Prop} [Decidable p] {L H} (hc : ev L c = some (.bool (decide p))) (ht : p → CodeJ P Q n w0 S x L H) (hf : ¬ p → CodeJ P Q n w0 S y L H) : CodeJ P Q n w0 S (.cond c x y) L H :=
  CodeJ.cond hc (fun h => ht (of_decide_eq_true h)) (fun h => hf (of_decide_eq_false h))

theorem CodeJ.block {id : Nat} {c : Code} {L H} (h : CodeJ P (Exit.inBlock id Q) n w0 S c L H) : CodeJ P Q n w0 S (.block id c) L H :=
  fun a w hE hI => wp_block (h a w hE hI)

/-- a loop: its states are told by α -/
theorem CodeJ.loop {α : Type} {c : Code} {L H} (Lk : α → List (Nat × Value)) (Hk : α → List Res) (I : α → Prop) (μ : α → Nat) (k0 : α) (h0 : I k0) (hL : Sub L (Lk k0)) (hH : ∀ w, Inv w0 S H w → Inv w0 S (Hk k0) w)
    (round : ∀ k, I k → CodeJ P (Exit.then (fun a w => ∃ k', I k' ∧ μ k' < μ k ∧ E n a (Lk k') ∧ Inv w0 S (Hk k') w) Q) n w0 S c (Lk k) (Hk k)) : CodeJ P Q n w0 S (.loop c) L H := by
  intro a w hE hI b k cs
  have key : ∀ m k, μ k = m → I k → ∀ a w, E n a (Lk k) → Inv w0 S (Hk k) w →
      ∀ (b : Frame) (k' : List Item) (cs : List Frame), ∃ e a' w', Q e a' w' ∧ Arrives P (lone (b.at a (.code c :: .inLoop c :: k')) cs w) b k' cs e a' w' := by
    intro m
    induction m using Nat.strongRecOn with
    | _ m ih =>
      intro k hm hk a w hE hI b k' cs
      obtain ⟨e, a₁, w₁, hq, harr⟩ := round k hk a w hE hI b (.inLoop c :: k') cs
      cases e with
      | normal =>
        obtain ⟨k2, hk2, hlt, hE2, hI2⟩ := hq
        obtain ⟨e₂, a₂, w₂, hq₂, harr₂⟩ := ih (μ k2) (hm ▸ hlt) k2 rfl hk2 a₁ w₁ hE2 hI2 b k' cs
        exact ⟨e₂, a₂, w₂, hq₂, .of_steps (Steps.trans harr (.one step_inLoop)) harr₂⟩
      | exit id => exact ⟨_, a₁, w₁, hq, .pass (x := .inLoop c) rfl (fun _ _ => .inl (by simp)) harr⟩
      | goto l => exact ⟨_, a₁, w₁, hq, .pass (x := .inLoop c) rfl (fun _ _ => .inl (by simp)) harr⟩
      | ret => exact ⟨_, a₁, w₁, hq, .pass (x := .inLoop c) rfl (fun _ _ => .inl (by simp)) harr⟩
      | panic ch => exact ⟨_, a₁, w₁, hq, .pass (x := .inLoop c) rfl (fun _ _ => .inl (by simp)) harr⟩
      | outgrown => exact ⟨_, a₁, w₁, hq, .pass (x := .inLoop c) rfl (fun _ _ => .inl (by simp)) harr⟩
  obtain ⟨e, a', w', hq, harr⟩ := key _ k0 rfl h0 a w (hE.sub hL) (hH w hI) b k cs
  exact ⟨e, a', w', hq, .of_steps (.one step_loop) harr⟩

/-- a loop: what holds at each round's head of slots, resources and a number that falls -/
theorem CodeJ.loopP {c : Code} {L H L0 H0} {m0 : Nat} (I : List (Nat × Value) → List Res → Nat → Prop) (h0 : I L0 H0 m0) (hL : Sub L L0) (hH : ∀ w, Inv w0 S H w → Inv w0 S H0 w)
    (round : ∀ L H m, I L H m → CodeJ P (Exit.then (fun a w => ∃ L' H' m', I L' H' m' ∧ m' < m ∧ E n a L' ∧ Inv w0 S H' w) Q) n w0 S c L H) : CodeJ P Q n w0 S (.loop c) L H :=
  CodeJ.loop (α := List (Nat × Value) × List Res × Nat) (fun k => k.1) (fun k => k.2.1) (fun k => I k.1 k.2.1 k.2.2) (fun k => k.2.2) (L0, H0, m0) h0 hL hH fun k hk a w hE hI =>
    wp_mono (round k.1 k.2.1 k.2.2 hk a w hE hI) fun e a w hq => by
      cases e with
      | normal => obtain ⟨L', H', m', h1, h2, h3, h4⟩ := hq; exact ⟨(L', H', m'), h1, h2, h3, h4⟩
      | _ => exact hq

theorem ExJ.againP {L H L' H'} {m m' : Nat} {I : List (Nat × Value) → List Res → Nat → Prop} (hI' : I L' H' m') (hm : m' < m) (hL : Sub L L') (hH : ∀ w, Inv w0 S H w → Inv w0 S H' w) :
    ExJ (Exit.then (fun a w => ∃ L' H' m', I L' H' m' ∧ m' < m ∧ E n a L' ∧ Inv w0 S H' w) Q) .normal n w0 S L H :=
  fun _ w hE hI => ⟨L', H', m', hI', hm, hE.sub hL, hH w hI⟩

/-- a cut -/
theorem CodeJ.cutP {x y : Code} {L H} (N : List (Nat × Value) → List Res → Prop) (h : CodeJ P (Exit.then (fun a w => ∃ L' H', N L' H' ∧ E n a L' ∧ Inv w0 S H' w) Q) n w0 S x L H)
    (hy : ∀ L H, N L H → CodeJ P Q n w0 S y L H) : CodeJ P Q n w0 S (.seq x y) L H :=
  CodeJ.seqCut _ h fun a w ⟨L', H', hN, hE, hI⟩ => hy L' H' hN a w hE hI

theorem ExJ.meetP {L H L' H'} {N : List (Nat × Value) → List Res → Prop} (hN : N L' H') (hL : Sub L L') (hH : ∀ w, Inv w0 S H w → Inv w0 S H' w) :
    ExJ (Exit.then (fun a w => ∃ L' H', N L' H' ∧ E n a L' ∧ Inv w0 S H' w) Q) .normal n w0 S L H :=
  fun _ w hE hI => ⟨L', H', hN, hE.sub hL, hH w hI⟩

theorem ExJ.thenN {y : Code} {L H} (h : CodeJ P Q n w0 S y L H) : ExJ (Exit.then (y.wp P Q) Q) .normal n w0 S L H := h
theorem ExJ.thenX {N : Act → World → Prop} {i : Nat} {L H} (h : ExJ Q (.exit i) n w0 S L H) : ExJ (Exit.then N Q) (.exit i) n w0 S L H := h
theorem ExJ.thenR {N : Act → World → Prop} {L H} (h : ExJ Q .ret n w0 S L H) : ExJ (Exit.then N Q) .ret n w0 S L H := h
theorem ExJ.blockN {i : Nat} {L H} (h : ExJ Q .normal n w0 S L H) : ExJ (Exit.inBlock i Q) .normal n w0 S L H := h
theorem ExJ.blockR {i : Nat} {L H} (h : ExJ Q .ret n w0 S L H) : ExJ (Exit.inBlock i Q) .ret n w0 S L H := h
theorem ExJ.blockHit {i : Nat} {L H} (h : ExJ Q .normal n w0 S L H) : ExJ (Exit.inBlock i Q) (.exit i) n w0 S L H := fun a w hE hI => by
  simp only [Exit.inBlock, if_true]
  exact h a w hE hI
theorem ExJ.blockMiss {i j : Nat} {L H} (hij : j ≠ i) (h : ExJ Q (.exit j) n w0 S L H) : ExJ (Exit.inBlock i Q) (.exit j) n w0 S L H := fun a w hE hI => by
  simp only [Exit.inBlock, hij, if_false]
  exact h a w hE hI
theorem ExJ.endN {fn : Func} {R : Ending → World → Prop} {L H} (h : ExJ (bodyPost P fn R) .ret n w0 S L H) : ExJ (bodyPost P fn R) .normal n w0 S L H := h

/-- the loop's round is done: on with the state k' -/
theorem ExJ.again {α : Type} {L H} {Lk : α → List (Nat × Value)} {Hk : α → List Res} {I : α → Prop} {μ : α → Nat} {k : α} (k' : α) (hk : I k') (hm : μ k' < μ k) (hL : Sub L (Lk k')) (hH : ∀ w, Inv w0 S H w → Inv w0 S (Hk k') w) :
    ExJ (Exit.then (fun a w => ∃ k', I k' ∧ μ k' < μ k ∧ E n a (Lk k') ∧ Inv w0 S (Hk k') w) Q) .normal n w0 S L H :=
  fun _ w hE hI => ⟨k', hk, hm, hE.sub hL, hH w hI⟩

/-- a cut's condition is met -/
theorem ExJ.cut {α : Type} {L H} {N : α → List (Nat × Value) × List Res} {I : α → Prop} (k : α) (hk : I k) (hL : Sub L (N k).1) (hH : ∀ w, Inv w0 S H w → Inv w0 S (N k).2 w) :
    ExJ (Exit.then (fun a w => ∃ k, I k ∧ E n a (N k).1 ∧ Inv w0 S (N k).2 w) Q) .normal n w0 S L H :=
  fun _ w hE hI => ⟨k, hk, hE.sub hL, hH w hI⟩

/-- a cut: the states behind the first part are told by α -/
theorem CodeJ.cut {α : Type} {x y : Code} {L H} (N : α → List (Nat × Value) × List Res) (I : α → Prop) (h : CodeJ P (Exit.then (fun a w => ∃ k, I k ∧ E n a (N k).1 ∧ Inv w0 S (N k).2 w) Q) n w0 S x L H)
    (hy : ∀ k, I k → CodeJ P Q n w0 S y (N k).1 (N k).2) : CodeJ P Q n w0 S (.seq x y) L H :=
  CodeJ.seqCut _ h fun a w ⟨k, hk, hE, hI⟩ => hy k hk a w hE hI

/-! ### a function's beginning and its end -/
def argL : Nat → List Value → List (Nat × Value)
  | _, [] => []
  | i, v :: r => (i, v) :: argL (i + 1) r

theorem argL_lookup : ∀ (vs : List Value) (i s : Nat) (v : Value), (argL i vs).lookup s = some v → ∃ j, s = i + j ∧ vs[j]? = some v
  | [], i, s, v, h => by simp [argL] at h
  | u :: r, i, s, v, h => by
    by_cases e : s = i
    · subst e
      simp [argL] at h
      exact ⟨0, by omega, by simp [h]⟩
    · have : (s == i) = false := by simpa using e
      simp [argL, List.lookup, this] at h
      obtain ⟨j, hj, hv⟩ := argL_lookup r (i + 1) s v h
      exact ⟨j + 1, by omega, by simpa using hv⟩

theorem enter {f : FuncId} {fn : Func} {c : Code} {args : List Value} {H : List Res} {R : Ending → World → Prop} (hf : P.funcs[f]? = some fn) (hb : fn.body = some c) (hn : fn.ntmps = n) (hl : args.length.ble n = true)
    (h : CodeJ P (bodyPost P fn R) n w0 S c (argL 0 args) H) (hI : Inv w0 S H w0) : Calls P f args.toArray w0 R := by
  refine calls_of_wp hf hb (h _ w0 ⟨rfl, ?_, ?_⟩ hI)
  · have := Nat.le_of_ble_eq_true hl
    simp [hn]; omega
  · intro s v hs
    obtain ⟨j, hj, hv⟩ := argL_lookup args 0 s v hs
    have hlt : j < args.length := (List.getElem?_eq_some_iff.1 hv).1
    have : s = j := by omega
    subst this
    show (args.toArray ++ _)[s]? = some v
    rw [Array.getElem?_append_left (by simpa using hlt)]
    simpa using hv

/-- the contract of a call that is handed the resources H -/
def Spec (P : Program) (f : FuncId) (args : List Value) (H : List Res) (R : World → Prop) (Post : Value → List Res → Prop) : Prop :=
  ∀ w, Pre H w → R w → Calls P f args.toArray w (Ret w (fp H) Post)

theorem Spec.of {f : FuncId} {fn : Func} {c : Code} {args : List Value} {H : List Res} {R : World → Prop} {Post : Value → List Res → Prop} (hf : P.funcs[f]? = some fn) (hb : fn.body = some c) (hn : fn.ntmps = n) (hl : args.length.ble n = true)
    (h : ∀ w0, R w0 → CodeJ P (bodyPost P fn (Ret w0 (fp H) Post)) n w0 (fp H) c (argL 0 args) H) : Spec P f args H R Post :=
  fun w hw hR => enter hf hb hn hl (h w hR) hw.inv

theorem Spec.mono {f : FuncId} {args : List Value} {H : List Res} {R R' : World → Prop} {Post Post' : Value → List Res → Prop} (h : Spec P f args H R Post) (hr : ∀ w, R' w → R w) (hp : ∀ v H', Post v H' → Post' v H') : Spec P f args H R' Post' :=
  fun w hw hR => (h w hw (hr w hR)).mono fun _ _ ⟨v, H', he, hP, hI⟩ => ⟨v, H', he, hp v H' hP, hI⟩

/-- a return: one result in a slot -/
theorem ExJ.ret1 {fn : Func} {s : Nat} {v : Value} {L H H'} {w1 : World} {S1 : List Nat} {Post : Value → List Res → Prop} (hr : fn.results = #[.tmp s]) (hs : L.lookup s = some v) (hP : Post v H') (hH : ∀ w, Inv w0 S H w → Inv w1 S1 H' w) :
    ExJ (bodyPost P fn (Ret w1 S1 Post)) .ret n w0 S L H := fun a w hE hI => by
  refine ⟨hE.defers, v, ?_, v, H', rfl, hP, hH w hI⟩
  have := hE.at_ s v hs
  simp [results, hr, this]

theorem ExJ.ret2 {fn : Func} {s t : Nat} {v u : Value} {L H H'} {w1 : World} {S1 : List Nat} {Post : Value → List Res → Prop} (hr : fn.results = #[.tmp s, .tmp t]) (hs : L.lookup s = some v) (ht : L.lookup t = some u) (hP : Post (.tuple #[v, u]) H') (hH : ∀ w, Inv w0 S H w → Inv w1 S1 H' w) :
    ExJ (bodyPost P fn (Ret w1 S1 Post)) .ret n w0 S L H := fun a w hE hI => by
  refine ⟨hE.defers, _, ?_, _, H', rfl, hP, hH w hI⟩
  have h1 := hE.at_ s v hs
  have h2 := hE.at_ t u ht
  simp [results, hr, h1, h2]

/-- what the results of a function are, in general -/
theorem ExJ.retOf {fn : Func} {v : Value} {L H H'} {w1 : World} {S1 : List Nat} {Post : Value → List Res → Prop} (hr : ∀ a w, E n a L → Inv w0 S H w → (results fn a.tmps).run P w = .ok v w) (hP : Post v H') (hH : ∀ w, Inv w0 S H w → Inv w1 S1 H' w) :
    ExJ (bodyPost P fn (Ret w1 S1 Post)) .ret n w0 S L H := fun a w hE hI =>
  ⟨hE.defers, v, hr a w hE hI, v, H', rfl, hP, hH w hI⟩
end
end Go.Proofs.YtamobccbioafmaaDoor

/-
  What the quiet operations yield; what the others do to memory.
-/
namespace Go.Proofs.YtamobccbioafmaaDoor
open Go

section
variable {P : Program} {Q : Exit → Act → World → Prop} {n : Nat} {w0 : World} {S : List Nat} {I : World → Prop} {o : Oper} {L : List (Nat × Value)} {H : List Res} {M : List (Nat × Value) → List Res → Prop}

theorem Yld.move {x : Operand} {v : Value} (ho : o.op = .move x) (hx : ev L x = some v) : Yld P o n L I v :=
  fun a w hE _ => by simp only [execOp, ho, hE.eval hx]; rfl
theorem Yld.assign {x : Operand} {v : Value} (ho : o.op = .assign x) (hx : ev L x = some v) : Yld P o n L I v :=
  fun a w hE _ => by simp only [execOp, ho, hE.eval hx]; rfl
theorem Yld.extract {x : Operand} {vs : Array Value} {i : Nat} {v : Value} (ho : o.op = .extract x i) (hx : ev L x = some (.tuple vs)) (hv : vs[i]? = some v) : Yld P o n L I v :=
  fun a w hE _ => by simp [execOp, ho, hE.eval hx, Instr.extract, hv]
theorem Yld.pickT {c x y : Operand} {v : Value} (ho : o.op = .pick c x y) (hc : ev L c = some (.bool true)) (hx : ev L x = some v) : Yld P o n L I v :=
  fun a w hE _ => by simp [execOp, ho, hE.eval hc, asBool, hE.eval hx]
theorem Yld.pickF {c x y : Operand} {v : Value} (ho : o.op = .pick c x y) (hc : ev L c = some (.bool false)) (hy : ev L y = some v) : Yld P o n L I v :=
  fun a w hE _ => by simp [execOp, ho, hE.eval hc, asBool, hE.eval hy]
theorem Yld.nilCheck {x : Operand} {p : Addr} (ho : o.op = .nilCheck x) (hx : ev L x = some (.pointer (some p))) : Yld P o n L I (.pointer (some p)) :=
  fun a w hE _ => by simp [execOp, ho, hE.eval hx]
theorem Yld.nilCheckF {x : Operand} {f : FuncId} {u v : Array Value} (ho : o.op = .nilCheck x) (hx : ev L x = some (.func (.func f) u v)) : Yld P o n L I (.func (.func f) u v) :=
  fun a w hE _ => by simp [execOp, ho, hE.eval hx]
theorem Yld.not {T : TypeId} {x : Operand} {b : Bool} (ho : o.op = .unOp .not T x) (hx : ev L x = some (.bool b)) : Yld P o n L I (.bool (!b)) :=
  fun a w hE _ => by simp [execOp, ho, hE.eval hx, Op.unary]

/-- a struct's field: where it lies -/
def FieldAt (P : Program) (T : TypeId) (f k : Nat) : Prop :=
  (match P.underlying T with
    | some (.struct fs) => (match fs[f]? with
      | some fl => (match P.info? fl.type with
        | some i => if i.size = 0 then none else some fl.offset
        | none => none)
      | none => none)
    | _ => none) = some k
theorem FieldAt.ex {P : Program} {T : TypeId} {f k : Nat} (h : FieldAt P T f k) : ∃ fs fl, P.underlying T = some (.struct fs) ∧ fs[f]? = some fl ∧ fl.offset = k ∧ ∃ i, P.info? fl.type = some i ∧ i.size ≠ 0 := by
  unfold FieldAt at h
  split at h
  · rename_i fs hfs
    split at h
    · rename_i fl hfl
      split at h
      · rename_i i hi
        split at h
        · cases h
        · rename_i hz
          simp at h
          exact ⟨fs, fl, hfs, hfl, h, i, hi, hz⟩
      · cases h
    · cases h
  · cases h

theorem addr_add (b off k : Nat) : (⟨b, off, none⟩ : Addr).add k = ⟨b, off + k, none⟩ := by
  unfold Addr.add
  split
  · subst_vars; rfl
  · rfl

theorem Yld.fieldAddr {T : TypeId} {x : Operand} {f k b off : Nat} (hf : FieldAt P T f k) (ho : o.op = .fieldAddr T x f) (hx : ev L x = some (.pointer (some ⟨b, off, none⟩))) : Yld P o n L I (.pointer (some ⟨b, off + k, none⟩)) :=
  fun a w hE _ => by
    obtain ⟨fs, fl, h1, h2, rfl, i, h3, h4⟩ := hf.ex
    simp [execOp, ho, hE.eval hx, Instr.fieldAt, run_underlying h1, h2, Instr.sureAddr, fieldPlace, sizeOf, typeInfo, h3, h4, addr_add]

theorem Yld.lenString {xs : Array Operand} {ats : Array TypeId} {x : Operand} {T : TypeId} {s : ByteArray} (ho : o.op = .call ⟨.builtin .len, xs, ats⟩) (h1 : xs = #[x]) (h2 : ats = #[T]) (hu : P.underlying T = some .string) (hx : ev L x = some (.string s)) : Yld P o n L I (.int .i64 s.size) :=
  fun a w hE _ => by simp [execOp, ho, h1, h2, resolve, invoke, builtin, hE.eval hx, Builtin.len_, run_underlying hu, goInt]
theorem Yld.lenSlice {xs : Array Operand} {ats : Array TypeId} {x : Operand} {T e : TypeId} {p : Option Addr} {l c : Nat} (ho : o.op = .call ⟨.builtin .len, xs, ats⟩) (h1 : xs = #[x]) (h2 : ats = #[T]) (hu : P.underlying T = some (.slice e)) (hx : ev L x = some (.slice p l c)) : Yld P o n L I (.int .i64 l) :=
  fun a w hE _ => by simp [execOp, ho, h1, h2, resolve, invoke, builtin, hE.eval hx, Builtin.len_, run_underlying hu, goInt]

/-- two integers of one kind -/
def intBin : BinOp → IntKind → Int → Int → Option Value
  | .add, k, x, y => some (.int k (k.wrap (x + y)))
  | .sub, k, x, y => some (.int k (k.wrap (x - y)))
  | .mul, k, x, y => some (.int k (k.wrap (x * y)))
  | .and, k, x, y => some (.int k (k.wrap (BitVec.ofInt k.bits x &&& BitVec.ofInt k.bits y).toNat))
  | .or, k, x, y => some (.int k (k.wrap (BitVec.ofInt k.bits x ||| BitVec.ofInt k.bits y).toNat))
  | .andNot, k, x, y => some (.int k (k.wrap (BitVec.ofInt k.bits x &&& ~~~BitVec.ofInt k.bits y).toNat))
  | .eql, _, x, y => some (.bool (x == y))
  | .neq, _, x, y => some (.bool (x != y))
  | .lss, _, x, y => some (.bool (decide (x < y)))
  | .leq, _, x, y => some (.bool (decide (x ≤ y)))
  | .gtr, _, x, y => some (.bool (decide (x > y)))
  | .geq, _, x, y => some (.bool (decide (x ≥ y)))
  | _, _, _, _ => none

theorem Yld.intBin {op : BinOp} {T T2 : TypeId} {x y : Operand} {k : IntKind} {p q : Int} {v : Value} (ho : o.op = .binOp op T x y T2) (hx : ev L x = some (.int k p)) (hy : ev L y = some (.int k q)) (hv : intBin op k p q = some v) : Yld P o n L I v :=
  fun a w hE _ => by
    simp only [execOp, ho, hE.eval hx, hE.eval hy]
    cases op <;> simp only [Proofs.YtamobccbioafmaaDoor.intBin, Option.some.injEq, reduceCtorEq] at hv <;> subst hv <;>
      simp [eqGuard, binOp, Op.intArith, Op.intBits, Op.intCmp]

theorem Yld.shr {T T2 : TypeId} {x y : Operand} {k k2 : IntKind} {p q : Int} (ho : o.op = .binOp .shr T x y T2) (hx : ev L x = some (.int k p)) (hy : ev L y = some (.int k2 q)) (hq : decide (0 ≤ q) = true) : Yld P o n L I (.int k (p.fdiv (2 ^ min q.toNat k.bits))) :=
  fun a w hE _ => by
    simp only [execOp, ho, hE.eval hx, hE.eval hy]
    have : ¬ (q < 0) := by have := of_decide_eq_true hq; omega
    simp [eqGuard, binOp, Op.shift, this]
theorem Yld.shl {T T2 : TypeId} {x y : Operand} {k k2 : IntKind} {p q : Int} (ho : o.op = .binOp .shl T x y T2) (hx : ev L x = some (.int k p)) (hy : ev L y = some (.int k2 q)) (hq : decide (0 ≤ q) = true) : Yld P o n L I (.int k (k.wrap (p * 2 ^ min q.toNat k.bits))) :=
  fun a w hE _ => by
    simp only [execOp, ho, hE.eval hx, hE.eval hy]
    have : ¬ (q < 0) := by have := of_decide_eq_true hq; omega
    simp [eqGuard, binOp, Op.shift, this]

theorem Yld.strEq {T T2 : TypeId} {x y : Operand} {s t : ByteArray} (ho : o.op = .binOp .eql T x y T2) (hx : ev L x = some (.string s)) (hy : ev L y = some (.string t)) : Yld P o n L I (.bool (s.toList == t.toList)) :=
  fun a w hE _ => by
    simp only [execOp, ho, hE.eval hx, hE.eval hy]
    simp [eqGuard, binOp, Op.stringOp]
theorem equal_step (t : TypeId) (x y : Value) : ∃ d, Op.equal t x y = Op.equalIn (d + 1) t x y := ⟨9999, rfl⟩
theorem Yld.boolEq {T T2 : TypeId} {x y : Operand} {s t : Bool} (ho : o.op = .binOp .eql T x y T2) (hu : P.underlying T = some .bool) (hx : ev L x = some (.bool s)) (hy : ev L y = some (.bool t)) : Yld P o n L I (.bool (s == t)) :=
  fun a w hE _ => by
    simp only [execOp, ho, hE.eval hx, hE.eval hy]
    obtain ⟨d, hd⟩ := equal_step T (.bool s) (.bool t)
    simp [eqGuard, binOp, hd, Op.equalIn, run_underlying hu]
theorem Yld.boolNe {T T2 : TypeId} {x y : Operand} {s t : Bool} (ho : o.op = .binOp .neq T x y T2) (hu : P.underlying T = some .bool) (hx : ev L x = some (.bool s)) (hy : ev L y = some (.bool t)) : Yld P o n L I (.bool (!(s == t))) :=
  fun a w hE _ => by
    simp only [execOp, ho, hE.eval hx, hE.eval hy]
    obtain ⟨d, hd⟩ := equal_step T (.bool s) (.bool t)
    simp [eqGuard, binOp, hd, Op.equalIn, run_underlying hu]

/-- an interface value against the literal nil -/
def isNilI : Value → Option Bool
  | .nilIface => some true
  | .iface _ _ => some false
  | _ => none
theorem Yld.ifaceEqNil {T T2 : TypeId} {x : Operand} {v : Value} {b : Bool} {ms : Array (String × TypeId)} (ho : o.op = .binOp .eql T x (.const .nilIface) T2) (hu : P.underlying T = some (.interface ms)) (hx : ev L x = some v) (hb : isNilI v = some b) : Yld P o n L I (.bool b) :=
  fun a w hE _ => by
    have he : a.eval (.const .nilIface) = .nilIface := rfl
    simp only [execOp, ho, hE.eval hx, he]
    obtain ⟨d, hd⟩ := equal_step T v .nilIface
    cases v <;> simp only [isNilI, Option.some.injEq, reduceCtorEq] at hb <;> subst hb <;> simp [eqGuard, binOp, hd, Op.equalIn, run_underlying hu]
theorem Yld.ifaceNeNil {T T2 : TypeId} {x : Operand} {v : Value} {b : Bool} {ms : Array (String × TypeId)} (ho : o.op = .binOp .neq T x (.const .nilIface) T2) (hu : P.underlying T = some (.interface ms)) (hx : ev L x = some v) (hb : isNilI v = some b) : Yld P o n L I (.bool (!b)) :=
  fun a w hE _ => by
    have he : a.eval (.const .nilIface) = .nilIface := rfl
    simp only [execOp, ho, hE.eval hx, he]
    obtain ⟨d, hd⟩ := equal_step T v .nilIface
    cases v <;> simp only [isNilI, Option.some.injEq, reduceCtorEq] at hb <;> subst hb <;> simp [eqGuard, binOp, hd, Op.equalIn, run_underlying hu]
theorem Yld.mapNeNil {T T2 k e : TypeId} {x : Operand} {r : Option Nat} (ho : o.op = .binOp .neq T x (.const (.map none)) T2) (hu : P.underlying T = some (.map k e)) (hx : ev L x = some (.map r)) : Yld P o n L I (.bool r.isSome) :=
  fun a w hE _ => by
    have he : a.eval (.const (.map none)) = .map none := rfl
    simp only [execOp, ho, hE.eval hx, he]
    obtain ⟨d, hd⟩ := equal_step T (.map r) (.map none)
    cases r <;> simp [eqGuard, binOp, hd, Op.equalIn, run_underlying hu]
theorem Yld.sliceEqNil {T T2 e : TypeId} {x : Operand} {p : Option Addr} {l c : Nat} (ho : o.op = .binOp .eql T x (.const (.slice none 0 0)) T2) (hu : P.underlying T = some (.slice e)) (hx : ev L x = some (.slice p l c)) : Yld P o n L I (.bool p.isNone) :=
  fun a w hE _ => by
    have he : a.eval (.const (.slice none 0 0)) = .slice none 0 0 := rfl
    simp only [execOp, ho, hE.eval hx, he]
    obtain ⟨d, hd⟩ := equal_step T (.slice p l c) (.slice none 0 0)
    cases p <;> simp [eqGuard, binOp, hd, Op.equalIn, run_underlying hu]

theorem Yld.convInt {src dst : TypeId} {x : Operand} {k k2 : IntKind} {p : Int} {d : TypeDesc} (ho : o.op = .convert src dst x) (hs : P.underlying src = some d) (hu : P.underlying dst = some (.int k2)) (hx : ev L x = some (.int k p)) : Yld P o n L I (.int k2 (k2.wrap p)) :=
  fun a w hE _ => by simp [execOp, ho, hE.eval hx, convert, run_underlying hs, run_underlying hu, Conv.intToInt]

theorem Yld.makeInterface {T : TypeId} {x : Operand} {v : Value} {d : TypeDesc} (ho : o.op = .makeInterface T x) (hu : P.underlying T = some d) (hd : (match d with | .interface _ => false | _ => true) = true) (hx : ev L x = some v) : Yld P o n L I (.iface T v) :=
  fun a w hE _ => by
    simp only [execOp, ho, hE.eval hx]
    cases d <;> simp_all [Instr.makeInterface, run_underlying hu]

theorem Yld.index {T : TypeId} {x y : Operand} {s : ByteArray} {k : IntKind} {i : Nat} {b : UInt8} (ho : o.op = .index T x y) (hu : P.underlying T = some .string) (hx : ev L x = some (.string s)) (hy : ev L y = some (.int k i)) (hb : s.data.toList[i]? = some b) : Yld P o n L I (.int .u8 b.toNat) :=
  fun a w hE _ => by
    have hi : i < s.size := by
      have := (List.getElem?_eq_some_iff.1 hb).1
      simpa using this
    have hb' : s[i] = b := by
      have := (List.getElem?_eq_some_iff.1 hb).2
      simp only [Array.getElem_toList] at this
      exact this
    simp [execOp, ho, hE.eval hx, hE.eval hy, Instr.index, asIntOf, run_underlying hu, hi, hb']

/-- the cells of a slice's element i -/
theorem Yld.indexAddr {T e : TypeId} {x y : Operand} {b off l c : Nat} {k : IntKind} {i sz : Nat} (ho : o.op = .indexAddr T x y) (hu : P.underlying T = some (.slice e)) (hz : (P.info? e).map (·.size) = some sz) (hx : ev L x = some (.slice (some ⟨b, off, none⟩) l c)) (hy : ev L y = some (.int k i)) (hi : i < l) :
    Yld P o n L I (.pointer (some ⟨b, off + i * sz, none⟩)) :=
  fun a w hE _ => by
    cases hq : P.info? e with
    | none => simp [hq] at hz
    | some t =>
      have ht : t.size = sz := by simpa [hq] using hz
      simp [execOp, ho, hE.eval hx, hE.eval hy, Instr.indexAt, asIntOf, run_underlying hu, hi, sizeOf, typeInfo, hq, ht, addr_add]
theorem Yld.indexAddrArr {T e : TypeId} {x y : Operand} {b off l : Nat} {k : IntKind} {i sz : Nat} (ho : o.op = .indexAddr T x y) (hu : P.underlying T = some (.array l e)) (hz : (P.info? e).map (·.size) = some sz) (hx : ev L x = some (.pointer (some ⟨b, off, none⟩))) (hy : ev L y = some (.int k i)) (hi : i < l) :
    Yld P o n L I (.pointer (some ⟨b, off + i * sz, none⟩)) :=
  fun a w hE _ => by
    cases hq : P.info? e with
    | none => simp [hq] at hz
    | some t =>
      have ht : t.size = sz := by simpa [hq] using hz
      simp [execOp, ho, hE.eval hx, hE.eval hy, Instr.indexAt, asIntOf, run_underlying hu, hi, sizeOf, typeInfo, hq, ht, addr_add, Instr.sureAddr]

/-! ### reading memory -/
/-- the k cells at (b, off) hold vs -/
def Cells (w : World) (b off : Nat) (vs : List Value) : Prop := ∃ c T fr, w.heap[b]? = some (.cells c T fr) ∧ off + vs.length ≤ c.size ∧ (c.toList.drop off).take vs.length = vs

theorem Cells.cell {w : World} {b off : Nat} {vs : List Value} (h : Cells w b off vs) (j : Nat) (v : Value) (hj : vs[j]? = some v) : w.cell? ⟨b, off + j, none⟩ = some v := by
  obtain ⟨c, T, fr, hb, hl, hv⟩ := h
  have hjl : j < vs.length := (List.getElem?_eq_some_iff.1 hj).1
  have h1 : c[off + j]? = some v := by
    rw [← hv, List.getElem?_take, if_pos hjl, List.getElem?_drop] at hj
    simpa using hj
  simp [World.cell?, hb, h1]

theorem Cells.congr {w w' : World} {b off : Nat} {vs : List Value} (h : Cells w b off vs) (hb : w'.heap[b]? = w.heap[b]?) : Cells w' b off vs := by
  obtain ⟨c, T, fr, h1, h2⟩ := h
  exact ⟨c, T, fr, hb.trans h1, h2⟩

theorem Cells.lt {w : World} {b off : Nat} {vs : List Value} (h : Cells w b off vs) : b < w.heap.size := by
  obtain ⟨c, T, fr, hb, _⟩ := h
  exact (Array.getElem?_eq_some_iff.1 hb).1

theorem Cells.keep {w w' : World} {S : List Nat} {b off : Nat} {vs : List Value} (h : Cells w b off vs) (hk : Keep S w w') (hS : b ∉ S) : Cells w' b off vs :=
  h.congr (hk.block b h.lt hS)

theorem Cells.part {w : World} {b off : Nat} {vs us : List Value} {k : Nat} (h : Cells w b off vs) (hu : (vs.drop k).take us.length = us) (hk : k + us.length ≤ vs.length) : Cells w b (off + k) us := by
  obtain ⟨c, T, fr, hb, hl, hv⟩ := h
  refine ⟨c, T, fr, hb, by omega, ?_⟩
  rw [← hu, ← hv]
  have h1 : min us.length (min vs.length (c.toList.length - off) - k) = us.length := by
    simp only [Array.length_toList]; omega
  apply List.ext_getElem?
  intro j
  simp only [List.getElem?_take, List.getElem?_drop, List.length_take, List.length_drop, h1]
  by_cases hj : j < us.length
  · have h2 : k + j < vs.length := by omega
    simp [hj, h2, Nat.add_assoc]
  · simp [hj]

theorem Cells.one {w : World} {b off k : Nat} {vs : List Value} {v : Value} (h : Cells w b off vs) (hk : vs[k]? = some v) : Cells w b (off + k * 1) [v] := by
  have hl := List.getElem?_eq_some_iff.1 hk
  rw [Nat.mul_one]
  refine h.part (k := k) ?_ (by have := hl.1; simp only [List.length_cons, List.length_nil]; omega)
  rw [List.drop_eq_getElem_cons hl.1]
  simp [hl.2]

theorem Yld.load1 {T : TypeId} {x : Operand} {b off : Nat} {v : Value} {d : TypeDesc} (ho : o.op = .load T x) (hu : P.underlying T = some d) (hd : (match d with | .struct _ | .array _ _ => false | _ => true) = true) (hx : ev L x = some (.pointer (some ⟨b, off, none⟩)))
    (hc : ∀ w, I w → Cells w b off [v]) : Yld P o n L I v :=
  fun a w hE hI => by
    have h := (hc w hI).cell 0 v rfl
    simp only [Nat.add_zero] at h
    simp only [execOp, ho, hE.eval hx]
    cases d <;> simp_all [Instr.loadAt, Instr.sureAddr, loadVar, isAgg, run_underlying hu]

theorem Yld.loadN {T : TypeId} {x : Operand} {b off : Nat} {vs : List Value} {d : TypeDesc} (ho : o.op = .load T x) (hu : P.underlying T = some d) (hd : (match d with | .struct _ | .array _ _ => true | _ => false) = true) (hz : (P.info? T).map (·.size) = some vs.length) (hx : ev L x = some (.pointer (some ⟨b, off, none⟩)))
    (hc : ∀ w, I w → Cells w b off vs) : Yld P o n L I (.agg vs.toArray) :=
  fun a w hE hI => by
    have h := run_loadCells_list (P := P) w ⟨b, off, none⟩ vs fun j v hj => by rw [addr_add]; exact (hc w hI).cell j v hj
    cases hq : P.info? T with
    | none => simp [hq] at hz
    | some t =>
      have ht : t.size = vs.length := by simpa [hq] using hz
      simp only [execOp, ho, hE.eval hx]
      cases d <;> simp_all [Instr.loadAt, Instr.sureAddr, loadVar, isAgg, run_underlying hu, sizeOf, typeInfo]

theorem Inv.cells {w : World} (h : Inv w0 S H w) {i b : Nat} {cs : Array Value} {T : TypeId} (hi : H[i]? = some (.blk b cs T)) {off : Nat} {vs : List Value} (hv : (cs.toList.drop off).take vs.length = vs) (hl : off + vs.length ≤ cs.size) : Cells w b off vs :=
  ⟨cs, T, (0, 0), h.hs _ (List.mem_of_getElem? hi), hl, hv⟩
theorem Inv.cell1 {w : World} (h : Inv w0 S H w) {i b : Nat} {cs : Array Value} {T : TypeId} (hi : H[i]? = some (.blk b cs T)) {off : Nat} {v : Value} (hv : cs[off]? = some v) : Cells w b off [v] := by
  have hl := (Array.getElem?_eq_some_iff.1 hv)
  refine h.cells hi ?_ (by have := hl.1; simp only [List.length_cons, List.length_nil]; omega)
  have : off < cs.toList.length := by simpa using hl.1
  rw [List.drop_eq_getElem_cons this]
  simpa using hl.2
/-- memory that was there when the call began, and is none of its own -/
theorem Inv.old {w : World} (h : Inv w0 S H w) {b off : Nat} {vs : List Value} (hc : Cells w0 b off vs) (hb : b ∉ S) : Cells w b off vs := hc.keep h.keep hb
end
end Go.Proofs.YtamobccbioafmaaDoor

/-
  The operations that change memory.
-/
namespace Go.Proofs.YtamobccbioafmaaDoor
open Go

section
variable {P : Program} {Q : Exit → Act → World → Prop} {n : Nat} {w0 : World} {S : List Nat} {o : Oper} {L : List (Nat × Value)} {H : List Res} {M : List (Nat × Value) → List Res → Prop}

/-- an operation that runs to a value in a new world -/
theorem OpJ.val {d : Nat} (hd : o.dst = some d) (hn : d.blt n = true)
    (h : ∀ a w, E n a L → Inv w0 S H w → ∃ v w' H', (execOp a.eval o).run P w = .ok (.value v) w' ∧ Inv w0 S H' w' ∧ M ((d, v) :: L) H') : OpJ P Q n w0 S o L H M :=
  fun K hK a w hE hI => by
    obtain ⟨v, w', H', hr, hI', hM⟩ := h a w hE hI
    unfold Oper.wp
    rw [hr]
    show K (a.put o.dst v) w'
    rw [hd]
    exact hK _ _ hM _ _ (hE.put hn) hI'

/-- an operation that runs to nothing in a new world -/
theorem OpJ.eff (hd : o.dst = none)
    (h : ∀ a w, E n a L → Inv w0 S H w → ∃ w' H', (execOp a.eval o).run P w = .ok .skip w' ∧ Inv w0 S H' w' ∧ M L H') : OpJ P Q n w0 S o L H M :=
  fun K hK a w hE hI => by
    obtain ⟨w', H', hr, hI', hM⟩ := h a w hE hI
    unfold Oper.wp
    rw [hr]
    show K (a.put o.dst undef) w'
    rw [hd]
    exact hK _ _ hM _ _ hE hI'

theorem OpJ.alloc {T : TypeId} {d : Nat} {z : Value} (ho : o.op = .alloc T) (hd : o.dst = some d) (hn : d.blt n = true) (hz : (P.info? T).bind (·.zero) = some z)
    (h : ∀ b, w0.heap.size ≤ b → M ((d, .pointer (some ⟨b, 0, none⟩)) :: L) (.blk b z.cells T :: H)) : OpJ P Q n w0 S o L H M :=
  OpJ.val hd hn fun a w _ hI => by
    cases hq : P.info? T with
    | none => simp [hq] at hz
    | some i =>
      have hz' : i.zero = some z := by simpa [hq] using hz
      refine ⟨_, w.alloc (.cells z.cells T), _, ?_, hI.new (w.alloc (.cells z.cells T)) _ rfl rfl rfl rfl (.blk w.heap.size z.cells T) ?_ (by simp [Res.ats]), h w.heap.size hI.keep.size⟩
      · simp [execOp, ho, Instr.alloc, zeroValue, typeInfo, hq, hz', newVar, newRow]
      · exact heap_alloc_new w _

theorem OpJ.box {T : TypeId} {d : Nat} {x : Operand} {v : Value} (ho : o.op = .box T x) (hd : o.dst = some d) (hn : d.blt n = true) (hx : ev L x = some v)
    (h : ∀ b, w0.heap.size ≤ b → M ((d, .pointer (some ⟨b, 0, none⟩)) :: L) (.blk b v.cells T :: H)) : OpJ P Q n w0 S o L H M :=
  OpJ.val hd hn fun a w hE hI => by
    refine ⟨_, w.alloc (.cells v.cells T), _, ?_, hI.new (w.alloc (.cells v.cells T)) _ rfl rfl rfl rfl (.blk w.heap.size v.cells T) ?_ (by simp [Res.ats]), h w.heap.size hI.keep.size⟩
    · simp [execOp, ho, Instr.box, hE.eval hx, newVar, newRow]
    · exact heap_alloc_new w _

/-- cells written into a row -/
def setCs (cs : Array Value) (off : Nat) (vs : List Value) : Array Value := (cs.toList.take off ++ vs ++ cs.toList.drop (off + vs.length)).toArray

theorem setCs_size {cs : Array Value} {off : Nat} {vs : List Value} (h : off + vs.length ≤ cs.size) : (setCs cs off vs).size = cs.size := by
  simp [setCs]; omega

def oneCells (vs : List Value) : Bool := vs.all Value.oneCell'

theorem heap_setRow_other (w : World) (g : Nat) (cs : Array Value) {b : Nat} (h : b ≠ g) : (w.setRow g cs).heap[b]? = w.heap[b]? := by
  simp only [World.setRow, Array.getElem?_modify]
  rw [if_neg (fun e => h e.symm)]

/-- a row of a resource is written -/
theorem Inv.setRow {w : World} (hI : Inv w0 S H w) {i b : Nat} {cs : Array Value} {T : TypeId} (hi : H[i]? = some (.blk b cs T)) (cs' : Array Value) : Inv w0 S (H.set i (.blk b cs' T)) (w.setRow b cs') :=
  hI.turn hi (w.setRow b cs') rfl rfl rfl (by simp) (fun b' _ hb' => heap_setRow_other w b cs' (by simpa [Res.ats] using hb'))
    (setRow_heap w b cs cs' T _ (hI.hs _ (List.mem_of_getElem? hi))) (fun b' hb' => .inl hb')

theorem OpJ.store {T T' : TypeId} {x y : Operand} {b off i : Nat} {v : Value} {cs : Array Value} (ho : o.op = .store T x y) (hd : o.dst = none) (hx : ev L x = some (.pointer (some ⟨b, off, none⟩))) (hy : ev L y = some v)
    (hz : (P.info? T).map (·.size) = some v.cells.size) (hi : H[i]? = some (.blk b cs T')) (h1 : oneCells v.cells.toList = true) (hl : (off + v.cells.size).ble cs.size = true)
    (h : M L (H.set i (.blk b (setCs cs off v.cells.toList) T'))) : OpJ P Q n w0 S o L H M :=
  OpJ.eff hd fun a w hE hI => by
    have hb : w.heap[b]? = some (.cells cs T' (0, 0)) := hI.hs _ (List.mem_of_getElem? hi)
    have hl' := Nat.le_of_ble_eq_true hl
    have hone : ∀ u ∈ v.cells.toList, u.oneCell' = true := List.all_eq_true.1 h1
    have hst := run_storeCells_at P b off T' v.cells.toList 0 cs w hb (by simpa using hl') hone
    refine ⟨_, _, ?_, hI.setRow hi (setCs cs off v.cells.toList), h⟩
    cases hq : P.info? T with
    | none => simp [hq] at hz
    | some t =>
      have ht : t.size = v.cells.size := by simpa [hq] using hz
      simp only [Nat.add_zero] at hst
      simp [execOp, ho, Instr.storeAt, Instr.sureAddr, hE.eval hx, hE.eval hy, storeVar, sizeOf, typeInfo, hq, ht, hst, setCs]

/-- a whole block -/
theorem OpJ.storeW {T T' : TypeId} {x y : Operand} {b i : Nat} {v : Value} {cs : Array Value} (ho : o.op = .store T x y) (hd : o.dst = none) (hx : ev L x = some (.pointer (some ⟨b, 0, none⟩))) (hy : ev L y = some v)
    (hz : (P.info? T).map (·.size) = some v.cells.size) (hi : H[i]? = some (.blk b cs T')) (h1 : oneCells v.cells.toList = true) (hl : v.cells.size = cs.size)
    (h : M L (H.set i (.blk b v.cells T'))) : OpJ P Q n w0 S o L H M :=
  OpJ.store ho hd hx hy hz hi h1 (by rw [hl]; simp) (by
    have : setCs cs 0 v.cells.toList = v.cells := by
      simp only [setCs, List.take_zero, List.nil_append, Nat.zero_add, Array.length_toList, hl]
      rw [List.drop_of_length_le (by simp), List.append_nil]
    rw [this]
    exact h)

/-- one cell -/
theorem OpJ.store1 {T T' : TypeId} {x y : Operand} {b off i : Nat} {v : Value} {cs : Array Value} (ho : o.op = .store T x y) (hd : o.dst = none) (hx : ev L x = some (.pointer (some ⟨b, off, none⟩))) (hy : ev L y = some v)
    (h1 : v.oneCell' = true) (hz : (P.info? T).map (·.size) = some 1) (hi : H[i]? = some (.blk b cs T')) (hl : (off + 1).ble cs.size = true)
    (h : M L (H.set i (.blk b (setCs cs off [v]) T'))) : OpJ P Q n w0 S o L H M := by
  have hc : v.cells = #[v] := by cases v <;> first | rfl | (simp [Value.oneCell'] at h1)
  refine OpJ.store ho hd hx hy (by rw [hc]; exact hz) hi (by rw [hc]; simp [oneCells, h1]) (by rw [hc]; exact hl) ?_
  rw [hc]
  exact h

theorem OpJ.makeMap {T : TypeId} {d : Nat} (ho : o.op = .makeMap T none) (hd : o.dst = some d) (hn : d.blt n = true)
    (h : ∀ b, w0.heap.size ≤ b → M ((d, .map (some b)) :: L) (.mp (some b) [] :: H)) : OpJ P Q n w0 S o L H M :=
  OpJ.val hd hn fun a w _ hI => by
    refine ⟨_, w.alloc (.map #[] 0), _, ?_, hI.new (w.alloc (.map #[] 0)) _ rfl rfl rfl rfl (.mp (some w.heap.size) []) ⟨#[], 0, heap_alloc_new w _, rfl⟩ (by simp [Res.ats]), h w.heap.size hI.keep.size⟩
    simp [execOp, ho, Instr.makeMap]

/-! ### a call -/
def evs (L : List (Nat × Value)) : List Operand → Option (List Value)
  | [] => some []
  | x :: r => match ev L x, evs L r with
    | some v, some vs => some (v :: vs)
    | _, _ => none

theorem evs_map {a : Act} (hE : E n a L) : ∀ {xs : List Operand} {vs : List Value}, evs L xs = some vs → xs.map a.eval = vs
  | [], vs, h => by simp [evs] at h; simp [h]
  | x :: r, vs, h => by
    simp only [evs] at h
    split at h
    · rename_i v us hv hu
      simp at h
      subst h
      simp [hE.eval hv, evs_map hE hu]
    · cases h

/-- a Go function that the program has -/
structure Has (P : Program) (f : FuncId) : Prop where
  ex : ∃ fn, P.funcs[f]? = some fn ∧ (fn.name == "runtime.NumGoroutine") = false ∧ fn.body.isNone = false

theorem run_call {f : FuncId} (hf : Has P f) (vs : Array Value) (w : World) : (callFunc f vs).run P w = .ok (.enter f vs) w := by
  obtain ⟨fn, h1, h2, h3⟩ := hf.ex
  have h2' : ¬ fn.name = "runtime.NumGoroutine" := by simpa using h2
  have h3' : ¬ fn.body = none := fun h => by simp [h] at h3
  simp [callFunc, h1, h2', h3']

theorem OpJ.callW {f : FuncId} {d : Nat} {xs : List Operand} {ats : Array TypeId} {vs : List Value} {g : Operand} {first cap : Array Value} (hf : Has P f) (ho : o.op = .call ⟨.value g, xs.toArray, ats⟩) (hg : ev L g = some (.func (.func f) first cap)) (hd : o.dst = some d) (hn : d.blt n = true) (hv : evs L xs = some vs)
    (h : ∀ w, Inv w0 S H w → Calls P f (first ++ vs.toArray ++ cap) w fun e w' => ∃ v H', e = .returned v ∧ Inv w0 S H' w' ∧ M ((d, v) :: L) H') : OpJ P Q n w0 S o L H M :=
  fun K hK a w hE hI => by
    have hm := evs_map hE hv
    have hrun : (execOp a.eval o).run P w = .ok (.enter f (first ++ vs.toArray ++ cap)) w := by
      simp [execOp, ho, resolve, hE.eval hg, Deferred.ofValue, invoke, hm, run_call hf]
    unfold Oper.wp
    rw [hrun]
    refine (h w hI).mono fun e w' ⟨v, H', he, hI', hM⟩ => ?_
    subst he
    show K (a.put o.dst v) w'
    rw [hd]
    exact hK _ _ hM _ _ (hE.put hn) hI'

/-- a call by its contract: is: the places of the resources that it is handed; js: the others -/
theorem OpJ.call {f : FuncId} {d : Nat} {xs : List Operand} {ats : Array TypeId} {vs : List Value} {g : Operand} {Hp Hr : List Res} {R : World → Prop} {Post : Value → List Res → Prop} (hs : Spec P f vs Hp R Post) (hf : Has P f) (ho : o.op = .call ⟨.value g, xs.toArray, ats⟩) (hg : ev L g = some (.func (.func f) #[] #[])) (hd : o.dst = some d) (hn : d.blt n = true) (hv : evs L xs = some vs)
    (is js : List Nat) (hnd : (is ++ js).Nodup) (hp : pick H is = some Hp) (hr : pick H js = some Hr) (hR : ∀ w, Inv w0 S H w → R w)
    (h : ∀ v H', Post v H' → M ((d, v) :: L) (H' ++ Hr)) : OpJ P Q n w0 S o L H M :=
  OpJ.callW hf ho hg hd hn hv fun w hI => by
    have := hs w (hI.pre (List.nodup_append.1 hnd).1 hp) (hR w hI)
    simp only [Array.empty_append, Array.append_empty]
    exact this.mono fun e w' ⟨v, H', he, hP, hI'⟩ => ⟨v, H' ++ Hr, he, hI.called hnd hp hr hI', h v H' hP⟩

/-- a call of a function value that holds captured values -/
theorem OpJ.callC {f : FuncId} {d : Nat} {xs : List Operand} {ats : Array TypeId} {vs : List Value} {g : Operand} {cap : List Value} {Hp Hr : List Res} {R : World → Prop} {Post : Value → List Res → Prop} (hs : Spec P f (vs ++ cap) Hp R Post) (hf : Has P f) (ho : o.op = .call ⟨.value g, xs.toArray, ats⟩) (hg : ev L g = some (.func (.func f) #[] cap.toArray)) (hd : o.dst = some d) (hn : d.blt n = true) (hv : evs L xs = some vs)
    (is js : List Nat) (hnd : (is ++ js).Nodup) (hp : pick H is = some Hp) (hr : pick H js = some Hr) (hR : ∀ w, Inv w0 S H w → R w)
    (h : ∀ v H', Post v H' → M ((d, v) :: L) (H' ++ Hr)) : OpJ P Q n w0 S o L H M :=
  OpJ.callW hf ho hg hd hn hv fun w hI => by
    have := hs w (hI.pre (List.nodup_append.1 hnd).1 hp) (hR w hI)
    simp only [Array.empty_append]
    rw [List.append_toArray]
    exact this.mono fun e w' ⟨v, H', he, hP, hI'⟩ => ⟨v, H' ++ Hr, he, hI.called hnd hp hr hI', h v H' hP⟩

/-! ### slices -/
/-- an element type -/
structure Elt (P : Program) (t T : TypeId) (sz bytes : Nat) (z : Value) : Prop where
  und : P.underlying t = some (.slice T)
  pos : 0 < sz
  inf : (P.info? T).map (fun i => (i.zero, i.size, i.bytes)) = some (some z, sz, bytes)
  zsz : z.cells.size = sz
  small : bytes ≤ 65536
theorem roomy {need bytes : Nat} (h : need * bytes ≤ 175921860444160) (hb : bytes ≤ 65536) : (need + need / 4 + 192) * bytes ≤ 281474976710656 := by
  have h1 : need / 4 * bytes ≤ 43980465111040 := by
    have : need / 4 * bytes * 4 ≤ need * bytes := by
      have h2 : need / 4 * 4 ≤ need := Nat.div_mul_le_self need 4
      calc need / 4 * bytes * 4 = need / 4 * 4 * bytes := by rw [Nat.mul_right_comm]
        _ ≤ need * bytes := Nat.mul_le_mul_right _ h2
    omega
  rw [Nat.add_mul, Nat.add_mul]
  omega
theorem Elt.info {P : Program} {t T sz bytes : Nat} {z : Value} (h : Elt P t T sz bytes z) : ∃ i, P.info? T = some i ∧ i.zero = some z ∧ z.cells.size = sz ∧ i.size = sz ∧ i.bytes = bytes := by
  have := h.inf
  cases hq : P.info? T with
  | none => simp [hq] at this
  | some i =>
    simp [hq] at this
    exact ⟨i, rfl, this.1, h.zsz, this.2.1, this.2.2⟩

theorem Own.cells {w : World} {T : TypeId} {sz n : Nat} {v : Value} {xs : List Value} (h : Own w T sz v n xs) : ∀ b off l c, v = .slice (some ⟨b, off, none⟩) l c → off = 0 ∧ l = n ∧ Cells w b 0 xs := by
  intro b off l c hv
  rcases h with ⟨rfl, _, _⟩ | ⟨b', cap, cs, rfl, hb, hn, hsz, hl, hx⟩
  · cases hv
  · simp at hv
    obtain ⟨⟨rfl, rfl⟩, rfl, rfl⟩ := hv
    refine ⟨rfl, rfl, cs, T, (0, 0), hb, ?_, ?_⟩
    · rw [hl, hsz]
      simpa using Nat.mul_le_mul_right sz hn
    · simp [hl, ← hx]

theorem Own.len {w : World} {T : TypeId} {sz n : Nat} {v : Value} {xs : List Value} (h : Own w T sz v n xs) : xs.length = n * sz := by
  rcases h with ⟨_, rfl, rfl⟩ | ⟨b', cap, cs, rfl, hb, hn, hsz, hl, hx⟩
  · simp
  · exact hl

theorem Own.shape {w : World} {T : TypeId} {sz n : Nat} {v : Value} {xs : List Value} (h : Own w T sz v n xs) : ∃ p c, v = .slice p n c ∧ (∀ a, p = some a → a.off = 0 ∧ a.spot = none) ∧ (p = none → n = 0 ∧ c = 0) := by
  rcases h with ⟨rfl, rfl, rfl⟩ | ⟨b', cap, cs, rfl, hb, hn, hsz, hl, hx⟩
  · exact ⟨none, 0, rfl, fun _ h => (by cases h), fun _ => ⟨rfl, rfl⟩⟩
  · exact ⟨_, cap, rfl, fun a h => (by simp at h; subst h; exact ⟨rfl, rfl⟩), fun h => (by cases h)⟩

/-- another slice still owns its row where cells behind its length are written -/
theorem Own.written {w : World} {T : TypeId} {sz n : Nat} {v : Value} {xs : List Value} (h : Own w T sz v n xs) {b k : Nat} {c : Array Value} {news : List Value} (hb : w.heap[b]? = some (.cells c T (0, 0))) (hk : n * sz ≤ k) (hl : k + news.length ≤ c.size) :
    Own (w.setRow b (setCs c k news)) T sz v n xs := by
  rcases h with h | ⟨b', cap, cs, rfl, hb', hn, hsz, hlen, hx⟩
  · exact .inl h
  · by_cases e : b' = b
    · subst e
      rw [hb'] at hb
      simp at hb
      subst hb
      refine .inr ⟨b', cap, setCs cs k news, rfl, setRow_heap w b' cs _ T _ hb', hn, by rw [setCs_size hl, hsz], hlen, ?_⟩
      rw [hx]
      simp only [setCs]
      rw [List.append_assoc, List.take_append_of_le_length (by simp; omega), List.take_take]
      congr 1
      omega
    · exact .inr ⟨b', cap, cs, rfl, (heap_setRow_other w b _ e).trans hb', hn, hsz, hlen, hx⟩

theorem run_append_room {t T tx ty sz bytes : Nat} {z : Value} (he : Elt P t T sz bytes z) {w : World} {b l cap m : Nat} {c : Array Value} {x : Value} {news : List Value} (hs : Src P sz tx x m news w) (hb : w.heap[b]? = some (.cells c T (0, 0))) (hroom : l + m ≤ cap) (hc : c.size = cap * sz) :
    (Builtin.append_ #[t, tx] ty #[.slice (some ⟨b, 0, none⟩) l cap, x]).run P w = .ok (.slice (some ⟨b, 0, none⟩) (l + m) cap) (w.setRow b (setCs c (l * sz) news)) := by
  obtain ⟨i, hi, hz, hzs, hsize, hbytes⟩ := he.info
  have hfit : l * sz + news.length ≤ c.size := by
    rw [hs.newsLen, hc, ← Nat.add_mul]
    exact Nat.mul_le_mul_right sz hroom
  have hst := run_storeCells_at P b (l * sz) T news 0 c w hb (by simpa using hfit) hs.one
  simp only [Nat.add_zero] at hst
  have hx : (setCs c (l * sz) news) = (c.toList.take (l * sz) ++ news ++ c.toList.drop (l * sz + news.length)).toArray := rfl
  rw [hx]
  rcases hs.kind with ⟨e', hk⟩ | hk <;> simp [Builtin.append_, run_underlying he.und, run_underlying hk, sizeOf, typeInfo, hi, hsize, hs.len, hroom, hs.cells, addr_add, hst]

theorem run_append_nil0 {t T tx ty sz bytes : Nat} {z : Value} (he : Elt P t T sz bytes z) {w : World} {x : Value} {news : List Value} (hs : Src P sz tx x 0 news w) :
    (Builtin.append_ #[t, tx] ty #[.slice none 0 0, x]).run P w = .ok (.slice none 0 0) w := by
  obtain ⟨i, hi, hz, hzs, hsize, hbytes⟩ := he.info
  rcases hs.kind with ⟨e', hk⟩ | hk <;> simp [Builtin.append_, run_underlying he.und, run_underlying hk, sizeOf, typeInfo, hi, hsize, hs.len, hs.cells]

/-- append: what it does to the slice and to memory -/
theorem append_own {t T tx ty sz bytes : Nat} {z : Value} (he : Elt P t T sz bytes z) {w : World} {v v' : Value} {k k' m : Nat} {xs xs' : List Value} {x : Value} {news : List Value}
    (hr : (Res.sl T sz v k xs v' k' xs').holds w) (hs : Src P sz tx x m news w) (hroom : (k' + m) * bytes ≤ 175921860444160) (hmax : k' + m ≤ 9223372036854775807) :
    ∃ v'' w', (Builtin.append_ #[t, tx] ty #[v', x]).run P w = .ok v'' w' ∧ (Res.sl T sz v k xs v'' (k' + m) (xs' ++ news)).holds w' ∧
      w'.os = w.os ∧ w'.tape = w.tape ∧ w'.output = w.output ∧ w.heap.size ≤ w'.heap.size ∧ (∀ b, b < w.heap.size → b ∉ blkOf v' → w'.heap[b]? = w.heap[b]?) ∧ (∀ b ∈ blkOf v'', b ∈ blkOf v' ∨ w.heap.size ≤ b) := by
  obtain ⟨hv, hv', hkk⟩ := hr
  have hxl := hv'.len
  obtain ⟨i, hi, hz, hzs, hsize, hbytes⟩ := he.info
  have grow : ∀ (p : Option Addr) (cap : Nat), v' = .slice p k' cap → cap < k' + m →
      (Builtin.firstCells i.size k' (.slice p k' cap)).run P w.drew = .ok xs'.toArray w.drew →
      ∃ v'' w', (Builtin.append_ #[t, tx] ty #[v', x]).run P w = .ok v'' w' ∧ (Res.sl T sz v k xs v'' (k' + m) (xs' ++ news)).holds w' ∧
      w'.os = w.os ∧ w'.tape = w.tape ∧ w'.output = w.output ∧ w.heap.size ≤ w'.heap.size ∧ (∀ b, b < w.heap.size → b ∉ blkOf v' → w'.heap[b]? = w.heap[b]?) ∧ (∀ b ∈ blkOf v'', b ∈ blkOf v' ∨ w.heap.size ≤ b) := by
    intro p cap hp hlt hfirst
    have hs' : Src P i.size tx x m news w := by rw [hsize]; exact hs
    have hrun := run_append_grow_src (P := P) w t tx ty T i z he.und hi hz p k' cap xs' hfirst x m news hs' hlt (by omega) (growslice_fits_wide hlt (by rw [hbytes]; exact roomy hroom he.small))
    have hge := grownCap_ge w (k' + m) cap T
    rw [hp, hrun]
    refine ⟨_, _, rfl, ⟨?_, ?_, by omega⟩, rfl, rfl, rfl, by simp, ?_, ?_⟩
    · refine hv.congr fun b hb => ?_
      exact heap_alloc_old w.drew _ (hv.lt b hb)
    · refine .inr ⟨w.heap.size, _, _, rfl, heap_alloc_new w.drew _, hge, ?_, ?_, ?_⟩
      · simp only [Array.size_append, List.size_toArray, List.length_append, size_zeroCells, hzs, hxl, hs.newsLen]
        rw [← Nat.add_mul, ← Nat.add_mul]
        congr 1
        omega
      · simp [hxl, hs.newsLen, Nat.add_mul]
      · have : (xs' ++ news).length = (k' + m) * sz := by simp [hxl, hs.newsLen, Nat.add_mul]
        rw [← this]
        simp only [Array.toList_append]
        exact (List.take_left' rfl).symm
    · intro b hb _
      exact heap_alloc_old w.drew _ hb
    · intro b hb
      simp [blkOf] at hb
      right; omega
  rcases hv' with ⟨rfl, rfl, rfl⟩ | ⟨b, cap, c, rfl, hb, hn, hc, hlen, hx⟩
  · by_cases hm : m = 0
    · subst hm
      have hnews : news = [] := by
        have := hs.newsLen
        simp at this
        exact this
      subst hnews
      exact ⟨_, _, run_append_nil0 he hs, ⟨hv, .inl ⟨rfl, rfl, rfl⟩, hkk⟩, rfl, rfl, rfl, Nat.le_refl _, fun _ _ _ => rfl, fun _ h => .inl h⟩
    · exact grow none 0 rfl (by omega) (run_firstCells_none w.drew i.size 0 0 0)
  · by_cases hfit : k' + m ≤ cap
    · have hl : k' * sz + news.length ≤ c.size := by
        rw [hs.newsLen, hc, ← Nat.add_mul]
        exact Nat.mul_le_mul_right sz hfit
      refine ⟨_, _, run_append_room he hs hb hfit hc, ⟨hv.written hb (Nat.mul_le_mul_right sz hkk) hl, .inr ⟨b, cap, _, rfl, setRow_heap w b c _ T _ hb, hfit, by rw [setCs_size hl, hc], ?_, ?_⟩, by omega⟩, rfl, rfl, rfl, by simp, ?_, fun b' hb' => .inl hb'⟩
      · simp [hlen, hs.newsLen, Nat.add_mul]
      · simp only [setCs]
        have h1 : (c.toList.take (k' * sz) ++ news).length = (k' + m) * sz := by
          have h2 : k' * sz ≤ c.toList.length := by
            rw [Array.length_toList, hc]
            exact Nat.mul_le_mul_right sz hn
          rw [List.length_append, List.length_take, Nat.min_eq_left h2, hs.newsLen, Nat.add_mul]
        rw [← h1, List.take_left' rfl, ← hx]
      · intro b' _ hb'
        exact heap_setRow_other w b _ (by simpa [blkOf] using hb')
    · refine grow (some ⟨b, 0, none⟩) cap rfl (by omega) (run_firstCells_some w.drew i.size k' ⟨b, 0, none⟩ k' cap xs' (by rw [hsize]; exact hlen) fun j u hj => ?_)
      have hcells : Cells w b 0 xs' := ⟨c, T, (0, 0), hb, by rw [hlen, hc]; simpa using Nat.mul_le_mul_right sz hn, by simp [hlen, ← hx]⟩
      have := hcells.cell j u hj
      rw [addr_add]
      exact this

theorem OpJ.append {t T tx : TypeId} {sz bytes : Nat} {z : Value} {d i k k' m : Nat} {x y : Operand} {v v' u : Value} {xs xs' news : List Value} (he : Elt P t T sz bytes z) (ho : o.op = .call ⟨.builtin .append, #[x, y], #[t, tx]⟩) (hd : o.dst = some d) (hn : d.blt n = true)
    (hx : ev L x = some v') (hy : ev L y = some u) (hi : H[i]? = some (.sl T sz v k xs v' k' xs')) (hsrc : ∀ w, Inv w0 S H w → Src P sz tx u m news w) (hroom : (k' + m) * bytes ≤ 175921860444160) (hmax : k' + m ≤ 9223372036854775807)
    (h : ∀ p c, M ((d, .slice p (k' + m) c) :: L) (H.set i (.sl T sz v k xs (.slice p (k' + m) c) (k' + m) (xs' ++ news)))) : OpJ P Q n w0 S o L H M :=
  OpJ.val hd hn fun a w hE hI => by
    obtain ⟨v'', w', hrun, hr, h1, h2, h3, h4, h5, h6⟩ := append_own (ty := o.type) he (hI.hs _ (List.mem_of_getElem? hi)) (hsrc w hI) hroom hmax
    obtain ⟨p, c, rfl, _⟩ := hr.2.1.shape
    refine ⟨_, w', _, ?_, hI.turn hi w' h1 h2 h3 h4 (fun b hb hb' => h5 b hb fun h => hb' (by simp [Res.ats, h])) hr ?_, h p c⟩
    · simp [execOp, ho, resolve, invoke, builtin, hE.eval hx, hE.eval hy, hrun]
    · intro b hb
      simp only [Res.ats, List.mem_append] at hb ⊢
      rcases hb with hb | hb
      · exact .inl (.inl hb)
      · rcases h6 b hb with h | h
        · exact .inl (.inr h)
        · exact .inr h
end
end Go.Proofs.YtamobccbioafmaaDoor

/-
  More operations that change memory: slices that are built, copied into, read as sources.
-/
namespace Go.Proofs.YtamobccbioafmaaDoor
open Go

theorem setCs_nil (cs : Array Value) (off : Nat) : setCs cs off [] = cs := by
  simp [setCs]

theorem setCs_cons {cs : Array Value} {off : Nat} {v : Value} {l : List Value} (h : off + (l.length + 1) ≤ cs.size) : setCs (cs.setIfInBounds off v) (off + 1) l = setCs cs off (v :: l) := by
  have e := list_seg_step cs.toList off v l (by simpa using h)
  simp only [setCs, Array.toList_setIfInBounds]
  rw [e]
  simp

theorem foldl_set (off : Nat) : ∀ (l : List Value) (k : Nat) (cs : Array Value), off + k + l.length ≤ cs.size →
    (l.zipIdx k).foldl (fun cs (p : Value × Nat) => cs.setIfInBounds (off + p.2) p.1) cs = setCs cs (off + k) l
  | [], k, cs, _ => by simp [setCs_nil]
  | v :: l, k, cs, h => by
    simp only [List.length_cons] at h
    rw [List.zipIdx_cons, List.foldl_cons, foldl_set off l (k + 1) _ (by simp; omega), ← Nat.add_assoc]
    exact setCs_cons (by omega)

theorem array_foldl_set (off : Nat) (vs : Array Value) (cs : Array Value) (h : off + vs.size ≤ cs.size) :
    vs.zipIdx.foldl (fun cs (x : Value × Nat) => match x with | (c, j) => cs.setIfInBounds (off + j) c) cs = setCs cs off vs.toList := by
  rw [← Array.foldl_toList, Array.toList_zipIdx]
  exact foldl_set off vs.toList 0 cs (by simpa using h)

theorem setCs_adj {c : Array Value} {k : Nat} {xs ys : List Value} (h : k + xs.length + ys.length ≤ c.size) : setCs (setCs c k xs) (k + xs.length) ys = setCs c k (xs ++ ys) := by
  simp only [setCs]
  congr 1
  have h1 : (c.toList.take k ++ xs).length = k + xs.length := by simp; omega
  rw [List.take_left' h1]
  have h2 : (c.toList.take k ++ xs ++ c.toList.drop (k + xs.length)).drop (k + xs.length + ys.length) = c.toList.drop (k + xs.length + ys.length) := by
    rw [← h1, ← List.drop_drop, List.drop_left' rfl, h1, List.drop_drop]
  rw [h2]
  simp [Nat.add_assoc]

def flat (vs : List Value) : List Value := vs.flatMap fun v => v.cells.toList

theorem flat_len {sz : Nat} : ∀ {vs : List Value}, (∀ v ∈ vs, v.cells.size = sz) → (flat vs).length = vs.length * sz
  | [], _ => by simp [flat]
  | v :: vs, h => by
    have h1 : v.cells.size = sz := h v (by simp)
    have h2 := flat_len (vs := vs) fun u hu => h u (by simp [hu])
    simp only [flat, List.flatMap_cons, List.length_append, Array.length_toList, List.length_cons] at *
    rw [h1, h2, Nat.add_mul]
    omega

def enumV : Nat → List Value → List (Nat × Value)
  | _, [] => []
  | i, v :: r => (i, v) :: enumV (i + 1) r
def enumO : Nat → List Operand → List (Nat × Operand)
  | _, [] => []
  | i, v :: r => (i, v) :: enumO (i + 1) r

theorem fill_all {sz : Nat} : ∀ (vs : List Value) (i : Nat) (c : Array Value), (∀ v ∈ vs, v.cells.size = sz) → i * sz + vs.length * sz ≤ c.size →
    Instr.fill (fun i => some (i * sz, sz)) c (enumV i vs) = some (setCs c (i * sz) (flat vs))
  | [], i, c, _, _ => by simp [enumV, Instr.fill, flat, setCs_nil]
  | v :: vs, i, c, hv, hl => by
    have h1 : v.cells.size = sz := hv v (by simp)
    have hv' : ∀ u ∈ vs, u.cells.size = sz := fun u hu => hv u (by simp [hu])
    have hl' : i * sz + (vs.length + 1) * sz ≤ c.size := by simpa using hl
    rw [Nat.add_mul] at hl'
    have hfl := flat_len hv'
    have hf : Instr.fill (fun i => some (i * sz, sz)) c (enumV i (v :: vs)) = Instr.fill (fun i => some (i * sz, sz)) (setCs c (i * sz) v.cells.toList) (enumV (i + 1) vs) := by
      simp only [enumV, Instr.fill]
      rw [if_neg (by simp [h1]; omega)]
      rw [array_foldl_set _ _ _ (by omega)]
    have hx : v.cells.toList.length = sz := by simpa using h1
    have h3 : flat (v :: vs) = v.cells.toList ++ flat vs := by simp [flat]
    rw [hf, fill_all vs (i + 1) _ hv' (by rw [setCs_size (by rw [hx]; omega), Nat.add_mul]; omega), h3, ← setCs_adj (by rw [hx, hfl]; omega), hx, Nat.add_mul, Nat.one_mul]

section
variable {P : Program} {Q : Exit → Act → World → Prop} {n : Nat} {w0 : World} {S : List Nat} {o : Oper} {L : List (Nat × Value)} {H : List Res} {M : List (Nat × Value) → List Res → Prop}

theorem enum_map {a : Act} (hE : E n a L) : ∀ {xs : List Operand} {vs : List Value} (i : Nat), evs L xs = some vs → (enumO i xs).map (fun p => (p.1, a.eval p.2)) = enumV i vs
  | [], vs, i, h => by simp [evs] at h; subst h; rfl
  | x :: r, vs, i, h => by
    simp only [evs] at h
    split at h
    · rename_i v us hv hu
      simp at h
      subst h
      simp [enumO, enumV, hE.eval hv, enum_map hE (i + 1) hu]
    · cases h

theorem evs_len : ∀ {xs : List Operand} {vs : List Value}, evs L xs = some vs → xs.length = vs.length
  | [], vs, h => by simp [evs] at h; subst h; rfl
  | x :: r, vs, h => by
    simp only [evs] at h
    split at h
    · rename_i v us hv hu
      simp at h
      subst h
      simp [evs_len hu]
    · cases h

theorem own_new {w : World} {T : TypeId} {sz len : Nat} {xs : List Value} (h : xs.length = len * sz) : (own T sz (.slice (some ⟨w.heap.size, 0, none⟩) len len) len xs).holds (w.alloc (.cells xs.toArray T)) := by
  have h1 : Own (w.alloc (.cells xs.toArray T)) T sz (.slice (some ⟨w.heap.size, 0, none⟩) len len) len xs :=
    .inr ⟨w.heap.size, len, xs.toArray, rfl, heap_alloc_new w _, Nat.le_refl _, by simpa using h, h, by simp [← h]⟩
  exact ⟨h1, h1, Nat.le_refl _⟩

/-- a slice literal -/
theorem OpJ.buildSlice {t T : TypeId} {sz bytes : Nat} {z : Value} {d len : Nat} {parts : Array (Nat × Operand)} {xs : List Operand} {vs : List Value} (he : Elt P t T sz bytes z) (ho : o.op = .buildSlice t len parts) (hd : o.dst = some d) (hn : d.blt n = true) (hp : parts.toList = enumO 0 xs) (hx : evs L xs = some vs) (hl : len = vs.length) (hsz' : vs.all (fun v => v.cells.size == sz) = true) (hfit : len * sz ≤ 16777216)
    (h : ∀ b, w0.heap.size ≤ b → M ((d, .slice (some ⟨b, 0, none⟩) len len) :: L) (own T sz (.slice (some ⟨b, 0, none⟩) len len) len (flat vs) :: H)) : OpJ P Q n w0 S o L H M :=
  OpJ.val hd hn fun a w hE hI => by
    obtain ⟨i, hi, hz, hzs, hsize, hbytes⟩ := he.info
    have hsz : ∀ v ∈ vs, v.cells.size = sz := fun v hv => by simpa using List.all_eq_true.1 hsz' v hv
    have hflen := flat_len hsz
    rw [← hl] at hflen
    have hmap : (parts.map fun (x : Nat × Operand) => match x with | (i, x) => (i, a.eval x)).toList = enumV 0 vs := by
      rw [Array.toList_map, hp]
      exact enum_map hE 0 hx
    refine ⟨_, _, _, ?_, hI.new (w.alloc (.cells (flat vs).toArray T)) _ rfl rfl rfl rfl (own T sz (.slice (some ⟨w.heap.size, 0, none⟩) len len) len (flat vs)) (own_new hflen) (by simp [own, Res.ats, blkOf]), h w.heap.size hI.keep.size⟩
    have hfill : ∀ c : Array Value, c.size = len * sz → Instr.fill (fun i => some (i * sz, sz)) c (enumV 0 vs) = some (flat vs).toArray := fun c hc => by
      rw [fill_all vs 0 c hsz (by rw [hc, hl]; omega)]
      simp [setCs, hflen, hc]
    simp only [execOp, ho, Instr.buildSlice, run_underlying he.und, Sem.run_bind, Result.andThen_ok, sizeOf, typeInfo, run_program, hi, Sem.run_pure, hsize, hmap, zeroValue]
    rw [if_neg (by omega)]
    by_cases h0 : len * sz = 0
    · simp only [h0, if_true, Sem.run_bind, Sem.run_pure, Result.andThen_ok]
      rw [hfill _ (by simp [h0])]
      simp [newRow]
    · simp only [h0, if_false, Sem.run_bind, Sem.run_pure, Result.andThen_ok, run_program, hi, hz]
      rw [hfill _ (by simp)]
      simp [newRow]

/-- a slice is what append is given -/
theorem Own.src {w : World} {T tx e' : TypeId} {sz m : Nat} {v : Value} {xs : List Value} (h : Own w T sz v m xs) (hk : P.underlying tx = some (.slice e')) (h1 : ∀ u ∈ xs, u.oneCell' = true) : Src P sz tx v m xs w := by
  have hl := h.len
  rcases h with ⟨rfl, rfl, rfl⟩ | ⟨b, cap, c, rfl, hb, hn, hc, hlen, hx⟩
  · exact Src.ofNil w hk 0
  · have hcells : Cells w b 0 xs := ⟨c, T, (0, 0), hb, by rw [hlen, hc]; simpa using Nat.mul_le_mul_right sz hn, by simp [hlen, ← hx]⟩
    exact Src.ofSlice w hk ⟨b, 0, none⟩ m cap xs hl (fun j u hj => by rw [addr_add]; exact hcells.cell j u hj) h1

theorem Inv.src {w : World} (hI : Inv w0 S H w) {T tx e' : TypeId} {sz m k i : Nat} {v u : Value} {xs ys : List Value} (hi : H[i]? = some (.sl T sz u k ys v m xs)) (hk : P.underlying tx = some (.slice e')) (h1 : ∀ u ∈ xs, u.oneCell' = true) : Src P sz tx v m xs w :=
  Own.src (hI.hs _ (List.mem_of_getElem? hi)).2.1 hk h1

end

/-- bytes as cells -/
def bytesV (bs : List UInt8) : List Value := bs.map fun b => .int .u8 b.toNat
theorem bytesV_len (bs : List UInt8) : (bytesV bs).length = bs.length := by simp [bytesV]
theorem bytesV_one (bs : List UInt8) : ∀ u ∈ bytesV bs, u.oneCell' = true := by
  intro u hu
  simp only [bytesV, List.mem_map] at hu
  obtain ⟨b, _, rfl⟩ := hu
  rfl
theorem bytesV_append (a b : List UInt8) : bytesV (a ++ b) = bytesV a ++ bytesV b := by simp [bytesV]
/-- an owned slice of bytes -/
def ownB (T : TypeId) (v : Value) (bs : List UInt8) : Res := own T 1 v bs.length (bytesV bs)
/-- two levels -/
def appB (T : TypeId) (v : Value) (bs : List UInt8) (v' : Value) (bs' : List UInt8) : Res := .sl T 1 v bs.length (bytesV bs) v' bs'.length (bytesV bs')

section
variable {P : Program} {Q : Exit → Act → World → Prop} {n : Nat} {w0 : World} {S : List Nat} {o : Oper} {L : List (Nat × Value)} {H : List Res} {M : List (Nat × Value) → List Res → Prop}

/-- append to a slice of bytes -/
theorem OpJ.appendB {t T tx : TypeId} {z : Value} {d i : Nat} {x y : Operand} {v v' u : Value} {bs bs' news : List UInt8} (he : Elt P t T 1 1 z) (ho : o.op = .call ⟨.builtin .append, #[x, y], #[t, tx]⟩) (hd : o.dst = some d) (hn : d.blt n = true)
    (hx : ev L x = some v') (hy : ev L y = some u) (hi : H[i]? = some (appB T v bs v' bs')) (hsrc : ∀ w, Inv w0 S H w → Src P 1 tx u news.length (bytesV news) w) (hroom : bs'.length + news.length ≤ 175921860444160)
    (h : ∀ p c, M ((d, .slice p (bs' ++ news).length c) :: L) (H.set i (appB T v bs (.slice p (bs' ++ news).length c) (bs' ++ news)))) : OpJ P Q n w0 S o L H M :=
  OpJ.append he ho hd hn hx hy hi hsrc (by omega) (by omega) fun p c => by
    have := h p c
    simp only [appB, bytesV_append, List.length_append] at this
    exact this

/-- append to a slice of bytes that is alone -/
theorem OpJ.appendO {t T tx : TypeId} {z : Value} {d i : Nat} {x y : Operand} {v u : Value} {bs news : List UInt8} (he : Elt P t T 1 1 z) (ho : o.op = .call ⟨.builtin .append, #[x, y], #[t, tx]⟩) (hd : o.dst = some d) (hn : d.blt n = true)
    (hx : ev L x = some v) (hy : ev L y = some u) (hi : H[i]? = some (ownB T v bs)) (hsrc : ∀ w, Inv w0 S H w → Src P 1 tx u news.length (bytesV news) w) (hroom : bs.length + news.length ≤ 175921860444160)
    (h : ∀ p c, M ((d, .slice p (bs ++ news).length c) :: L) (H.set i (ownB T (.slice p (bs ++ news).length c) (bs ++ news)))) : OpJ P Q n w0 S o L H M :=
  fun K hK => OpJ.appendB (M := fun L' H' => ∃ p c, L' = (d, .slice p (bs ++ news).length c) :: L ∧ H' = H.set i (appB T v bs (.slice p (bs ++ news).length c) (bs ++ news))) he ho hd hn hx hy hi hsrc hroom (fun p c => ⟨p, c, rfl, rfl⟩) K fun L' H' ⟨p, c, hL, hH⟩ a w hE hI => by
    subst hL hH
    refine hK _ _ (h p c) a w hE ?_
    have hl : i < H.length := (List.getElem?_eq_some_iff.1 hi).1
    have := Inv.turn (i := i) (r := appB T v bs (.slice p (bs ++ news).length c) (bs ++ news)) (r' := ownB T (.slice p (bs ++ news).length c) (bs ++ news)) hI (by simp [hl]) w rfl rfl rfl (Nat.le_refl _) (fun _ _ _ => rfl)
      (by
        have := hI.hs (appB T v bs (.slice p (bs ++ news).length c) (bs ++ news)) (List.mem_set hl _)
        exact ⟨this.2.1, this.2.1, Nat.le_refl _⟩)
      (fun b hb => .inl (by simp [ownB, own, appB, Res.ats] at hb ⊢; exact .inr hb))
    rwa [List.set_set] at this

theorem Inv.sl2 {w : World} (hI : Inv w0 S H w) {i : Nat} {T sz v k xs v' k' xs'} (hi : H[i]? = some (.sl T sz v k xs v' k' xs')) : Inv w0 S (H.set i (own T sz v' k' xs')) w :=
  hI.turn hi w rfl rfl rfl (Nat.le_refl _) (fun _ _ _ => rfl) ⟨(hI.hs _ (List.mem_of_getElem? hi)).2.1, (hI.hs _ (List.mem_of_getElem? hi)).2.1, Nat.le_refl _⟩ (fun b hb => .inl (by simp [own, Res.ats] at hb ⊢; exact .inr hb))
theorem Inv.sl1 {w : World} (hI : Inv w0 S H w) {i : Nat} {T sz v k xs v' k' xs'} (hi : H[i]? = some (.sl T sz v k xs v' k' xs')) : Inv w0 S (H.set i (own T sz v k xs)) w :=
  hI.turn hi w rfl rfl rfl (Nat.le_refl _) (fun _ _ _ => rfl) ⟨(hI.hs _ (List.mem_of_getElem? hi)).1, (hI.hs _ (List.mem_of_getElem? hi)).1, Nat.le_refl _⟩ (fun b hb => .inl (by simp [own, Res.ats] at hb ⊢; exact .inl hb))

/-- bytes that can be read -/
def Bytes (w : World) (v : Value) (bs : List UInt8) : Prop :=
  (∃ p c, v = .slice p 0 c ∧ bs = []) ∨ ∃ b off c, v = .slice (some ⟨b, off, none⟩) bs.length c ∧ Cells w b off (bytesV bs)

theorem Own.bytes {w : World} {T : TypeId} {v : Value} {bs : List UInt8} (h : Own w T 1 v bs.length (bytesV bs)) : Bytes w v bs := by
  rcases h with ⟨rfl, h1, _⟩ | ⟨b, cap, c, rfl, hb, hn, hc, hlen, hx⟩
  · exact .inl ⟨none, 0, rfl, List.eq_nil_of_length_eq_zero h1⟩
  · exact .inr ⟨b, 0, cap, rfl, c, T, (0, 0), hb, by rw [hlen, hc]; simpa using hn, by simp [bytesV_len] at hx ⊢; exact hx.symm⟩

theorem Bytes.src {w : World} {tx e' : TypeId} {v : Value} {bs : List UInt8} (h : Bytes w v bs) (hk : P.underlying tx = some (.slice e')) : Src P 1 tx v bs.length (bytesV bs) w := by
  rcases h with ⟨p, c, rfl, rfl⟩ | ⟨b, off, c, rfl, hc⟩
  · cases p with
    | none => exact Src.ofNil w hk c
    | some a => exact Src.ofSlice w hk a 0 c [] (by simp) (fun j u hj => by simp at hj) (fun _ h => by cases h)
  · exact Src.ofSlice w hk ⟨b, off, none⟩ _ c _ (by simp [bytesV_len]) (fun j u hj => by rw [addr_add]; exact hc.cell j u hj) (bytesV_one _)

theorem Bytes.keep {w w' : World} {v : Value} {bs : List UInt8} (h : Bytes w v bs) {S : List Nat} (hk : Keep S w w') (hb : ∀ b ∈ blkOf v, b ∉ S) : Bytes w' v bs := by
  rcases h with h | ⟨b, off, c, rfl, hc⟩
  · exact .inl h
  · exact .inr ⟨b, off, c, rfl, hc.keep hk (hb b (by simp [blkOf]))⟩

theorem Bytes.shape {w : World} {v : Value} {bs : List UInt8} (h : Bytes w v bs) : ∃ p c, v = .slice p bs.length c := by
  rcases h with ⟨p, c, rfl, rfl⟩ | ⟨b, off, c, rfl, hc⟩
  · exact ⟨p, c, rfl⟩
  · exact ⟨_, c, rfl⟩

theorem Inv.bytes {T : TypeId} {v : Value} {bs : List UInt8} {k : Nat} (hi : H[k]? = some (ownB T v bs)) : ∀ w, Inv w0 S H w → Bytes w v bs :=
  fun _ hI => Own.bytes (hI.hs _ (List.mem_of_getElem? hi)).1
theorem Inv.bytes2 {T : TypeId} {v v' : Value} {bs bs' : List UInt8} {k : Nat} (hi : H[k]? = some (appB T v bs v' bs')) : ∀ w, Inv w0 S H w → Bytes w v' bs' :=
  fun _ hI => Own.bytes (hI.hs _ (List.mem_of_getElem? hi)).2.1

/-- slices of bytes in a slice, to be read -/
def Parts (w : World) (v : Value) (pss : List (List UInt8)) : Prop :=
  ∃ b c vs, v = .slice (some ⟨b, 0, none⟩) vs.length c ∧ vs.length = pss.length ∧ Cells w b 0 vs ∧ ∀ (i : Nat) (u : Value) (ps : List UInt8), vs[i]? = some u → pss[i]? = some ps → Bytes w u ps

def Bs (I : World → Prop) : List Value → List (List UInt8) → Prop
  | [], [] => True
  | v :: vs, ps :: pss => (∀ w, I w → Bytes w v ps) ∧ Bs I vs pss
  | _, _ => False

theorem Bs.len {I : World → Prop} : ∀ {vs : List Value} {pss : List (List UInt8)}, Bs I vs pss → vs.length = pss.length
  | [], [], _ => rfl
  | _ :: vs, _ :: pss, h => by simp [Bs.len h.2]
  | [], _ :: _, h => h.elim
  | _ :: _, [], h => h.elim
theorem Bs.get {I : World → Prop} {w : World} (hw : I w) : ∀ {vs : List Value} {pss : List (List UInt8)}, Bs I vs pss → ∀ (i : Nat) (u : Value) (ps : List UInt8), vs[i]? = some u → pss[i]? = some ps → Bytes w u ps
  | [], [], _, i, u, ps, h, _ => by simp at h
  | v :: vs, p :: pss, hb, 0, u, ps, h, h' => by
    simp at h h'
    subst h h'
    exact hb.1 w hw
  | v :: vs, p :: pss, hb, i + 1, u, ps, h, h' => Bs.get hw hb.2 i u ps (by simpa using h) (by simpa using h')
  | [], _ :: _, h, _, _, _, _, _ => h.elim
  | _ :: _, [], h, _, _, _, _, _ => h.elim
theorem Bs.cells {I : World → Prop} {w : World} (hw : I w) : ∀ {vs : List Value} {pss : List (List UInt8)}, Bs I vs pss → flat vs = vs
  | [], [], _ => rfl
  | v :: vs, p :: pss, hb => by
    obtain ⟨q, c, rfl⟩ := (hb.1 w hw).shape
    have := Bs.cells hw hb.2
    simp only [flat, List.flatMap_cons] at *
    rw [this]
    rfl
  | [], _ :: _, h => h.elim
  | _ :: _, [], h => h.elim

theorem Inv.parts {T : TypeId} {b m c i : Nat} {vs : List Value} {pss : List (List UInt8)} (hi : H[i]? = some (own T 1 (.slice (some ⟨b, 0, none⟩) m c) m (flat vs))) (hm : m = vs.length) (hb : Bs (Inv w0 S H) vs pss) :
    ∀ w, Inv w0 S H w → Parts w (.slice (some ⟨b, 0, none⟩) m c) pss := fun w hI => by
  have ho := (hI.hs _ (List.mem_of_getElem? hi)).1
  obtain ⟨_, _, hc⟩ := ho.cells b 0 m c rfl
  rw [hb.cells hI] at hc
  subst hm
  exact ⟨b, c, vs, rfl, hb.len, hc, hb.get hI⟩

/-- a slice of bytes is returned -/
def RetB (T : TypeId) (bs : List UInt8) (r : Value) (H' : List Res) : Prop := ∃ p c, r = .slice p bs.length c ∧ H' = [ownB T r bs]

/-- a slice that was appended to is returned; the one before it is kept -/
def RetA (T : TypeId) (v : Value) (bs bs' : List UInt8) (r : Value) (H' : List Res) : Prop := ∃ p c, r = .slice p bs'.length c ∧ H' = [appB T v bs r bs']

theorem ExJ.retB {fn : Func} {s : Nat} {T : TypeId} {v : Value} {bs : List UInt8} {w1 : World} {S1 : List Nat} (hr : fn.results = #[.tmp s]) (hs : L.lookup s = some v) (hH : ∀ w, Inv w0 S H w → Inv w1 S1 [ownB T v bs] w) :
    ExJ (bodyPost P fn (Ret w1 S1 (RetB T bs))) .ret n w0 S L H := fun a w hE hI => by
  have hJ := hH w hI
  obtain ⟨p, c, rfl⟩ := (Own.bytes (hJ.hs _ (List.mem_singleton.2 rfl)).1).shape
  refine ⟨hE.defers, _, ?_, _, _, rfl, ⟨p, c, rfl, rfl⟩, hJ⟩
  have := hE.at_ s _ hs
  simp [results, hr, this]
end
end Go.Proofs.YtamobccbioafmaaDoor

/-
  Regions that draw their order: quiet operations are taken first.
-/
namespace Go.Proofs.YtamobccbioafmaaDoor
open Go

def NP (Q : Exit → Act → World → Prop) : Exit → Act → World → Prop
  | .panic _, _, _ => False
  | e, a, w => Q e a w
theorem NP.imp {Q : Exit → Act → World → Prop} : ∀ (e : Exit) (a : Act) (w : World), NP Q e a w → Q e a w := fun e _ _ h => by
  cases e <;> first | exact h | exact (h : False).elim

section
variable {P : Program} {ops : Array Oper} {Q : Exit → Act → World → Prop} {n : Nat} {w0 : World} {S : List Nat} {o : Oper} {L : List (Nat × Value)} {H Hk : List Res} {fuel : Nat} {listed listed' : Array Bool}

def AnyJ (P : Program) (ops : Array Oper) (Q : Exit → Act → World → Prop) (n : Nat) (w0 : World) (S : List Nat) (Hk : List Res) (fuel : Nat) (listed : Array Bool) (L : List (Nat × Value)) (H : List Res) : Prop :=
  ∀ a w, E n a L → Inv w0 S H w → wpAnyH P .any ops (NP Q) (fun w => Inv w0 S Hk w) fuel listed a w

theorem CodeJ.any {id : Nat} (is : List Nat) (_hp : Proofs.YtamobccbioafmaaDoor.pick H is = some Hk) (hm : P.follows .mixedOrders = true) (hf : ops.size = fuel) (hl : Array.replicate fuel false = listed) (h : AnyJ P ops Q n w0 S Hk fuel listed L H) : CodeJ P Q n w0 S (.region id ops true) L H :=
  fun a w hE hI => by
    refine wp_mono (wp_region_held (S := fun w => Inv w0 S Hk w) (Q := NP Q) hm ?_) NP.imp
    rw [hf, hl]
    exact h a w.drew hE hI.drew

theorem AnyJ.take {d : Nat} {v : Value} (i : Nat) (hi : ops[i]? = some o) (hs : Region.noSelect ops = true) (hf : Region.free .any ops listed i = true) (hr : (Region.ready .any ops listed).contains i = true) (hl : listed.setIfInBounds i true = listed')
    (hg : o.guard = none) (hd : o.dst = some d) (hn : d.blt n = true) (hy : Yld P o n L (Inv w0 S Hk) v) (hk : ∀ w, Inv w0 S H w → Inv w0 S Hk w) (h : AnyJ P ops Q n w0 S Hk fuel listed' ((d, v) :: L) H) : AnyJ P ops Q n w0 S Hk (fuel + 1) listed L H :=
  fun a w hE hI => by
    refine wpAnyH_take (v := v) hi hs hf hr (fun _ _ _ h => h) (.inl ⟨by simp [Region.wanted, hg], fun w hw => hy a w hE hw⟩) (hk w hI) ?_
    rw [hl, hd]
    exact h _ _ (hE.put hn) hI

theorem AnyJ.takeT {d j s : Nat} {b : Bool} {v : Value} (i : Nat) (hi : ops[i]? = some o) (hs : Region.noSelect ops = true) (hf : Region.free .any ops listed i = true) (hr : (Region.ready .any ops listed).contains i = true) (hl : listed.setIfInBounds i true = listed')
    (hg : o.guard = some (j, b)) (hj : (ops[j]?).bind (·.dst) = some s) (hv : L.lookup s = some (.bool b)) (hd : o.dst = some d) (hn : d.blt n = true) (hy : Yld P o n L (Inv w0 S Hk) v) (hk : ∀ w, Inv w0 S H w → Inv w0 S Hk w) (h : AnyJ P ops Q n w0 S Hk fuel listed' ((d, v) :: L) H) : AnyJ P ops Q n w0 S Hk (fuel + 1) listed L H :=
  fun a w hE hI => by
    have hyl := yielded_of (ops := ops) hE hj hv
    refine wpAnyH_take (v := v) hi hs hf hr (fun _ _ _ h => h) (.inl ⟨by simp [Region.wanted, hg, hyl], fun w hw => hy a w hE hw⟩) (hk w hI) ?_
    rw [hl, hd]
    exact h _ _ (hE.put hn) hI

theorem AnyJ.takeF {d j s : Nat} {b : Bool} {u : Value} (i : Nat) (hi : ops[i]? = some o) (hs : Region.noSelect ops = true) (hf : Region.free .any ops listed i = true) (hr : (Region.ready .any ops listed).contains i = true) (hl : listed.setIfInBounds i true = listed')
    (hg : o.guard = some (j, b)) (hj : (ops[j]?).bind (·.dst) = some s) (hv : L.lookup s = some u) (hb : notB b u = true) (hd : o.dst = some d) (hn : d.blt n = true) (hk : ∀ w, Inv w0 S H w → Inv w0 S Hk w) (h : AnyJ P ops Q n w0 S Hk fuel listed' ((d, undef) :: L) H) : AnyJ P ops Q n w0 S Hk (fuel + 1) listed L H :=
  fun a w hE hI => by
    have hyl := yielded_of (ops := ops) hE hj hv
    have hw : Region.wanted o (yielded ops a.tmps) = false := by
      simp only [Region.wanted, hg, hyl]
      cases u <;> simp_all [notB]
    refine wpAnyH_take (v := undef) hi hs hf hr (fun _ _ _ h => h) (.inr ⟨hw, rfl⟩) (hk w hI) ?_
    rw [hl, hd]
    exact h _ _ (hE.put hn) hI

theorem AnyJ.splitB {s : Nat} {c : Bool} (hs : L.lookup s = some (.bool c)) (ht : c = true → AnyJ P ops Q n w0 S Hk fuel listed ((s, .bool true) :: L) H) (hf : c = false → AnyJ P ops Q n w0 S Hk fuel listed ((s, .bool false) :: L) H) : AnyJ P ops Q n w0 S Hk fuel listed L H :=
  fun a w hE hI => by
    cases h : c with
    | true => exact ht h a w (hE.bool hs h) hI
    | false => exact hf h a w (hE.bool hs h) hI
theorem AnyJ.splitP {s : Nat} {p : Prop} [Decidable p] (hs : L.lookup s = some (.bool (decide p))) (ht : p → AnyJ P ops Q n w0 S Hk fuel listed ((s, .bool true) :: L) H) (hf : ¬ p → AnyJ P ops Q n w0 S Hk fuel listed ((s, .bool false) :: L) H) : AnyJ P ops Q n w0 S Hk fuel listed L H :=
  AnyJ.splitB hs (fun h => ht (of_decide_eq_true h)) (fun h => hf (of_decide_eq_false h))

/-- what is to be shown of an operation that comes up -/
def StepJ (P : Program) (ops : Array Oper) (Q : Exit → Act → World → Prop) (n : Nat) (w0 : World) (S : List Nat) (Hk : List Res) (fuel : Nat) (listed : Array Bool) (i : Nat) (L : List (Nat × Value)) (H : List Res) : Prop :=
  ∀ a w, E n a L → Inv w0 S H w → wpOp P ops (NP Q) i (fun a' w' => Inv w0 S Hk w' ∧ wpAnyH P .any ops (NP Q) (fun w => Inv w0 S Hk w) fuel (listed.setIfInBounds i true) a' w') a w

theorem StepJ.op {i : Nat} (hi : ops[i]? = some o) (hg : o.guard = none) (hl : listed.setIfInBounds i true = listed')
    (h : OpJ P (NP Q) n w0 S o L H (fun L' H' => (∀ w, Inv w0 S H' w → Inv w0 S Hk w) ∧ AnyJ P ops Q n w0 S Hk fuel listed' L' H')) : StepJ P ops Q n w0 S Hk fuel listed i L H :=
  fun a w hE hI => by
    unfold wpOp
    simp only [hi]
    rw [if_pos (by simp [Region.wanted, hg])]
    refine .inl (h _ (fun L' H' hM a w hE hI => ?_) a w hE hI)
    rw [hl]
    exact ⟨hM.1 w hI, hM.2 a w hE hI⟩

theorem StepJ.opT {i j s : Nat} {b : Bool} (hi : ops[i]? = some o) (hg : o.guard = some (j, b)) (hj : (ops[j]?).bind (·.dst) = some s) (hv : L.lookup s = some (.bool b)) (hl : listed.setIfInBounds i true = listed')
    (h : OpJ P (NP Q) n w0 S o L H (fun L' H' => (∀ w, Inv w0 S H' w → Inv w0 S Hk w) ∧ AnyJ P ops Q n w0 S Hk fuel listed' L' H')) : StepJ P ops Q n w0 S Hk fuel listed i L H :=
  fun a w hE hI => by
    have hyl := yielded_of (ops := ops) hE hj hv
    unfold wpOp
    simp only [hi]
    rw [if_pos (by simp [Region.wanted, hg, hyl])]
    refine .inl (h _ (fun L' H' hM a w hE hI => ?_) a w hE hI)
    rw [hl]
    exact ⟨hM.1 w hI, hM.2 a w hE hI⟩

theorem StepJ.opF {i j s d : Nat} {b : Bool} {u : Value} (hi : ops[i]? = some o) (hg : o.guard = some (j, b)) (hj : (ops[j]?).bind (·.dst) = some s) (hv : L.lookup s = some u) (hb : notB b u = true) (hd : o.dst = some d) (hn : d.blt n = true) (hl : listed.setIfInBounds i true = listed')
    (hk : ∀ w, Inv w0 S H w → Inv w0 S Hk w) (h : AnyJ P ops Q n w0 S Hk fuel listed' ((d, undef) :: L) H) : StepJ P ops Q n w0 S Hk fuel listed i L H :=
  fun a w hE hI => by
    have hyl := yielded_of (ops := ops) hE hj hv
    have hw : Region.wanted o (yielded ops a.tmps) = false := by
      simp only [Region.wanted, hg, hyl]
      cases u <;> simp_all [notB]
    unfold wpOp
    simp only [hi]
    rw [if_neg (by simp [hw]), hl, hd]
    exact ⟨hk w hI, h _ _ (hE.put hn) hI⟩

theorem AnyJ.one (i : Nat) (hr : Region.ready .any ops listed = [i]) (h : StepJ P ops Q n w0 S Hk fuel listed i L H) : AnyJ P ops Q n w0 S Hk (fuel + 1) listed L H :=
  fun a w hE hI => wpAnyH_all hr (by simp) fun j hj => by
    simp at hj
    subst hj
    exact h a w hE hI

theorem AnyJ.two (i j : Nat) (hr : Region.ready .any ops listed = [i, j]) (h : StepJ P ops Q n w0 S Hk fuel listed i L H) (h' : StepJ P ops Q n w0 S Hk fuel listed j L H) : AnyJ P ops Q n w0 S Hk (fuel + 1) listed L H :=
  fun a w hE hI => wpAnyH_all hr (by simp) fun k hj => by
    simp at hj
    rcases hj with rfl | rfl
    · exact h a w hE hI
    · exact h' a w hE hI

theorem AnyJ.done (hr : Region.ready .any ops listed = []) (h : ExJ Q .normal n w0 S L H) : AnyJ P ops Q n w0 S Hk fuel listed L H :=
  fun a w hE hI => wpAnyH_done (Q := NP Q) hr (h a w hE hI) fuel
end
end Go.Proofs.YtamobccbioafmaaDoor

/-
  Maps keyed by strings; slices of arrays; bytes to text; copies.
-/
namespace Go.Proofs.YtamobccbioafmaaDoor
open Go

/-! ### a map from texts to numbers -/
def strV (l : List UInt8) : Value := .string ⟨l.toArray⟩
def kvV (m : List (List UInt8 × Nat)) : List (Value × Value) := m.map fun p => (strV p.1, .int .u16 p.2)

theorem toList_strV (l : List UInt8) : (⟨l.toArray⟩ : ByteArray).toList = l := ByteArray.toList_mk l
theorem bytes_beq (a b : List UInt8) : ((⟨a.toArray⟩ : ByteArray) == ⟨b.toArray⟩) = (a == b) := by
  show (a.toArray == b.toArray) = _
  rw [Bool.eq_iff_iff]
  simp

theorem findNow_str (k : List UInt8) : ∀ (es : List MapEntry) (m : List (List UInt8 × Nat)) (i : Nat), es.map (fun e => (e.key, e.val)) = kvV m →
    ∃ r, Instr.findNow .string (strV k) es i = some r ∧ (match m.lookup k with | some p => ∃ j, r = some (j, .int .u16 p) | none => r = none)
  | [], [], i, _ => ⟨none, rfl, rfl⟩
  | [], _ :: _, i, h => by simp [kvV] at h
  | _ :: _, [], i, h => by simp [kvV] at h
  | e :: es, (k', p) :: m, i, h => by
    simp only [kvV, List.map_cons, List.cons.injEq, Prod.mk.injEq] at h
    obtain ⟨⟨h1, h2⟩, h3⟩ := h
    have hs : Instr.sameNow .string (strV k) e.key = some (k == k') := by
      rw [h1]
      simp only [strV, Instr.sameNow, Option.some.injEq]
      exact bytes_beq k k'
    simp only [Instr.findNow, hs, List.lookup]
    cases hk : k == k' with
    | true => exact ⟨some (i, e.val), rfl, i, by rw [h2]⟩
    | false => exact findNow_str k es m (i + 1) h3

section
variable {P : Program} {Q : Exit → Act → World → Prop} {n : Nat} {w0 : World} {S : List Nat} {o : Oper} {L : List (Nat × Value)} {H : List Res} {M : List (Nat × Value) → List Res → Prop} {I : World → Prop}

/-- a map type from strings to uint16 -/
structure MapT (P : Program) (T K E : TypeId) : Prop where
  und : P.underlying T = some (.map K E)
  key : P.underlying K = some .string
  zer : (P.info? E).map (·.zero) = some (some (.int .u16 0))

theorem run_checkKey {K : TypeId} (hk : P.underlying K = some .string) (e : Bool) (m : Nat) (s : ByteArray) (w : World) : (Instr.checkKey e (m + 1) K (.string s)).run P w = .ok () w := by
  simp [Instr.checkKey, run_underlying hk]
theorem checkKey_step (e : Bool) (K : TypeId) (v : Value) : ∃ m, Instr.checkKey e 10000 K v = Instr.checkKey e (m + 1) K v := ⟨9999, rfl⟩

theorem Yld.lookupOk {T K E' : TypeId} {x y : Operand} {b : Nat} {k : List UInt8} {m : List (List UInt8 × Nat)} (hT : MapT P T K E') (ho : o.op = .lookup T x y true) (hx : ev L x = some (.map (some b))) (hy : ev L y = some (strV k)) (hI : ∀ w, I w → (Res.mp (some b) (kvV m)).holds w) :
    Yld P o n L I (.tuple #[.int .u16 ((m.lookup k).getD 0 : Nat), .bool (m.lookup k).isSome]) :=
  fun a w hE hw => by
    obtain ⟨es, clock, hb, hes⟩ := hI w hw
    obtain ⟨r, hr, hm⟩ := findNow_str k es.toList m 0 hes
    obtain ⟨mm, hck⟩ := checkKey_step es.isEmpty K (strV k)
    have hz : ∃ i, P.info? E' = some i ∧ i.zero = some (.int .u16 0) := by
      have := hT.zer
      cases hq : P.info? E' with
      | none => simp [hq] at this
      | some i => simp [hq] at this; exact ⟨i, rfl, this⟩
    obtain ⟨i, hi, hiz⟩ := hz
    have hgo : (getObj b).run P w = .ok (.map es clock) w := by simp [getObj, Sem.run, hb]
    have hcr : (Instr.checkKey es.isEmpty (mm + 1) K (strV k)).run P w = .ok () w := run_checkKey hT.key _ _ _ _
    simp only [execOp, ho, hE.eval hx, hE.eval hy, Instr.lookup, run_underlying hT.und, Sem.run_bind, Result.andThen_ok, hgo, Sem.run_pure, hck, hcr, Instr.findKey, run_underlying hT.key, hr]
    cases hl : m.lookup k with
    | some p =>
      rw [hl] at hm
      obtain ⟨j, rfl⟩ := hm
      simp
    | none =>
      rw [hl] at hm
      subst hm
      simp [zeroValue, typeInfo, hi, hiz]

/-- a new key -/
theorem OpJ.mapNew {T K E' : TypeId} {x y z : Operand} {b i p : Nat} {k : List UInt8} {m : List (List UInt8 × Nat)} (hT : MapT P T K E') (ho : o.op = .mapUpdate T x y z) (hd : o.dst = none) (hx : ev L x = some (.map (some b))) (hy : ev L y = some (strV k)) (hz : ev L z = some (.int .u16 p)) (hi : H[i]? = some (.mp (some b) (kvV m))) (hk : m.lookup k = none)
    (h : M L (H.set i (.mp (some b) (kvV (m ++ [(k, p)]))))) : OpJ P Q n w0 S o L H M :=
  OpJ.eff hd fun a w hE hI => by
    obtain ⟨es, clock, hb, hes⟩ := hI.hs _ (List.mem_of_getElem? hi)
    obtain ⟨r, hr, hm⟩ := findNow_str k es.toList m 0 hes
    rw [hk] at hm
    subst hm
    obtain ⟨mm, hck⟩ := checkKey_step false K (strV k)
    have hbl : b < w.heap.size := (Array.getElem?_eq_some_iff.1 hb).1
    have hgo : (getObj b).run P w = .ok (.map es clock) w := by simp [getObj, Sem.run, hb]
    have hso : ∀ ob, (setObj b ob).run P w = .ok () { w with heap := w.heap.setIfInBounds b ob } := fun ob => by simp [setObj, Sem.run, hb]
    have hcr : (Instr.checkKey false (mm + 1) K (strV k)).run P w = .ok () w := run_checkKey hT.key _ _ _ _
    refine ⟨{ w with heap := w.heap.setIfInBounds b (.map (es.push { key := strV k, val := .int .u16 p, born := clock }) (clock + 1)) }, _, ?_, hI.turn hi _ rfl rfl rfl (by simp) ?_ ?_ ?_, h⟩
    · simp only [execOp, ho, hE.eval hx, hE.eval hy, hE.eval hz, Instr.mapUpdate, run_underlying hT.und, Sem.run_bind, Result.andThen_ok, hgo, hck, hcr, Instr.findKey, run_underlying hT.key, hr, Sem.run_pure, hso]
    · intro b' _ hb'
      simp only [Array.getElem?_setIfInBounds]
      rw [if_neg (by simpa [Res.ats, eq_comm] using hb')]
    · refine ⟨es.push { key := strV k, val := .int .u16 p, born := clock }, clock + 1, by simp [hbl], ?_⟩
      simp [hes, kvV]
    · intro b' hb'
      exact .inl hb'

/-! ### arrays -/
theorem Yld.sliceArr {T e : TypeId} {x y z : Operand} {b off N lo hi : Nat} {k1 k2 : IntKind} (ho : o.op = .slice T x (some y) (some z) none) (hu : P.underlying T = some (.array N e)) (hz : (P.info? e).map (·.size) = some 1) (hx : ev L x = some (.pointer (some ⟨b, off, none⟩))) (hy : ev L y = some (.int k1 lo)) (hh : ev L z = some (.int k2 hi)) (h1 : lo ≤ hi) (h2 : hi ≤ N) (h3 : lo < N) :
    Yld P o n L I (.slice (some ⟨b, off + lo, none⟩) (hi - lo) (N - lo)) :=
  fun a w hE _ => by
    cases hq : P.info? e with
    | none => simp [hq] at hz
    | some t =>
      have ht : t.size = 1 := by simpa [hq] using hz
      have hne : ¬ N = lo := by omega
      simp [execOp, ho, hE.eval hx, hE.eval hy, hE.eval hh, Instr.sliceAt, run_underlying hu, Instr.sureAddr, Instr.sliceBounds, Instr.sliceBound, asIntOf, h1, h2, sizeOf, typeInfo, hq, ht, hne, addr_add]
theorem Yld.sliceArrTo {T e : TypeId} {x z : Operand} {b off N hi : Nat} {k2 : IntKind} (ho : o.op = .slice T x none (some z) none) (hu : P.underlying T = some (.array N e)) (hz : (P.info? e).map (·.size) = some 1) (hx : ev L x = some (.pointer (some ⟨b, off, none⟩))) (hh : ev L z = some (.int k2 hi)) (h2 : hi ≤ N) :
    Yld P o n L I (.slice (some ⟨b, off, none⟩) hi N) :=
  fun a w hE _ => by
    cases hq : P.info? e with
    | none => simp [hq] at hz
    | some t =>
      simp [execOp, ho, hE.eval hx, hE.eval hh, Instr.sliceAt, run_underlying hu, Instr.sureAddr, Instr.sliceBounds, Instr.sliceBound, asIntOf, h2, sizeOf, typeInfo, hq, addr_add]
theorem Yld.sliceArrAll {T e : TypeId} {x : Operand} {b off N : Nat} (ho : o.op = .slice T x none none none) (hu : P.underlying T = some (.array N e)) (hz : (P.info? e).map (·.size) = some 1) (hx : ev L x = some (.pointer (some ⟨b, off, none⟩))) :
    Yld P o n L I (.slice (some ⟨b, off, none⟩) N N) :=
  fun a w hE _ => by
    cases hq : P.info? e with
    | none => simp [hq] at hz
    | some t =>
      simp [execOp, ho, hE.eval hx, Instr.sliceAt, run_underlying hu, Instr.sureAddr, Instr.sliceBounds, sizeOf, typeInfo, hq, addr_add]

/-- s[lo:hi] of a slice -/
theorem Yld.sliceSl {T e : TypeId} {x y z : Operand} {b off l c lo hi : Nat} {k1 k2 : IntKind} (ho : o.op = .slice T x (some y) (some z) none) (hu : P.underlying T = some (.slice e)) (hz : (P.info? e).map (·.size) = some 1) (hx : ev L x = some (.slice (some ⟨b, off, none⟩) l c)) (hy : ev L y = some (.int k1 lo)) (hh : ev L z = some (.int k2 hi)) (h1 : lo ≤ hi) (h2 : hi ≤ c) (h3 : lo < c) :
    Yld P o n L I (.slice (some ⟨b, off + lo, none⟩) (hi - lo) (c - lo)) :=
  fun a w hE _ => by
    cases hq : P.info? e with
    | none => simp [hq] at hz
    | some t =>
      have ht : t.size = 1 := by simpa [hq] using hz
      have hne : ¬ c = lo := by omega
      simp [execOp, ho, hE.eval hx, hE.eval hy, hE.eval hh, Instr.sliceAt, Instr.slice, run_underlying hu, Instr.sliceBounds, Instr.sliceBound, asIntOf, h1, h2, sizeOf, typeInfo, hq, ht, hne, addr_add]

/-- s[lo:] of a text -/
theorem extract_str (s : ByteArray) (lo : Nat) : s.extract lo s.size = ⟨(s.data.toList.drop lo).toArray⟩ := by
  apply ByteArray.ext
  apply Array.ext'
  rw [ByteArray.data_extract, Array.toList_extract, List.extract_eq_take_drop]
  show List.take (s.data.size - lo) (List.drop lo s.data.toList) = List.drop lo s.data.toList
  exact List.take_of_length_le (by simp)
theorem Yld.sliceStr {T : TypeId} {x y : Operand} {s : ByteArray} {lo : Nat} {k1 : IntKind} (ho : o.op = .slice T x (some y) none none) (hu : P.underlying T = some .string) (hx : ev L x = some (.string s)) (hy : ev L y = some (.int k1 lo)) (h1 : lo ≤ s.size) :
    Yld P o n L I (strV (s.data.toList.drop lo)) :=
  fun a w hE _ => by
    simp [execOp, ho, hE.eval hx, hE.eval hy, Instr.sliceAt, Instr.slice, run_underlying hu, Instr.sliceBounds, Instr.sliceBound, asIntOf, h1, strV, extract_str]

/-- string(bytes) -/
theorem foldl_push (bs : List UInt8) : ∀ s : ByteArray, (bs.map fun b => (b.toNat : Int)).foldl (fun r n => r.push (UInt8.ofNat n.toNat)) s = ⟨s.data ++ bs.toArray⟩ := by
  induction bs with
  | nil => intro s; simp
  | cons x r ih =>
    intro s
    rw [List.map_cons, List.foldl_cons, ih]
    apply ByteArray.ext
    apply Array.ext'
    simp [ByteArray.push]
theorem run_bytes {w : World} {b off c : Nat} {bs : List UInt8} (h : Cells w b off (bytesV bs)) : (Conv.bytesToString (.slice (some ⟨b, off, none⟩) bs.length c)).run P w = .ok (strV bs) w := by
  have hl := run_loadCells_list (P := P) w ⟨b, off, none⟩ (bytesV bs) fun j v hj => by rw [addr_add]; exact h.cell j v hj
  have he : bytesV bs = (bs.map fun b => (b.toNat : Int)).map (Value.int .u8) := by simp [bytesV]
  rw [bytesV_len, he] at hl
  rw [run_bytesToString (P := P) w ⟨b, off, none⟩ bs.length c _ hl, foldl_push]
  have : ByteArray.empty.data ++ bs.toArray = bs.toArray := Array.empty_append
  rw [this]
  rfl
theorem Yld.bytesStr {A B e : TypeId} {x : Operand} {b off c ln : Nat} {bs : List UInt8} (hl : ln = bs.length) (ho : o.op = .convert A B x) (hA : P.underlying A = some (.slice e)) (he : P.underlying e = some (.int .u8)) (hB : P.underlying B = some .string) (hx : ev L x = some (.slice (some ⟨b, off, none⟩) ln c)) (hc : ∀ w, I w → Cells w b off (bytesV bs)) : Yld P o n L I (strV bs) :=
  fun a w hE hI => by
    subst hl
    simp [execOp, ho, hE.eval hx, convert, run_underlying hA, run_underlying hB, run_underlying he, run_bytes (hc w hI)]
theorem Yld.bytesStrV {A B e : TypeId} {x : Operand} {v : Value} {bs : List UInt8} (ho : o.op = .convert A B x) (hA : P.underlying A = some (.slice e)) (he : P.underlying e = some (.int .u8)) (hB : P.underlying B = some .string) (hx : ev L x = some v) (hc : ∀ w, I w → Bytes w v bs) : Yld P o n L I (strV bs) :=
  fun a w hE hI => by
    rcases hc w hI with ⟨p, c, rfl, rfl⟩ | ⟨b, off, c, rfl, hcc⟩
    · cases p with
      | none =>
        simp [execOp, ho, hE.eval hx, convert, run_underlying hA, run_underlying hB, run_underlying he, Conv.bytesToString, strV]
        rfl
      | some q =>
        have h := run_loadCells_list (P := P) w q [] (fun j v hj => by simp at hj)
        simp only [List.length_nil] at h
        simp [execOp, ho, hE.eval hx, convert, run_underlying hA, run_underlying hB, run_underlying he, Conv.bytesToString, strV, h]
        rfl
    · simp [execOp, ho, hE.eval hx, convert, run_underlying hA, run_underlying hB, run_underlying he, run_bytes hcc]
end
end Go.Proofs.YtamobccbioafmaaDoor

/-
  Struct values that are built; copies of texts into arrays; results that lie in memory.
-/
namespace Go.Proofs.YtamobccbioafmaaDoor
open Go

/-- where a struct's fields lie: offset and cells -/
def places (P : Program) (T : TypeId) : Option (List (Nat × Nat)) :=
  match P.underlying T with
  | some (.struct fs) => fs.toList.mapM fun f => (P.info? f.type).map fun i => (f.offset, i.size)
  | _ => none

theorem run_places {P : Program} (w : World) : ∀ (fs : List Field) (pl : List (Nat × Nat)), (fs.mapM fun f => (P.info? f.type).map fun i => (f.offset, i.size)) = some pl →
    (fs.mapM (m := Sem) fun f => do pure (f.offset, ← sizeOf f.type)).run P w = .ok pl w
  | [], pl, h => by
    simp at h
    subst h
    simp
  | f :: fs, pl, h => by
    simp only [List.mapM_cons] at h
    cases hq : P.info? f.type with
    | none => simp [hq] at h
    | some i =>
      simp only [hq, Option.map_some] at h
      cases hr : (fs.mapM fun f => (P.info? f.type).map fun i => (f.offset, i.size)) with
      | none => simp [hr] at h
      | some r =>
        simp [hr] at h
        subst h
        have ih := run_places w fs r hr
        simp only [List.mapM_cons, Sem.run_bind, sizeOf, typeInfo, run_program, Result.andThen_ok, hq, Sem.run_pure]
        simp only [sizeOf, typeInfo] at ih
        rw [ih]
        rfl

section
variable {P : Program} {Q : Exit → Act → World → Prop} {n : Nat} {w0 : World} {S : List Nat} {o : Oper} {L : List (Nat × Value)} {H : List Res} {M : List (Nat × Value) → List Res → Prop} {I : World → Prop}

theorem run_build {T : TypeId} {pl : List (Nat × Nat)} {z : Value} {cs : Array Value} {parts : Array (Nat × Value)} (hp : places P T = some pl) (hz : (P.info? T).bind (·.zero) = some z) (hf : Instr.fill (fun i => pl[i]?) z.cells parts.toList = some cs) (w : World) : (Instr.build T parts).run P w = .ok (.agg cs) w := by
  unfold places at hp
  cases hq : P.info? T with
  | none => simp [hq] at hz
  | some i =>
    have hz' : i.zero = some z := by simpa [hq] using hz
    split at hp
    · rename_i fs hfs
      have hrun := run_places (P := P) w fs.toList pl hp
      have hrun' : (fs.mapM (m := Sem) fun f => do pure (f.offset, ← sizeOf f.type)).run P w = .ok pl.toArray w := by
        rw [Array.mapM_eq_mapM_toList, Sem.run_map, hrun]
        rfl
      have hf' : Instr.fill (fun x => pl.toArray[x]?) z.cells parts.toList = some cs := by simpa using hf
      simp only [Instr.build, zeroValue, typeInfo, Sem.run_bind, run_program, Result.andThen_ok, hq, hz', Sem.run_pure, run_underlying hfs, hrun', hf']
    · cases hp

def mapV (a : Act) (ps : Array (Nat × Operand)) : Array (Nat × Value) := ps.map fun (i, x) => (i, a.eval x)

/-- parts of a struct, by their operands -/
def evp (L : List (Nat × Value)) : List (Nat × Operand) → Option (List (Nat × Value))
  | [] => some []
  | (i, x) :: r => match ev L x, evp L r with
    | some v, some vs => some ((i, v) :: vs)
    | _, _ => none
theorem evp_map {a : Act} (hE : E n a L) : ∀ {ps : List (Nat × Operand)} {vs : List (Nat × Value)}, evp L ps = some vs → ps.map (fun p => (p.1, a.eval p.2)) = vs
  | [], vs, h => by simp [evp] at h; subst h; rfl
  | (i, x) :: r, vs, h => by
    simp only [evp] at h
    split at h
    · rename_i v us hv hu
      simp at h
      subst h
      simp [hE.eval hv, evp_map hE hu]
    · cases h

theorem Yld.build {T : TypeId} {parts : Array (Nat × Operand)} {vs : List (Nat × Value)} {pl : List (Nat × Nat)} {z : Value} {cs : Array Value} (hp : places P T = some pl) (hz : (P.info? T).bind (·.zero) = some z) (ho : o.op = .build T parts) (hv : evp L parts.toList = some vs) (hf : Instr.fill (fun i => pl[i]?) z.cells vs = some cs) : Yld P o n L I (.agg cs) :=
  fun a w hE _ => by
    have hm : (parts.map fun (x : Nat × Operand) => match x with | (i, x) => (i, a.eval x)).toList = vs := by
      rw [Array.toList_map]
      exact evp_map hE hv
    have := run_build (parts := parts.map fun (x : Nat × Operand) => match x with | (i, x) => (i, a.eval x)) hp hz (by rw [hm]; exact hf) w
    simp only [execOp, ho, Sem.run_bind, this, Result.andThen_ok, Sem.run_pure]

/-- the parts lie one behind the other, from off on -/
def inRow (pl : List (Nat × Nat)) : Nat → List (Nat × Value) → Prop
  | _, [] => True
  | off, (i, v) :: r => pl[i]? = some (off, v.cells.size) ∧ inRow pl (off + v.cells.size) r

theorem fill_row {pl : List (Nat × Nat)} : ∀ (vs : List (Nat × Value)) (off : Nat) (c : Array Value), inRow pl off vs → off + (flat (vs.map (·.2))).length ≤ c.size →
    Instr.fill (fun i => pl[i]?) c vs = some (setCs c off (flat (vs.map (·.2))))
  | [], off, c, _, _ => by simp [Instr.fill, flat, setCs_nil]
  | (i, v) :: r, off, c, h, hl => by
    have h3 : flat (((i, v) :: r).map (·.2)) = v.cells.toList ++ flat (r.map (·.2)) := by simp [flat]
    rw [h3, List.length_append, Array.length_toList] at hl
    have hx : v.cells.toList.length = v.cells.size := by simp
    simp only [Instr.fill, h.1]
    rw [if_neg (by simp; omega), array_foldl_set _ _ _ (by omega), fill_row r (off + v.cells.size) _ h.2 (by rw [setCs_size (by rw [hx]; omega)]; omega), h3, ← setCs_adj (by rw [hx]; omega), hx]

theorem Yld.buildAll {T : TypeId} {parts : Array (Nat × Operand)} {vs : List (Nat × Value)} {pl : List (Nat × Nat)} {z : Value} (hp : places P T = some pl) (hz : (P.info? T).bind (·.zero) = some z) (ho : o.op = .build T parts) (hv : evp L parts.toList = some vs) (hr : inRow pl 0 vs) (hl : (flat (vs.map (·.2))).length = z.cells.size) : Yld P o n L I (.agg (flat (vs.map (·.2))).toArray) :=
  Yld.build hp hz ho hv (by
    rw [fill_row vs 0 _ hr (by omega)]
    simp only [setCs, List.take_zero, List.nil_append, Nat.zero_add, Option.some.injEq]
    rw [hl, List.drop_of_length_le (by simp), List.append_nil])

theorem Yld.field {T : TypeId} {x : Operand} {f k : Nat} {cs : Array Value} {v : Value} {fs : Array Field} {fl : Field} {d : TypeDesc} (ho : o.op = .field T x f) (hu : P.underlying T = some (.struct fs)) (hf : fs[f]? = some fl) (hk : fl.offset = k) (hd : P.underlying fl.type = some d) (hagg : (match d with | .struct _ | .array _ _ => false | _ => true) = true) (hx : ev L x = some (.agg cs)) (hv : cs[k]? = some v) : Yld P o n L I v :=
  fun a w hE _ => by
    subst hk
    simp only [execOp, ho, hE.eval hx]
    cases d <;> simp_all [Instr.field, run_underlying hu, asAgg, part, isAgg, run_underlying hd]

/-! ### copy -/
theorem OpJ.copyStr {t T2 T T' : TypeId} {d i b off l c : Nat} {x y : Operand} {s : ByteArray} {cs : Array Value} (ho : o.op = .call ⟨.builtin .copy, #[x, y], #[t, T2]⟩) (hd : o.dst = some d) (hn : d.blt n = true) (hu : P.underlying t = some (.slice T)) (hz : (P.info? T).map (·.size) = some 1)
    (hx : ev L x = some (.slice (some ⟨b, off, none⟩) l c)) (hy : ev L y = some (.string s)) (hi : H[i]? = some (.blk b cs T')) (hl : off + l ≤ cs.size)
    (h : M ((d, .int .i64 (s.data.toList.take l).length) :: L) (H.set i (.blk b (setCs cs off (bytesV (s.data.toList.take l))) T'))) : OpJ P Q n w0 S o L H M :=
  OpJ.val hd hn fun a w hE hI => by
    have hb : w.heap[b]? = some (.cells cs T' (0, 0)) := hI.hs _ (List.mem_of_getElem? hi)
    have hlen : (s.data.toList.take l).length = Nat.min s.size l := by
      simp only [List.length_take, Array.length_toList]
      rw [Nat.min_comm]
      rfl
    have hst := run_storeCells_at P b off T' (bytesV (s.data.toList.take l)) 0 cs w hb (by rw [bytesV_len, hlen]; have := Nat.min_le_right s.size l; simp only [Nat.min_def] at this ⊢; simp at this ⊢; omega) (bytesV_one _)
    refine ⟨_, _, _, ?_, hI.setRow hi (setCs cs off (bytesV (s.data.toList.take l))), h⟩
    cases hq : P.info? T with
    | none => simp [hq] at hz
    | some ti =>
      have ht : ti.size = 1 := by simpa [hq] using hz
      have hcells : ((s.extract 0 (Nat.min s.size l)).data.map fun b => Value.int .u8 b.toNat) = (bytesV (s.data.toList.take l)).toArray := by
        apply Array.ext'
        simp only [Array.toList_map, ByteArray.data_extract, Array.toList_extract, List.extract_eq_take_drop, Nat.sub_zero, List.drop_zero, bytesV, List.map_take]
        rw [← List.map_take, ← List.map_take]
        congr 1
        apply List.take_eq_take_iff.2
        simp only [Array.length_toList]
        show min (Nat.min s.data.size l) s.data.size = min l s.data.size
        simp only [Nat.min_def]
        repeat (first | rfl | omega | split)
      simp only [Nat.add_zero] at hst
      have hfc : (Builtin.firstCells 1 (Nat.min s.size l) (.string s)).run P w = .ok (bytesV (s.data.toList.take l)).toArray w := by
        simp only [Builtin.firstCells, hcells]
        rfl
      have hfin : setCs cs off (bytesV (s.data.toList.take l)) = (cs.toList.take off ++ bytesV (s.data.toList.take l) ++ cs.toList.drop (off + (bytesV (s.data.toList.take l)).length)).toArray := rfl
      simp [execOp, ho, resolve, invoke, Go.builtin, hE.eval hx, hE.eval hy, Builtin.copy_, run_underlying hu, Builtin.lenOf, sizeOf, typeInfo, hq, ht, hfc, hst, hfin, goInt, hlen]

theorem Inv.whole {w : World} (h : Inv w0 S H w) {i b : Nat} {vs : List Value} {T : TypeId} (hi : H[i]? = some (.blk b vs.toArray T)) : Cells w b 0 vs :=
  h.cells hi (by simp) (by simp)

/-! ### results in memory -/
theorem ExJ.retC {fn : Func} {s T b off : Nat} {vs : List Value} {d : TypeDesc} {H'} {w1 : World} {S1 : List Nat} {Post : Value → List Res → Prop} (hr : fn.results = #[.cell s T]) (hs : L.lookup s = some (.pointer (some ⟨b, off, none⟩))) (hu : P.underlying T = some d) (hd : (match d with | .struct _ | .array _ _ => true | _ => false) = true) (hz : (P.info? T).map (·.size) = some vs.length)
    (hc : ∀ w, Inv w0 S H w → Cells w b off vs) (hP : Post (.agg vs.toArray) H') (hH : ∀ w, Inv w0 S H w → Inv w1 S1 H' w) :
    ExJ (bodyPost P fn (Ret w1 S1 Post)) .ret n w0 S L H :=
  ExJ.retOf (fun a w hE hI => by
    have h := run_loadCells_list (P := P) w ⟨b, off, none⟩ vs fun j v hj => by rw [addr_add]; exact (hc w hI).cell j v hj
    have h1 := hE.at_ s _ hs
    cases hq : P.info? T with
    | none => simp [hq] at hz
    | some t =>
      have ht : t.size = vs.length := by simpa [hq] using hz
      cases d <;> simp_all [results, loadVar, isAgg, run_underlying hu, sizeOf, typeInfo, asAddr]) hP hH
end
end Go.Proofs.YtamobccbioafmaaDoor

/-
  Slices that are opened to their block, appends in place, slices that are made, errors that are compared.
-/
namespace Go.Proofs.YtamobccbioafmaaDoor
open Go

section
variable {P : Program} {Q : Exit → Act → World → Prop} {n : Nat} {w0 : World} {S : List Nat} {o : Oper} {L : List (Nat × Value)} {H : List Res} {M : List (Nat × Value) → List Res → Prop} {I : World → Prop}

/-- an owned slice's block -/
theorem CodeJ.openB {code : Code} {T : TypeId} {i c : Nat} {p : Option Addr} {bs : List UInt8} (hi : H[i]? = some (ownB T (.slice p bs.length c) bs)) (hne : bs ≠ [])
    (h : ∀ b cs, p = some ⟨b, 0, none⟩ → cs.size = c → bs.length ≤ c → cs.toList.take bs.length = bytesV bs → CodeJ P Q n w0 S code L (H.set i (.blk b cs T))) : CodeJ P Q n w0 S code L H := fun a w hE hI => by
  have hr := (hI.hs _ (List.mem_of_getElem? hi)).1
  rcases hr with ⟨_, h1, _⟩ | ⟨b, cap, cs, hv, hb, hn, hc, hl, hx⟩
  · exact absurd (List.length_eq_zero_iff.1 h1) hne
  · injection hv with h1 h2 h3
    subst h1 h3
    refine h b cs rfl (by simpa using hc) hn (by simpa using hx.symm) a w hE (hI.turn hi w rfl rfl rfl (Nat.le_refl _) (fun _ _ _ => rfl) hb fun b' hb' => .inl ?_)
    simp [Res.ats] at hb'
    subst hb'
    simp [ownB, own, Res.ats, blkOf]

theorem Inv.shutB {w : World} (hI : Inv w0 S H w) {T : TypeId} {i b c : Nat} {cs : Array Value} {bs : List UInt8} (hi : H[i]? = some (.blk b cs T)) (hc : cs.size = c) (hn : bs.length ≤ c) (hx : cs.toList.take bs.length = bytesV bs) :
    Inv w0 S (H.set i (ownB T (.slice (some ⟨b, 0, none⟩) bs.length c) bs)) w := by
  have hb : w.heap[b]? = some (.cells cs T (0, 0)) := hI.hs _ (List.mem_of_getElem? hi)
  have ho : Own w T 1 (.slice (some ⟨b, 0, none⟩) bs.length c) bs.length (bytesV bs) := .inr ⟨b, c, cs, rfl, hb, hn, by simpa using hc, by simp [bytesV_len], by simpa using hx.symm⟩
  refine hI.turn hi w rfl rfl rfl (Nat.le_refl _) (fun _ _ _ => rfl) ⟨ho, ho, Nat.le_refl _⟩ fun b' hb' => .inl ?_
  simp [ownB, own, Res.ats, blkOf] at hb'
  subst hb'
  simp [Res.ats]

/-- append in place -/
theorem OpJ.appendIn {t T T' tx : TypeId} {z : Value} {d i b off l cap : Nat} {x y : Operand} {u : Value} {cs : Array Value} {news : List UInt8} (he : Elt P t T 1 1 z) (ho : o.op = .call ⟨.builtin .append, #[x, y], #[t, tx]⟩) (hd : o.dst = some d) (hn : d.blt n = true)
    (hx : ev L x = some (.slice (some ⟨b, off, none⟩) l cap)) (hy : ev L y = some u) (hi : H[i]? = some (.blk b cs T')) (hsrc : ∀ w, Inv w0 S H w → Src P 1 tx u news.length (bytesV news) w) (hroom : l + news.length ≤ cap) (hfit : off + l + news.length ≤ cs.size)
    (h : M ((d, .slice (some ⟨b, off, none⟩) (l + news.length) cap) :: L) (H.set i (.blk b (setCs cs (off + l) (bytesV news)) T'))) : OpJ P Q n w0 S o L H M :=
  OpJ.val hd hn fun a w hE hI => by
    have hb : w.heap[b]? = some (.cells cs T' (0, 0)) := hI.hs _ (List.mem_of_getElem? hi)
    obtain ⟨inf, hinf, hz, hzs, hsize, hbytes⟩ := he.info
    have hs := hsrc w hI
    have hst := run_storeCells_at P b (off + l) T' (bytesV news) 0 cs w hb (by rw [bytesV_len]; simpa using hfit) (bytesV_one _)
    simp only [Nat.add_zero] at hst
    refine ⟨_, _, _, ?_, hI.setRow hi (setCs cs (off + l) (bytesV news)), h⟩
    have hfin : setCs cs (off + l) (bytesV news) = (cs.toList.take (off + l) ++ bytesV news ++ cs.toList.drop (off + l + (bytesV news).length)).toArray := rfl
    rw [hfin]
    rcases hs.kind with ⟨e', hk⟩ | hk <;> simp [execOp, ho, resolve, invoke, builtin, hE.eval hx, hE.eval hy, Builtin.append_, run_underlying he.und, run_underlying hk, sizeOf, typeInfo, hinf, hsize, hs.len, hroom, hs.cells, addr_add, hst]

/-- make([]byte, 0, c) -/
theorem OpJ.makeB {t T : TypeId} {z : Value} {d c : Nat} {x y : Operand} {k1 k2 : IntKind} (he : Elt P t T 1 1 z) (ho : o.op = .makeSlice t x y) (hd : o.dst = some d) (hn : d.blt n = true) (hx : ev L x = some (.int k1 0)) (hy : ev L y = some (.int k2 c)) (hc : c ≤ 140737488355328)
    (h : ∀ b, w0.heap.size ≤ b → M ((d, .slice (some ⟨b, 0, none⟩) 0 c) :: L) (ownB T (.slice (some ⟨b, 0, none⟩) 0 c) [] :: H)) : OpJ P Q n w0 S o L H M :=
  OpJ.val hd hn fun a w hE hI => by
    obtain ⟨i, hi, hz, hzs, hsize, hbytes⟩ := he.info
    have hr := Go.run_make (P := P) w t T i z he.und hi hz k1 k2 0 c (Int.le_refl _) (by omega) (by rw [hbytes]; omega) (by omega)
    simp only [Int.toNat_zero, Int.toNat_natCast] at hr
    have ho' : Own (w.alloc (.cells (madeCells z.cells (c * i.size)) T)) T 1 (.slice (some ⟨w.heap.size, 0, none⟩) 0 c) 0 [] := .inr ⟨w.heap.size, c, _, rfl, heap_alloc_new w _, Nat.zero_le _, by rw [size_madeCells, hsize], rfl, by simp⟩
    refine ⟨_, _, _, ?_, hI.new (w.alloc (.cells (madeCells z.cells (c * i.size)) T)) _ rfl rfl rfl rfl (ownB T (.slice (some ⟨w.heap.size, 0, none⟩) 0 c) []) ⟨ho', ho', Nat.le_refl _⟩ (by simp [ownB, own, Res.ats, blkOf]), h w.heap.size hI.keep.size⟩
    simp [execOp, ho, hE.eval hx, hE.eval hy, hr]

/-! ### errors -/
theorem Yld.ifaceEqDiff {T T2 : TypeId} {x y : Operand} {t u : TypeId} {v v' : Value} {ms : Array (String × TypeId)} (ho : o.op = .binOp .eql T x y T2) (hu : P.underlying T = some (.interface ms)) (hx : ev L x = some (.iface t v)) (hy : ev L y = some (.iface u v')) (hne : t ≠ u) : Yld P o n L I (.bool false) :=
  fun a w hE _ => by
    simp only [execOp, ho, hE.eval hx, hE.eval hy]
    obtain ⟨d, hd⟩ := equal_step T (.iface t v) (.iface u v')
    simp [eqGuard, binOp, hd, Op.equalIn, run_underlying hu, hne]

theorem equal_step2 (t : TypeId) (x y : Value) : ∃ d, Op.equal t x y = Op.equalIn (d + 2) t x y := ⟨9998, rfl⟩
theorem Yld.ifaceEqSame {T T2 : TypeId} {x y : Operand} {t e : TypeId} {p : Addr} {ms : Array (String × TypeId)} (ho : o.op = .binOp .eql T x y T2) (hu : P.underlying T = some (.interface ms)) (hx : ev L x = some (.iface t (.pointer (some p)))) (hy : ev L y = some (.iface t (.pointer (some p)))) (ht : P.underlying t = some (.pointer e)) (hc : (P.info? t).map (·.comparable) = some true) (hz : (P.info? e).isSome = true) : Yld P o n L I (.bool true) :=
  fun a w hE _ => by
    simp only [execOp, ho, hE.eval hx, hE.eval hy]
    obtain ⟨d, hd⟩ := equal_step2 T (.iface t (.pointer (some p))) (.iface t (.pointer (some p)))
    obtain ⟨j, hj⟩ := Option.isSome_iff_exists.1 hz
    cases hq : P.info? t with
    | none => simp [hq] at hc
    | some i =>
      have hc' : i.comparable = true := by simpa [hq] using hc
      have := run_equalIn_iface_ptr_same w d p hu ht hq hc' hj
      simp [eqGuard, binOp, hd, this]
end
end Go.Proofs.YtamobccbioafmaaDoor

/-
  Appends to an owned slice of any elements.
-/
namespace Go.Proofs.YtamobccbioafmaaDoor
open Go
section
variable {P : Program} {Q : Exit → Act → World → Prop} {n : Nat} {w0 : World} {S : List Nat} {o : Oper} {L : List (Nat × Value)} {H : List Res} {M : List (Nat × Value) → List Res → Prop} {I : World → Prop}

theorem OpJ.appendOwn {t T tx : TypeId} {sz bytes : Nat} {z : Value} {d i k m : Nat} {x y : Operand} {v u : Value} {xs news : List Value} (he : Elt P t T sz bytes z) (ho : o.op = .call ⟨.builtin .append, #[x, y], #[t, tx]⟩) (hd : o.dst = some d) (hn : d.blt n = true)
    (hx : ev L x = some v) (hy : ev L y = some u) (hi : H[i]? = some (own T sz v k xs)) (hsrc : ∀ w, Inv w0 S H w → Src P sz tx u m news w) (hroom : (k + m) * bytes ≤ 175921860444160) (hmax : k + m ≤ 9223372036854775807)
    (h : ∀ p c, M ((d, .slice p (k + m) c) :: L) (H.set i (own T sz (.slice p (k + m) c) (k + m) (xs ++ news)))) : OpJ P Q n w0 S o L H M :=
  fun K hK => OpJ.append (M := fun L' H' => ∃ p c, L' = (d, .slice p (k + m) c) :: L ∧ H' = H.set i (.sl T sz v k xs (.slice p (k + m) c) (k + m) (xs ++ news))) he ho hd hn hx hy hi hsrc hroom hmax (fun p c => ⟨p, c, rfl, rfl⟩) K fun L' H' ⟨p, c, hL, hH⟩ a w hE hI => by
    subst hL hH
    refine hK _ _ (h p c) a w hE ?_
    have hl : i < H.length := (List.getElem?_eq_some_iff.1 hi).1
    have := hI.sl2 (i := i) (T := T) (sz := sz) (v := v) (k := k) (xs := xs) (v' := .slice p (k + m) c) (k' := k + m) (xs' := xs ++ news) (by simp [hl])
    rwa [List.set_set] at this
end

/-- an owned slice of integers -/
def ownI (T : TypeId) (v : Value) (ns : List Nat) : Res := own T 1 v ns.length (ns.map fun k => Value.int .i64 (k : Nat))
end Go.Proofs.YtamobccbioafmaaDoor

/-
  Owned slices of structs, and resources that are only read from now on.
-/
namespace Go.Proofs.YtamobccbioafmaaDoor
open Go
section
variable {P : Program} {Q : Exit → Act → World → Prop} {n : Nat} {w0 : World} {S : List Nat} {o : Oper} {L : List (Nat × Value)} {H : List Res} {M : List (Nat × Value) → List Res → Prop} {I : World → Prop}

/-- an owned slice whose elements are told by α -/
def ownL {α : Type} (T : TypeId) (sz : Nat) (cells : α → List Value) (v : Value) (xs : List α) : Res := own T sz v xs.length (xs.map cells).flatten

theorem OpJ.appendL {α : Type} {cells : α → List Value} {t T tx : TypeId} {sz bytes : Nat} {z : Value} {d i : Nat} {x y : Operand} {v u : Value} {xs : List α} {news : α} (he : Elt P t T sz bytes z) (ho : o.op = .call ⟨.builtin .append, #[x, y], #[t, tx]⟩) (hd : o.dst = some d) (hn : d.blt n = true)
    (hx : ev L x = some v) (hy : ev L y = some u) (hi : H[i]? = some (ownL T sz cells v xs)) (hsrc : ∀ w, Inv w0 S H w → Src P sz tx u 1 (cells news) w) (hroom : (xs.length + 1) * bytes ≤ 175921860444160 ∧ xs.length + 1 ≤ 9223372036854775807)
    (h : ∀ p c, M ((d, .slice p (xs ++ [news]).length c) :: L) (H.set i (ownL T sz cells (.slice p (xs ++ [news]).length c) (xs ++ [news])))) : OpJ P Q n w0 S o L H M :=
  OpJ.appendOwn he ho hd hn hx hy hi hsrc hroom.1 hroom.2 fun p c => by
    have e1 : (xs ++ [news]).length = xs.length + 1 := by simp
    have e2 : ((xs ++ [news]).map cells).flatten = (xs.map cells).flatten ++ cells news := by simp
    have := h p c
    unfold ownL at this
    rw [e1, e2] at this
    exact this

theorem ownL.row {α : Type} {T sz : Nat} {cells : α → List Value} {v : Value} {xs : List α} {w : World} (h : (ownL T sz cells v xs).holds w) : Own w T sz v xs.length (xs.map cells).flatten := h.1

/-- two resources as one, to be read -/
def Res.join (r s : Res) : Res := .ro (fun w => r.holds w ∧ s.holds w) (r.ats ++ s.ats) fun _ _ h hp => ⟨Res.congr hp.1 fun b hb => h b (by simp [hb]), Res.congr hp.2 fun b hb => h b (by simp [hb])⟩

theorem Inv.join {w : World} {r s : Res} (h : Inv w0 S (r :: s :: H) w) : Inv w0 S (Res.join r s :: H) w := by
  have hp := List.pairwise_cons.1 h.dj
  have hp2 := List.pairwise_cons.1 hp.2
  refine ⟨h.keep, ?_, ?_, ?_⟩
  · intro x hx
    rcases List.mem_cons.1 hx with rfl | hx
    · refine ⟨⟨h.hs r (by simp), h.hs s (by simp)⟩, fun b hb => ?_⟩
      rcases List.mem_append.1 hb with hb | hb
      · exact h.lt r (by simp) b hb
      · exact h.lt s (by simp) b hb
    · exact h.hs x (by simp [hx])
  · refine List.pairwise_cons.2 ⟨fun x hx b hb => ?_, hp2.2⟩
    rcases List.mem_append.1 hb with hb | hb
    · exact hp.1 x (by simp [hx]) b hb
    · exact hp2.1 x hx b hb
  · intro x hx b hb
    rcases List.mem_cons.1 hx with rfl | hx
    · rcases List.mem_append.1 hb with hb | hb
      · exact h.rng r (by simp) b hb
      · exact h.rng s (by simp) b hb
    · exact h.rng x (by simp [hx]) b hb

theorem Inv.roMono {w : World} {p q : World → Prop} {bs : List Nat} {hp : ∀ w w' : World, (∀ b ∈ bs, w'.heap[b]? = w.heap[b]?) → p w → p w'} {hq : ∀ w w' : World, (∀ b ∈ bs, w'.heap[b]? = w.heap[b]?) → q w → q w'}
    (h : Inv w0 S (.ro p bs hp :: H) w) (hpq : ∀ w, p w → q w) : Inv w0 S (.ro q bs hq :: H) w := by
  refine ⟨h.keep, ?_, ?_, ?_⟩
  · intro x hx
    rcases List.mem_cons.1 hx with rfl | hx
    · have := h.hs _ (List.mem_cons_self ..)
      exact ⟨hpq w this.1, this.2⟩
    · exact h.hs x (by simp [hx])
  · have hp := List.pairwise_cons.1 h.dj
    exact List.pairwise_cons.2 ⟨fun x hx b hb => hp.1 x hx b hb, hp.2⟩
  · intro x hx b hb
    rcases List.mem_cons.1 hx with rfl | hx
    · exact h.rng _ (List.mem_cons_self ..) b hb
    · exact h.rng x (by simp [hx]) b hb

theorem Inv.roGet {w : World} {p : World → Prop} {bs : List Nat} {hp : ∀ w w' : World, (∀ b ∈ bs, w'.heap[b]? = w.heap[b]?) → p w → p w'} (h : Inv w0 S H w) {i : Nat} (hi : H[i]? = some (.ro p bs hp)) : p w := (h.hs _ (List.mem_of_getElem? hi)).1

/-- a resource that holds nothing -/
theorem Inv.roNil {w : World} (h : Inv w0 S H w) {p : World → Prop} (hp : ∀ w, p w) : Inv w0 S (.ro p [] (fun _ _ _ _ => hp _) :: H) w := by
  refine ⟨h.keep, ?_, List.pairwise_cons.2 ⟨fun _ _ b hb => (by cases hb), h.dj⟩, ?_⟩
  · intro x hx
    rcases List.mem_cons.1 hx with rfl | hx
    · exact ⟨hp w, fun b hb => by cases hb⟩
    · exact h.hs x hx
  · intro x hx b hb
    rcases List.mem_cons.1 hx with rfl | hx
    · cases hb
    · exact h.rng x hx b hb
end
end Go.Proofs.YtamobccbioafmaaDoor

/-
  More rules: a slice that holds something has an address; s[lo:]; remainders.
-/
namespace Go.Proofs.YtamobccbioafmaaDoor
open Go
variable {P : Program} {Q : Exit → Act → World → Prop} {n : Nat} {w0 : World} {S : List Nat} {L : List (Nat × Value)} {H : List Res} {o : Oper} {I : World → Prop}

theorem CodeJ.someOwn {code : Code} {T : TypeId} {i m c sz : Nat} {p : Option Addr} {xs : List Value} (hi : H[i]? = some (own T sz (.slice p m c) m xs)) (hm : m ≠ 0)
    (h : ∀ b, p = some ⟨b, 0, none⟩ → m ≤ c → CodeJ P Q n w0 S code L H) : CodeJ P Q n w0 S code L H := fun a w hE hI => by
  have hr := (hI.hs _ (List.mem_of_getElem? hi)).1
  rcases hr with ⟨_, h1, _⟩ | ⟨b, cap, cs, hv, hb, hn, hc, hl, hx⟩
  · exact absurd h1 hm
  · simp only [Value.slice.injEq] at hv
    obtain ⟨h1, h2, h3⟩ := hv
    exact h b h1 (by omega) a w hE hI

theorem OpsJ.someOwn {ops : Array Oper} {l : List Oper} {T : TypeId} {i m c sz : Nat} {p : Option Addr} {xs : List Value} (hi : H[i]? = some (own T sz (.slice p m c) m xs)) (hm : m ≠ 0)
    (h : ∀ b, p = some ⟨b, 0, none⟩ → m ≤ c → OpsJ P ops Q n w0 S l L H) : OpsJ P ops Q n w0 S l L H := fun a w hE hI => by
  have hr := (hI.hs _ (List.mem_of_getElem? hi)).1
  rcases hr with ⟨_, h1, _⟩ | ⟨b, cap, cs, hv, hb, hn, hc, hl, hx⟩
  · exact absurd h1 hm
  · simp only [Value.slice.injEq] at hv
    obtain ⟨h1, h2, h3⟩ := hv
    exact h b h1 (by omega) a w hE hI

/-- s[lo:] of a slice -/
theorem Yld.sliceFrom {T e : TypeId} {x y : Operand} {b off l c lo sz : Nat} {k1 : IntKind} (ho : o.op = .slice T x (some y) none none) (hu : P.underlying T = some (.slice e)) (hz : (P.info? e).map (·.size) = some sz) (hx : ev L x = some (.slice (some ⟨b, off, none⟩) l c)) (hy : ev L y = some (.int k1 lo)) (h1 : lo ≤ l) (h3 : lo < c) :
    Yld P o n L I (.slice (some ⟨b, off + lo * sz, none⟩) (l - lo) (c - lo)) :=
  fun a w hE _ => by
    cases hq : P.info? e with
    | none => simp [hq] at hz
    | some t =>
      have ht : t.size = sz := by simpa [hq] using hz
      have hne : ¬ c = lo := by omega
      simp [execOp, ho, hE.eval hx, hE.eval hy, Instr.sliceAt, Instr.slice, run_underlying hu, Instr.sliceBounds, Instr.sliceBound, asIntOf, h1, sizeOf, typeInfo, hq, ht, hne, addr_add]

/-- a remainder, of numbers that are not less than 0 -/
theorem Yld.remN {T T2 : TypeId} {x y : Operand} {k : IntKind} {p q : Nat} (ho : o.op = .binOp .rem T x y T2) (hx : ev L x = some (.int k (p : Nat))) (hy : ev L y = some (.int k (q : Nat))) (hq : q ≠ 0) : Yld P o n L I (.int k ((p % q : Nat) : Int)) :=
  fun a w hE _ => by
    have hq' : ¬ (q : Int) = 0 := by omega
    have e : Int.tmod (p : Int) (q : Int) = ((p % q : Nat) : Int) := by
      rw [Int.ofNat_tmod]
    simp [execOp, ho, hE.eval hx, hE.eval hy, eqGuard, binOp, Op.intDiv, hq, e]
theorem AnyJ.three {ops : Array Oper} {Hk : List Res} {fuel : Nat} {listed : Array Bool} (i j k : Nat) (hr : Region.ready .any ops listed = [i, j, k]) (h : StepJ P ops Q n w0 S Hk fuel listed i L H) (h' : StepJ P ops Q n w0 S Hk fuel listed j L H) (h'' : StepJ P ops Q n w0 S Hk fuel listed k L H) : AnyJ P ops Q n w0 S Hk (fuel + 1) listed L H :=
  fun a w hE hI => wpAnyH_all hr (by simp) fun x hj => by
    simp at hj
    rcases hj with rfl | rfl | rfl
    · exact h a w hE hI
    · exact h' a w hE hI
    · exact h'' a w hE hI
end Go.Proofs.YtamobccbioafmaaDoor

/-
  More rules: arrays that are built; texts that are joined; bits.
-/
namespace Go.Proofs.YtamobccbioafmaaDoor
open Go
section
variable {P : Program} {Q : Exit → Act → World → Prop} {n : Nat} {w0 : World} {S : List Nat} {L : List (Nat × Value)} {H : List Res} {o : Oper} {I : World → Prop}

theorem Yld.buildArr {T e : TypeId} {N sz : Nat} {parts : Array (Nat × Operand)} {vs : List (Nat × Value)} {z : Value} {cs : Array Value} (hu : P.underlying T = some (.array N e)) (hs : (P.info? e).map (·.size) = some sz) (hz : (P.info? T).bind (·.zero) = some z) (ho : o.op = .build T parts) (hv : evp L parts.toList = some vs) (hf : Instr.fill (fun i => some (i * sz, sz)) z.cells vs = some cs) : Yld P o n L I (.agg cs) :=
  fun a w hE _ => by
    have hm : (parts.map fun (x : Nat × Operand) => match x with | (i, x) => (i, a.eval x)).toList = vs := by
      rw [Array.toList_map]
      exact evp_map hE hv
    cases hq : P.info? T with
    | none => simp [hq] at hz
    | some i =>
      have hz' : i.zero = some z := by simpa [hq] using hz
      cases hq2 : P.info? e with
      | none => simp [hq2] at hs
      | some j =>
        have hj : j.size = sz := by simpa [hq2] using hs
        have : (Instr.build T (parts.map fun (x : Nat × Operand) => match x with | (i, x) => (i, a.eval x))).run P w = .ok (.agg cs) w := by
          simp only [Instr.build, zeroValue, typeInfo, sizeOf, Sem.run_bind, run_program, Result.andThen_ok, hq, hz', Sem.run_pure, run_underlying hu, hq2, hj, hm, hf]
        simp only [execOp, ho, Sem.run_bind, this, Result.andThen_ok, Sem.run_pure]

theorem Yld.strAdd {T T2 : TypeId} {x y : Operand} {s t : ByteArray} (ho : o.op = .binOp .add T x y T2) (hx : ev L x = some (.string s)) (hy : ev L y = some (.string t)) (hl : s.size + t.size ≤ 9223372036854775807) : Yld P o n L I (.string (s ++ t)) :=
  fun a w hE _ => by
    simp only [execOp, ho, hE.eval hx, hE.eval hy]
    simp [eqGuard, binOp, Op.stringOp]
    omega
end
end Go.Proofs.YtamobccbioafmaaDoor

/-
  More rules: copies of bytes into blocks, slices of zeros, resources that are only read from now on, remainders of slices.
-/
namespace Go.Proofs.YtamobccbioafmaaDoor
open Go
section
variable {P : Program} {Q : Exit → Act → World → Prop} {n : Nat} {w0 : World} {S : List Nat} {o : Oper} {L : List (Nat × Value)} {H : List Res} {M : List (Nat × Value) → List Res → Prop} {I : World → Prop}

/-- a slice's first bytes -/
theorem Bytes.first {w : World} {u : Value} {bs : List UInt8} (h : Bytes w u bs) (m : Nat) (hm : m ≤ bs.length) : (Builtin.firstCells 1 m u).run P w = .ok (bytesV (bs.take m)).toArray w := by
  rcases h with ⟨p, c, rfl, rfl⟩ | ⟨b, off, c, rfl, hc⟩
  · have hm0 : m = 0 := by simpa using hm
    subst hm0
    cases p with
    | none => exact run_firstCells_none w 1 0 0 c
    | some a => exact run_firstCells_some w 1 0 a 0 c [] (by simp) (fun j v hj => by simp at hj)
  · refine run_firstCells_some w 1 m ⟨b, off, none⟩ bs.length c _ (by rw [bytesV_len, List.length_take]; omega) fun j v hj => ?_
    rw [addr_add]
    refine hc.cell j v ?_
    simp only [bytesV, List.getElem?_map, List.getElem?_take] at hj ⊢
    split at hj
    · exact hj
    · simp at hj

/-- copy of bytes into a block -/
theorem OpJ.copyB {t T2 e2 T T' : TypeId} {d i b off l c : Nat} {x y : Operand} {u : Value} {bs : List UInt8} {cs : Array Value} (ho : o.op = .call ⟨.builtin .copy, #[x, y], #[t, T2]⟩) (hd : o.dst = some d) (hn : d.blt n = true) (hu : P.underlying t = some (.slice T)) (_hu2 : P.underlying T2 = some (.slice e2)) (hz : (P.info? T).map (·.size) = some 1)
    (hx : ev L x = some (.slice (some ⟨b, off, none⟩) l c)) (hy : ev L y = some u) (hi : H[i]? = some (.blk b cs T')) (hsrc : ∀ w, Inv w0 S H w → Bytes w u bs) (hl : off + l ≤ cs.size)
    (h : M ((d, .int .i64 (bs.take l).length) :: L) (H.set i (.blk b (setCs cs off (bytesV (bs.take l))) T'))) : OpJ P Q n w0 S o L H M :=
  OpJ.val hd hn fun a w hE hI => by
    have hb : w.heap[b]? = some (.cells cs T' (0, 0)) := hI.hs _ (List.mem_of_getElem? hi)
    have hby := hsrc w hI
    obtain ⟨p, cc, hsh⟩ := hby.shape
    have hlen : (bs.take l).length = Nat.min bs.length l := by
      simp only [List.length_take]
      rw [Nat.min_comm]
    have hst := run_storeCells_at P b off T' (bytesV (bs.take l)) 0 cs w hb (by rw [bytesV_len, List.length_take]; have := Nat.min_le_left l bs.length; simp only [Nat.add_zero]; omega) (bytesV_one _)
    refine ⟨_, _, _, ?_, hI.setRow hi (setCs cs off (bytesV (bs.take l))), h⟩
    cases hq : P.info? T with
    | none => simp [hq] at hz
    | some ti =>
      have ht : ti.size = 1 := by simpa [hq] using hz
      have hfc0 := Bytes.first (P := P) hby (Nat.min bs.length l) (Nat.min_le_left _ _)
      have htk : bs.take (Nat.min bs.length l) = bs.take l := by
        apply List.take_eq_take_iff.2
        simp only [Nat.min_def]
        repeat (first | rfl | omega | split)
      rw [htk] at hfc0
      simp only [Nat.add_zero] at hst
      have hfin : setCs cs off (bytesV (bs.take l)) = (cs.toList.take off ++ bytesV (bs.take l) ++ cs.toList.drop (off + (bytesV (bs.take l)).length)).toArray := rfl
      subst hsh
      simp [execOp, ho, resolve, invoke, Go.builtin, hE.eval hx, hE.eval hy, Builtin.copy_, run_underlying hu, Builtin.lenOf, sizeOf, typeInfo, hq, ht, hfc0, hst, hfin, goInt, hlen]

/-- the same, with the block behind it told -/
theorem OpJ.copyB' {t T2 e2 T T' : TypeId} {d i b off l c : Nat} {x y : Operand} {u : Value} {bs : List UInt8} {cs cs' : Array Value} (ho : o.op = .call ⟨.builtin .copy, #[x, y], #[t, T2]⟩) (hd : o.dst = some d) (hn : d.blt n = true) (hu : P.underlying t = some (.slice T)) (hu2 : P.underlying T2 = some (.slice e2)) (hz : (P.info? T).map (·.size) = some 1)
    (hx : ev L x = some (.slice (some ⟨b, off, none⟩) l c)) (hy : ev L y = some u) (hi : H[i]? = some (.blk b cs T')) (hsrc : ∀ w, Inv w0 S H w → Bytes w u bs) (hl : off + l ≤ cs.size) (hcs : setCs cs off (bytesV (bs.take l)) = cs')
    (h : M ((d, .int .i64 (bs.take l).length) :: L) (H.set i (.blk b cs' T'))) : OpJ P Q n w0 S o L H M :=
  OpJ.copyB ho hd hn hu hu2 hz hx hy hi hsrc hl (hcs ▸ h)

/-- make([]byte, c): zeros -/
theorem OpJ.makeZ {t T : TypeId} {d c : Nat} {x y : Operand} {k1 k2 : IntKind} (he : Elt P t T 1 1 (.int .u8 0)) (ho : o.op = .makeSlice t x y) (hd : o.dst = some d) (hn : d.blt n = true) (hx : ev L x = some (.int k1 c)) (hy : ev L y = some (.int k2 c)) (hc : c ≤ 140737488355328)
    (h : ∀ b, w0.heap.size ≤ b → M ((d, .slice (some ⟨b, 0, none⟩) c c) :: L) (.blk b (bytesV (List.replicate c 0)).toArray T :: H)) : OpJ P Q n w0 S o L H M :=
  OpJ.val hd hn fun a w hE hI => by
    obtain ⟨i, hi, hz, hzs, hsize, hbytes⟩ := he.info
    have hr := Go.run_make (P := P) w t T i (.int .u8 0) he.und hi hz k1 k2 c c (by omega) (Int.le_refl _) (by rw [hbytes]; omega) (by omega)
    simp only [Int.toNat_natCast] at hr
    have hm : madeCells (Value.cells (.int .u8 0)) (c * i.size) = (bytesV (List.replicate c 0)).toArray := by
      apply Array.ext'
      rw [hsize, Nat.mul_one]
      simp only [madeCells, bytesV, Array.toList_map, List.map_replicate, Array.toList_range]
      apply List.ext_getElem
      · simp
      · intro j h1 h2
        simp [Value.cells, Nat.mod_one]
    rw [hm] at hr
    refine ⟨_, _, _, ?_, hI.new (w.alloc (.cells (bytesV (List.replicate c 0)).toArray T)) _ rfl rfl rfl rfl (.blk w.heap.size (bytesV (List.replicate c 0)).toArray T) (heap_alloc_new w _) (by simp [Res.ats]), h w.heap.size hI.keep.size⟩
    simp [execOp, ho, hE.eval hx, hE.eval hy, hr]

/-- a resource that is only read from now on -/
def Res.seal (r : Res) : Res := .ro (fun w => r.holds w) r.ats fun _ _ h hp => Res.congr hp h
theorem Inv.seal {w : World} {r : Res} (h : Inv w0 S (r :: H) w) : Inv w0 S (Res.seal r :: H) w := by
  have hp := List.pairwise_cons.1 h.dj
  refine ⟨h.keep, ?_, ?_, ?_⟩
  · intro x hx
    rcases List.mem_cons.1 hx with rfl | hx
    · exact ⟨h.hs r (by simp), fun b hb => h.lt r (by simp) b hb⟩
    · exact h.hs x (by simp [hx])
  · exact List.pairwise_cons.2 ⟨fun x hx b hb => hp.1 x hx b hb, hp.2⟩
  · intro x hx b hb
    rcases List.mem_cons.1 hx with rfl | hx
    · exact h.rng r (by simp) b hb
    · exact h.rng x (by simp [hx]) b hb

/-- s[:] -/
theorem Yld.sliceSlAll {T e : TypeId} {x : Operand} {p : Option Addr} {l c : Nat} (ho : o.op = .slice T x none none none) (hu : P.underlying T = some (.slice e)) (hz : (P.info? e).map (·.size) = some 1) (hx : ev L x = some (.slice p l c)) :
    Yld P o n L I (.slice (if c = 0 then p else p.map (·.add 0)) l c) :=
  fun a w hE _ => by
    cases hq : P.info? e with
    | none => simp [hq] at hz
    | some t =>
      simp [execOp, ho, hE.eval hx, Instr.sliceAt, Instr.slice, run_underlying hu, Instr.sliceBounds, sizeOf, typeInfo, hq]
theorem Bytes.all {w : World} {p : Option Addr} {l c : Nat} {bs : List UInt8} (h : Bytes w (.slice p l c) bs) : Bytes w (.slice (if c = 0 then p else p.map (·.add 0)) l c) bs := by
  rcases h with ⟨p', c', hv, rfl⟩ | ⟨b, off, c', hv, hc⟩
  · simp only [Value.slice.injEq] at hv
    obtain ⟨_, rfl, _⟩ := hv
    exact .inl ⟨_, _, rfl, rfl⟩
  · simp only [Value.slice.injEq] at hv
    obtain ⟨rfl, rfl, _⟩ := hv
    refine .inr ⟨b, off, c, ?_, hc⟩
    split
    · rfl
    · simp [addr_add]
/-- s[k:k] -/
theorem Yld.sliceSl0 {T e : TypeId} {x y z : Operand} {b off l c lo : Nat} {k1 k2 : IntKind} (ho : o.op = .slice T x (some y) (some z) none) (hu : P.underlying T = some (.slice e)) (hz : (P.info? e).map (·.size) = some 1) (hx : ev L x = some (.slice (some ⟨b, off, none⟩) l c)) (hy : ev L y = some (.int k1 lo)) (hh : ev L z = some (.int k2 lo)) (h2 : lo ≤ c) :
    Yld P o n L I (.slice (some ⟨b, if c = lo then off else off + lo, none⟩) 0 (c - lo)) :=
  fun a w hE _ => by
    cases hq : P.info? e with
    | none => simp [hq] at hz
    | some t =>
      have ht : t.size = 1 := by simpa [hq] using hz
      by_cases hne : c = lo
      · subst hne
        simp [execOp, ho, hE.eval hx, hE.eval hy, hE.eval hh, Instr.sliceAt, Instr.slice, run_underlying hu, Instr.sliceBounds, Instr.sliceBound, asIntOf, sizeOf, typeInfo, hq, addr_add]
      · simp [execOp, ho, hE.eval hx, hE.eval hy, hE.eval hh, Instr.sliceAt, Instr.slice, run_underlying hu, Instr.sliceBounds, Instr.sliceBound, asIntOf, h2, sizeOf, typeInfo, hq, ht, hne, addr_add]
end
end Go.Proofs.YtamobccbioafmaaDoor
