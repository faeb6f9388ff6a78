/-
  The program logic that the proofs of this claim use: what is known of a frame's slots (a list), what is known of memory (a list of blocks that the call may write), and rules for the model's operations.
-/
import Derived.WalkKit
import Derived.OrdersHeld
import Derived.Deep.AppendSrc
import Derived.Deep.DeepAppendWide
namespace Go.Proofs.YtdiememgbnplkaaDoor
open Go

/-! ### slots -/
def ev (L : List (Nat × Value)) : Operand → Option Value
  | .tmp t => L.lookup t
  | .const v => some v
  | .global g => some (.pointer (some ⟨g, 0, none⟩))
  | .func f => some (.func (.func f) #[] #[])

/-- what is known of a frame -/
structure E (n : Nat) (a : Act) (L : List (Nat × Value)) : Prop where
  defers : a.defers = []
  size : a.tmps.size = n
  at_ : ∀ s v, L.lookup s = some v → a.tmps[s]? = some v

theorem E.eval {n a L x v} (h : E n a L) (hv : ev L x = some v) : a.eval x = v := by
  cases x with
  | tmp t =>
    have := h.at_ t v hv
    simp [Act.eval, this]
  | const c => simpa [ev, Act.eval] using hv
  | global g => simpa [ev, Act.eval] using hv
  | func f => simpa [ev, Act.eval] using hv

theorem E.put {n a L v} {d : Nat} (h : E n a L) (hd : d.blt n = true) : E n (a.put (some d) v) ((d, v) :: L) := by
  have hd' : d < n := Nat.blt_eq.mp hd
  refine ⟨h.defers, by simp [Act.put, h.size], fun s u hs => ?_⟩
  simp only [Act.put, Array.getElem?_setIfInBounds]
  by_cases e : s = d
  · subst e
    simp [List.lookup] at hs
    subst hs
    simp [h.size, hd']
  · have : (s == d) = false := by simpa using e
    simp [List.lookup, this] at hs
    rw [if_neg (fun h => e h.symm)]
    exact h.at_ s u hs

theorem E.none {n a L v} (h : E n a L) : E n (a.put none v) L := h

/-- the slots of L' are among those of L -/
def Sub (L : List (Nat × Value)) : List (Nat × Value) → Prop
  | [] => True
  | (s, v) :: r => L.lookup s = some v ∧ Sub L r

theorem Sub.get {L : List (Nat × Value)} : ∀ {L' : List (Nat × Value)} {s v}, Sub L L' → L'.lookup s = some v → L.lookup s = some v
  | [], s, v, _, h => by simp [List.lookup] at h
  | (t, u) :: r, s, v, h, hl => by
    by_cases e : s = t
    · subst e
      simp [List.lookup] at hl
      subst hl
      exact h.1
    · have : (s == t) = false := by simpa using e
      simp [List.lookup, this] at hl
      exact Sub.get h.2 hl

theorem E.sub {n a L L'} (h : E n a L) (hs : Sub L L') : E n a L' := ⟨h.defers, h.size, fun s v hl => h.at_ s v (hs.get hl)⟩

/-! ### memory -/
/-- below w's size, w' is as w but for the blocks of S -/
structure Keep (S : List Nat) (w w' : World) : Prop where
  os : w'.os = w.os
  tape : w'.tape = w.tape
  output : w'.output = w.output
  size : w.heap.size ≤ w'.heap.size
  block : ∀ b, b < w.heap.size → b ∉ S → w'.heap[b]? = w.heap[b]?

theorem Keep.refl (S : List Nat) (w : World) : Keep S w w := ⟨rfl, rfl, rfl, Nat.le_refl _, fun _ _ _ => rfl⟩

theorem Keep.drew {S : List Nat} {w w' : World} (h : Keep S w w') : Keep S w w'.drew := ⟨h.os, h.tape, h.output, h.size, h.block⟩

theorem Keep.below {w w' : World} (h : Keep [] w w') : RowKit.Below w.heap.size w w' := ⟨h.os, h.tape, h.output, h.size, fun b hb => h.block b hb (by simp)⟩

/-- A slice that owns its row: nil, or at the head of a block that is not frozen; xs: the cells of its n elements of sz cells. -/
def Own (w : World) (T : TypeId) (sz : Nat) (v : Value) (n : Nat) (xs : List Value) : Prop :=
  (v = .slice none 0 0 ∧ n = 0 ∧ xs = []) ∨
  ∃ b cap c, v = .slice (some ⟨b, 0, none⟩) n cap ∧ w.heap[b]? = some (.cells c T (0, 0)) ∧ n ≤ cap ∧ c.size = cap * sz ∧ xs.length = n * sz ∧ xs = c.toList.take (n * sz)

def blkOf : Value → List Nat
  | .slice (some a) _ _ => [a.block]
  | _ => []

inductive Res where
  | blk (b : Nat) (cs : Array Value) (T : TypeId)
  | sl (T : TypeId) (sz : Nat) (v : Value) (n : Nat) (xs : List Value) (v' : Value) (n' : Nat) (xs' : List Value)
  | mp (r : Option Nat) (kvs : List (Value × Value))
  | ro (p : World → Prop) (bs : List Nat) (h : ∀ w w' : World, (∀ b ∈ bs, w'.heap[b]? = w.heap[b]?) → p w → p w')

/-- a slice alone -/
def own (T : TypeId) (sz : Nat) (v : Value) (n : Nat) (xs : List Value) : Res := .sl T sz v n xs v n xs

def Res.ats : Res → List Nat
  | .blk b _ _ => [b]
  | .sl _ _ v _ _ v' _ _ => blkOf v ++ blkOf v'
  | .mp r _ => r.toList
  | .ro _ bs _ => bs

def Res.holds (w : World) : Res → Prop
  | .blk b cs T => w.heap[b]? = some (.cells cs T (0, 0))
  | .sl T sz v n xs v' n' xs' => Own w T sz v n xs ∧ Own w T sz v' n' xs' ∧ n ≤ n'
  | .mp (some b) kvs => ∃ es clock, w.heap[b]? = some (.map es clock) ∧ es.toList.map (fun e => (e.key, e.val)) = kvs
  | .mp none kvs => kvs = []
  | .ro p bs _ => p w ∧ ∀ b ∈ bs, b < w.heap.size

theorem Own.lt {w T sz v n xs} (h : Own w T sz v n xs) : ∀ b ∈ blkOf v, b < w.heap.size := by
  rcases h with ⟨rfl, _, _⟩ | ⟨b, cap, c, rfl, hb, _⟩
  · simp [blkOf]
  · intro b' hb'
    simp [blkOf] at hb'
    subst hb'
    exact (Array.getElem?_eq_some_iff.1 hb).1

theorem Own.congr {w w' : World} {T sz v n xs} (h : Own w T sz v n xs) (hb : ∀ b ∈ blkOf v, w'.heap[b]? = w.heap[b]?) : Own w' T sz v n xs := by
  rcases h with h | ⟨b, cap, c, rfl, h, r⟩
  · exact .inl h
  · exact .inr ⟨b, cap, c, rfl, (hb b (by simp [blkOf])).trans h, r⟩

theorem Res.lt {w : World} {r : Res} (h : r.holds w) : ∀ b ∈ r.ats, b < w.heap.size := by
  cases r with
  | blk b cs T =>
    intro b' hb'
    simp [Res.ats] at hb'
    subst hb'
    exact (Array.getElem?_eq_some_iff.1 h).1
  | sl T sz v n xs v' n' xs' =>
    intro b hb
    simp [Res.ats] at hb
    rcases hb with hb | hb
    · exact h.1.lt b hb
    · exact h.2.1.lt b hb
  | mp r kvs =>
    cases r with
    | none => intro b hb; simp [Res.ats] at hb
    | some b =>
      obtain ⟨es, clock, hb, _⟩ := h
      intro b' hb'
      simp [Res.ats] at hb'
      subst hb'
      exact (Array.getElem?_eq_some_iff.1 hb).1
  | ro p bs hp => exact h.2

theorem Res.congr {w w' : World} {r : Res} (h : r.holds w) (hb : ∀ b ∈ r.ats, w'.heap[b]? = w.heap[b]?) : r.holds w' := by
  cases r with
  | blk b cs T => exact (hb b (by simp [Res.ats])).trans h
  | sl T sz v n xs v' n' xs' =>
    exact ⟨h.1.congr fun b h' => hb b (by simp [Res.ats, h']), h.2.1.congr fun b h' => hb b (by simp [Res.ats, h']), h.2.2⟩
  | mp r kvs =>
    cases r with
    | none => exact h
    | some b =>
      obtain ⟨es, clock, h, hk⟩ := h
      exact ⟨es, clock, (hb b (by simp [Res.ats])).trans h, hk⟩
  | ro p bs hp =>
    refine ⟨hp w w' hb h.1, fun b hb' => ?_⟩
    have h1 := h.2 b hb'
    have h2 : w'.heap[b]? = some w.heap[b] := (hb b hb').trans (Array.getElem?_eq_getElem h1)
    exact (Array.getElem?_eq_some_iff.1 h2).1

def Apart (r s : Res) : Prop := ∀ b ∈ r.ats, b ∉ s.ats

theorem Apart.symm {r s : Res} (h : Apart r s) : Apart s r := fun b hb hb' => h b hb' hb

/-- what is known of memory: since w0 only the blocks of S, and new ones, have turned; the resources of H are there, no two of them share a block -/
structure Inv (w0 : World) (S : List Nat) (H : List Res) (w : World) : Prop where
  keep : Keep S w0 w
  hs : ∀ r ∈ H, r.holds w
  dj : H.Pairwise Apart
  rng : ∀ r ∈ H, ∀ b ∈ r.ats, b ∈ S ∨ w0.heap.size ≤ b

def fp (H : List Res) : List Nat := H.flatMap Res.ats

/-- a call begins -/
structure Pre (H : List Res) (w : World) : Prop where
  hs : ∀ r ∈ H, r.holds w
  dj : H.Pairwise Apart

theorem Pre.nil (w : World) : Pre [] w := ⟨fun _ h => (by cases h), .nil⟩

theorem Pre.inv {H w} (h : Pre H w) : Inv w (fp H) H w :=
  ⟨Keep.refl _ _, h.hs, h.dj, fun r hr _ hb => .inl (List.mem_flatMap.2 ⟨r, hr, hb⟩)⟩

theorem Inv.lt {w0 S H w} (h : Inv w0 S H w) : ∀ r ∈ H, ∀ b ∈ r.ats, b < w.heap.size := fun r hr => Res.lt (h.hs r hr)

/-- a new block -/
theorem Inv.new {w0 S H w} (h : Inv w0 S H w) (w' : World) (o : Obj) (hh : w'.heap = w.heap.push o) (ho : w'.os = w.os) (ht : w'.tape = w.tape) (hu : w'.output = w.output)
    (r : Res) (hr : r.holds w') (ha : ∀ b ∈ r.ats, b = w.heap.size) : Inv w0 S (r :: H) w' := by
  have same : ∀ b, b < w.heap.size → w'.heap[b]? = w.heap[b]? := fun b hb => by
    rw [hh, Array.getElem?_push, if_neg (by omega)]
  refine ⟨⟨ho.trans h.keep.os, ht.trans h.keep.tape, hu.trans h.keep.output, ?_, ?_⟩, ?_, ?_, ?_⟩
  · have := h.keep.size; simp [hh]; omega
  · intro b hb hS
    have hk := h.keep.size
    rw [same b (by omega)]
    exact h.keep.block b hb hS
  · intro s hs
    rcases List.mem_cons.1 hs with rfl | hs
    · exact hr
    · exact Res.congr (h.hs s hs) fun b hb => same b (h.lt s hs b hb)
  · refine List.pairwise_cons.2 ⟨fun s hs b hb hb' => ?_, h.dj⟩
    have h1 := ha b hb
    have h2 := h.lt s hs b hb'
    omega
  · intro s hs b hb
    rcases List.mem_cons.1 hs with rfl | hs
    · right
      have := h.keep.size
      have := ha b hb
      omega
    · exact h.rng s hs b hb

/-- a world that differs in nothing but the count of draws -/
theorem Inv.drew {w0 S H w} (h : Inv w0 S H w) : Inv w0 S H w.drew :=
  ⟨h.keep.drew, fun r hr => Res.congr (h.hs r hr) fun _ _ => rfl, h.dj, h.rng⟩

/-- one resource is turned, in its own blocks and new ones -/
theorem Inv.turn {w0 S H w} (h : Inv w0 S H w) {i : Nat} {r r' : Res} (hi : H[i]? = some r) (w' : World)
    (ho : w'.os = w.os) (ht : w'.tape = w.tape) (hu : w'.output = w.output) (hz : w.heap.size ≤ w'.heap.size)
    (same : ∀ b, b < w.heap.size → b ∉ r.ats → w'.heap[b]? = w.heap[b]?) (hr : r'.holds w') (ha : ∀ b ∈ r'.ats, b ∈ r.ats ∨ w.heap.size ≤ b) : Inv w0 S (H.set i r') w' := by
  have hmem : r ∈ H := List.mem_of_getElem? hi
  have hk := h.keep.size
  have hlt : i < H.length := (List.getElem?_eq_some_iff.1 hi).1
  have hget : H[i] = r := (List.getElem?_eq_some_iff.1 hi).2
  have apart : ∀ j, j ≠ i → ∀ s, H[j]? = some s → Apart r s := fun j hj s hs => by
    have hjl : j < H.length := (List.getElem?_eq_some_iff.1 hs).1
    have hsg : H[j] = s := (List.getElem?_eq_some_iff.1 hs).2
    have pw := List.pairwise_iff_getElem.1 h.dj
    rcases Nat.lt_or_ge j i with hji | hji
    · have := pw j i hjl hlt hji
      rw [hget, hsg] at this
      exact this.symm
    · have := pw i j hlt hjl (by omega)
      rw [hget, hsg] at this
      exact this
  refine ⟨⟨ho.trans h.keep.os, ht.trans h.keep.tape, hu.trans h.keep.output, by omega, ?_⟩, ?_, ?_, ?_⟩
  · intro b hb hS
    rw [same b (by omega) ?_]
    · exact h.keep.block b hb hS
    · intro hb'
      rcases h.rng r hmem b hb' with h1 | h1
      · exact hS h1
      · omega
  · intro s hs
    obtain ⟨j, hj⟩ := List.getElem?_of_mem hs
    rw [List.getElem?_set] at hj
    by_cases hne : i = j
    · rw [if_pos hne, if_pos hlt] at hj
      simp at hj; subst hj; exact hr
    · rw [if_neg hne] at hj
      have hs' : s ∈ H := List.mem_of_getElem? hj
      exact Res.congr (h.hs s hs') fun b hb => same b (h.lt s hs' b hb) fun hb' => apart j (fun e => hne e.symm) s hj b hb' hb
  · refine List.pairwise_iff_getElem.2 fun x y hx hy hxy => ?_
    simp only [List.length_set] at hx hy
    simp only [List.getElem_set]
    have pw := List.pairwise_iff_getElem.1 h.dj
    have key : ∀ j (hj : j < H.length), j ≠ i → Apart r' H[j] := fun j hj hji b hb hb' => by
      rcases ha b hb with h1 | h1
      · exact apart j hji H[j] (List.getElem?_eq_getElem hj) b h1 hb'
      · have := h.lt H[j] (List.getElem_mem hj) b hb'
        omega
    split
    · rw [if_neg (by omega)]
      exact key y hy (by omega)
    · split
      · exact (key x hx (by omega)).symm
      · exact pw x y hx hy hxy
  · intro s hs b hb
    obtain ⟨j, hj⟩ := List.getElem?_of_mem hs
    rw [List.getElem?_set] at hj
    by_cases hne : i = j
    · rw [if_pos hne, if_pos hlt] at hj
      simp at hj; subst hj
      rcases ha b hb with h1 | h1
      · exact h.rng r hmem b h1
      · right; omega
    · rw [if_neg hne] at hj
      exact h.rng s (List.mem_of_getElem? hj) b hb

/-- choose resources by their places -/
def pick (H : List Res) : List Nat → Option (List Res)
  | [] => some []
  | i :: is => match H[i]?, pick H is with
    | some r, some rs => some (r :: rs)
    | _, _ => none

theorem pick_mem {H : List Res} : ∀ {is : List Nat} {H' : List Res}, pick H is = some H' → ∀ r ∈ H', ∃ i ∈ is, H[i]? = some r
  | [], H', h, r, hr => by simp [pick] at h; subst h; cases hr
  | i :: is, H', h, r, hr => by
    simp only [pick] at h
    split at h
    · rename_i r0 rs h0 hrs
      simp at h
      subst h
      rcases List.mem_cons.1 hr with rfl | hr
      · exact ⟨i, by simp, h0⟩
      · obtain ⟨j, hj, hj'⟩ := pick_mem hrs r hr
        exact ⟨j, by simp [hj], hj'⟩
    · cases h

theorem pick_pw {H : List Res} (hd : H.Pairwise Apart) : ∀ {is : List Nat} {H' : List Res}, is.Nodup → pick H is = some H' → H'.Pairwise Apart
  | [], H', _, h => by simp [pick] at h; subst h; exact .nil
  | i :: is, H', hn, h => by
    simp only [pick] at h
    split at h
    · rename_i r0 rs h0 hrs
      simp at h
      subst h
      have hn' := List.nodup_cons.1 hn
      refine List.pairwise_cons.2 ⟨fun s hs => ?_, pick_pw hd hn'.2 hrs⟩
      obtain ⟨j, hj, hj'⟩ := pick_mem hrs s hs
      have hji : j ≠ i := fun e => hn'.1 (e ▸ hj)
      have pw := List.pairwise_iff_getElem.1 hd
      have il := (List.getElem?_eq_some_iff.1 h0)
      have jl := (List.getElem?_eq_some_iff.1 hj')
      rcases Nat.lt_or_ge j i with h1 | h1
      · have := pw j i jl.1 il.1 h1
        rw [il.2, jl.2] at this
        exact this.symm
      · have := pw i j il.1 jl.1 (by omega)
        rw [il.2, jl.2] at this
        exact this
    · cases h

theorem Inv.pick {w0 S H w} (h : Inv w0 S H w) {is : List Nat} {H' : List Res} (hn : is.Nodup) (hp : pick H is = some H') : Inv w0 S H' w :=
  ⟨h.keep, fun r hr => let ⟨_, _, hi⟩ := pick_mem hp r hr; h.hs r (List.mem_of_getElem? hi), pick_pw h.dj hn hp,
    fun r hr => let ⟨_, _, hi⟩ := pick_mem hp r hr; h.rng r (List.mem_of_getElem? hi)⟩

/-- what a call returns -/
def Ret (w0 : World) (S : List Nat) (Post : Value → List Res → Prop) : Ending → World → Prop :=
  fun e w' => ∃ v H', e = .returned v ∧ Post v H' ∧ Inv w0 S H' w'

theorem Inv.pre {w0 S H w} (h : Inv w0 S H w) {is : List Nat} {H' : List Res} (hn : is.Nodup) (hp : Proofs.YtdiememgbnplkaaDoor.pick H is = some H') : Pre H' w :=
  ⟨(h.pick hn hp).hs, (h.pick hn hp).dj⟩

/-- the world behind a call that was handed some of the resources -/
theorem Inv.called {w0 S H w} (h : Inv w0 S H w) {is js : List Nat} {Hp Hr : List Res} (hn : (is ++ js).Nodup) (hp : Proofs.YtdiememgbnplkaaDoor.pick H is = some Hp) (hr : Proofs.YtdiememgbnplkaaDoor.pick H js = some Hr)
    {w' : World} {H' : List Res} (hc : Inv w (fp Hp) H' w') : Inv w0 S (H' ++ Hr) w' := by
  have hn1 := (List.nodup_append.1 hn)
  have hP := h.pick hn1.1 hp
  have hR := h.pick hn1.2.1 hr
  have hk := h.keep.size
  have cross : ∀ r ∈ Hr, ∀ b ∈ r.ats, b ∉ fp Hp := fun r hr' b hb hb' => by
    obtain ⟨s, hs, hbs⟩ := List.mem_flatMap.1 hb'
    obtain ⟨i, hi, hi'⟩ := pick_mem hp s hs
    obtain ⟨j, hj, hj'⟩ := pick_mem hr r hr'
    have hij : i ≠ j := fun e => hn1.2.2 i hi j hj e
    have pw := List.pairwise_iff_getElem.1 h.dj
    have il := (List.getElem?_eq_some_iff.1 hi')
    have jl := (List.getElem?_eq_some_iff.1 hj')
    rcases Nat.lt_or_ge i j with h1 | h1
    · have := pw i j il.1 jl.1 h1
      rw [il.2, jl.2] at this
      exact this b hbs hb
    · have := pw j i jl.1 il.1 (by omega)
      rw [il.2, jl.2] at this
      exact this b hb hbs
  refine ⟨⟨hc.keep.os.trans h.keep.os, hc.keep.tape.trans h.keep.tape, hc.keep.output.trans h.keep.output, Nat.le_trans hk hc.keep.size, fun b hb hS => ?_⟩, ?_, ?_, ?_⟩
  · rw [hc.keep.block b (by omega) ?_]
    · exact h.keep.block b hb hS
    · intro hb'
      obtain ⟨s, hs, hbs⟩ := List.mem_flatMap.1 hb'
      rcases hP.rng s hs b hbs with h1 | h1
      · exact hS h1
      · omega
  · intro r hr'
    rcases List.mem_append.1 hr' with h1 | h1
    · exact hc.hs r h1
    · exact Res.congr (hR.hs r h1) fun b hb => hc.keep.block b (hR.lt r h1 b hb) (cross r h1 b hb)
  · refine List.pairwise_append.2 ⟨hc.dj, hR.dj, fun r h1 s h2 b hb hb' => ?_⟩
    rcases hc.rng r h1 b hb with h3 | h3
    · exact cross s h2 b hb' h3
    · have := hR.lt s h2 b hb'
      omega
  · intro r hr' b hb
    rcases List.mem_append.1 hr' with h1 | h1
    · rcases hc.rng r h1 b hb with h3 | h3
      · obtain ⟨s, hs, hbs⟩ := List.mem_flatMap.1 h3
        exact hP.rng s hs b hbs
      · right; omega
    · exact hR.rng r h1 b hb

end Go.Proofs.YtdiememgbnplkaaDoor
