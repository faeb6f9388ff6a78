/-
  The law FnLateShort: its walk.
-/
import Derived.Test.YtijhpaejdchjgaaDoorBh
import Derived.Test.YtijhpaejdchjgaaDoorHRNS
namespace Go.Proofs.YtijhpaejdchjgaaDoor
open Go
set_option maxRecDepth 100000
set_option maxHeartbeats 1600000

/-- the steps: compression from the records on -/
def lateL (qs : List AskD) (secs : List (List RecD)) : List StepD := mkStep 2 :: (qs.map askStep ++ mkStep 1 :: secSteps 0 secs)
theorem late_short {K : Kind} {BA : BodyAt} (hg : BA.Grows) (A : Adder) (h : Hd) (qs : List AskD) (one two three : List RecD) (hn : ∀ a ∈ qs, nameOk a.name.data.toList = true) (hx : ∀ x ∈ one ++ two ++ three, RecShort K BA A x) (hl : qs.length < 60000 ∧ one.length < 60000 ∧ two.length < 60000 ∧ three.length < 60000) :
    ∃ t m' e1 e2 e3, AsksAt t 12 e1 qs ∧ RecsAt K BA t e1 e2 one ∧ RecsAt K BA t e2 e3 two ∧ RecsAt K BA t e3 (12 + t.length) three ∧ t.length ≤ 30000000000 ∧
      RunOk A (lateL qs [one, two, three]) false (newB [] h) ∧ runF A (lateL qs [one, two, three]) false (newB [] h) = (⟨zero12 ++ t, 0, 5, h.id, h.bits, qs.length, one.length, two.length, three.length, m'⟩, List.replicate (lateL qs [one, two, three]).length 0) := by
  have s0 := St.new h
  have s2 := s0.to 2 (by decide)
  obtain ⟨ys, m1, s3, aa, la, ka, ra, fa⟩ := asks_short A false (mkStep 1 :: secSteps 0 [one, two, three]) qs _ [] s2 hn rfl (by show 0 + _ ≤ _; omega) (by simp; omega)
  have s4 := s3.on
  obtain ⟨zs, m2, e2, e3, r1, r2, r3, lr, kr, rr, fr⟩ := secs_short hg A true one two three _ ([] ++ ys) s4 (by show (2 : Nat) ≤ 3; decide) ⟨rfl, rfl, rfl⟩ hx ⟨hl.2.1, hl.2.2.1, hl.2.2.2⟩ (by simp; omega)
  simp only [List.nil_append] at *
  refine ⟨ys ++ zs, m2, 12 + ys.length, e2, e3, aa.app zs, r1, r2, r3, ?_, ?_, ?_⟩
  · rw [List.length_append]; omega
  · show RunOk A (mkStep 2 :: (qs.map askStep ++ mkStep 1 :: secSteps 0 [one, two, three])) false (newB [] h)
    exact ⟨ok_mk A 2 _ _ s0.ok (Nat.le_of_ble_eq_true rfl) (by decide), ra ⟨ok_on A _ _ s3.ok, rr⟩⟩
  · show runF A (mkStep 2 :: (qs.map askStep ++ mkStep 1 :: secSteps 0 [one, two, three])) false (newB [] h) = _
    rw [runF, step_mk A 2 false _ (by decide) (by decide)]
    simp only
    rw [fa, runF, step_on]
    simp only
    rw [fr]
    refine Prod.ext ?_ ?_
    · simp [newB]
    · show 0 :: (List.replicate qs.length 0 ++ 0 :: List.replicate (secSteps 0 [one, two, three]).length 0) = List.replicate (mkStep 2 :: (qs.map askStep ++ mkStep 1 :: secSteps 0 [one, two, three])).length 0
      simp only [List.length_cons, List.length_append, List.length_map]
      rw [show qs.length + ((secSteps 0 [one, two, three]).length + 1) + 1 = 1 + (qs.length + (1 + (secSteps 0 [one, two, three]).length)) by omega]
      simp only [← List.replicate_append_replicate]
      rfl

/-- s[:hi] of a slice -/
theorem Yld.sliceTo {P : Program} {n : Nat} {L : List (Nat × Value)} {o : Oper} {I : World → Prop} {T e : TypeId} {x y : Operand} {b off l c hi sz : Nat} {k1 : IntKind} (ho : o.op = .slice T x none (some y) none) (hu : P.underlying T = some (.slice e)) (hz : (P.info? e).map (·.size) = some sz) (hx : ev L x = some (.slice (some ⟨b, off, none⟩) l c)) (hy : ev L y = some (.int k1 hi)) (h1 : hi ≤ c) (hc : 0 < c) :
    Yld P o n L I (.slice (some ⟨b, off, none⟩) hi c) :=
  fun a w hE _ => by
    cases hq : P.info? e with
    | none => simp [hq] at hz
    | some t =>
      have ht : t.size = sz := by simpa [hq] using hz
      have hne : ¬ c = 0 := by omega
      simp [execOp, ho, hE.eval hx, hE.eval hy, Instr.sliceAt, Instr.slice, run_underlying hu, Instr.sliceBounds, Instr.sliceBound, asIntOf, h1, sizeOf, typeInfo, hq, hne, addr_add]
theorem Cells.srcS {P : Program} {w : World} {tx e' : TypeId} {sz b off m c : Nat} {xs : List Value} (h : Cells w b off xs) (hl : xs.length = m * sz) (hk : P.underlying tx = some (.slice e')) (h1 : ∀ u ∈ xs, u.oneCell' = true) : Src P sz tx (.slice (some ⟨b, off, none⟩) m c) m xs w :=
  Src.ofSlice w hk ⟨b, off, none⟩ m c xs hl (fun j u hj => by rw [addr_add]; exact h.cell j u hj) h1
theorem OpJ.appendLs {α : Type} {cells : α → List Value} {P : Program} {Q : Exit → Act → World → Prop} {n : Nat} {w0 : World} {S : List Nat} {L : List (Nat × Value)} {H : List Res} {o : Oper} {M : List (Nat × Value) → List Res → Prop} {t T tx : TypeId} {sz bytes : Nat} {z : Value} {d i : Nat} {x y : Operand} {v u : Value} {xs news : List α} (he : Elt P t T sz bytes z) (ho : o.op = .call ⟨.builtin .append, #[x, y], #[t, tx]⟩) (hd : o.dst = some d) (hn : d.blt n = true)
    (hx : ev L x = some v) (hy : ev L y = some u) (hi : H[i]? = some (ownL T sz cells v xs)) (hsrc : ∀ w, Inv w0 S H w → Src P sz tx u news.length (news.map cells).flatten w) (hroom : (xs.length + news.length) * bytes ≤ 175921860444160 ∧ xs.length + news.length ≤ 9223372036854775807)
    (h : ∀ p c, M ((d, .slice p (xs ++ news).length c) :: L) (H.set i (ownL T sz cells (.slice p (xs ++ news).length c) (xs ++ news)))) : OpJ P Q n w0 S o L H M :=
  OpJ.appendOwn he ho hd hn hx hy hi hsrc hroom.1 hroom.2 fun p c => by
    have e1 : (xs ++ news).length = xs.length + news.length := by simp
    have e2 : ((xs ++ news).map cells).flatten = (xs.map cells).flatten ++ (news.map cells).flatten := by simp
    have := h p c
    unfold ownL at this
    rw [e1, e2] at this
    exact this
theorem steps_ones {w : World} {ss : List StepD} (h : ∀ s ∈ ss, RecOk w s.rec_) : ∀ u ∈ (ss.map StepD.cells).flatten, u.oneCell' = true := fun u hu => by
  obtain ⟨l, hl, hul⟩ := List.mem_flatten.1 hu
  obtain ⟨s, hs, rfl⟩ := List.mem_map.1 hl
  exact StepD.ones (h s hs) u hul
theorem secs_rec {w : World} (secs : List (List RecD)) : ∀ (i : Nat), (∀ l ∈ secs, ∀ r ∈ l, RecOk w r) → ∀ s ∈ secSteps i secs, RecOk w s.rec_ := by
  induction secs with
  | nil => intro i _ s hs; cases hs
  | cons l r ih =>
    intro i h s hs
    simp only [secSteps, List.mem_cons, List.mem_append, List.mem_map] at hs
    rcases hs with rfl | ⟨x, hx, rfl⟩ | hs
    · exact zRec_ok w
    · exact h l (by simp) x hx
    · exact ih (i + 1) (fun l' hl' => h l' (by simp [hl'])) s hs
theorem late_rec {w : World} {qs : List AskD} {secs : List (List RecD)} (h : ∀ l ∈ secs, ∀ r ∈ l, RecOk w r) : ∀ s ∈ lateL qs secs, RecOk w s.rec_ := fun s hs => by
  simp only [lateL, List.mem_append, List.mem_cons, List.mem_map] at hs
  rcases hs with rfl | ⟨x, hx, rfl⟩ | rfl | hs
  · exact zRec_ok w
  · exact zRec_ok w
  · exact zRec_ok w
  · exact secs_rec secs 0 h s hs
theorem build_step1 {o : Oper} {n : Nat} {L : List (Nat × Value)} {I : World → Prop} {parts : Array (Nat × Operand)} (ho : o.op = .build 45 parts) (hv : evp L parts.toList = some [(0, .int .i64 1)]) : Yld Tryd.prog o n L I (.agg (mkStep 1).cells.toArray) :=
  Yld.build places_45 zero_45 ho hv (by kernel_rfl)

theorem flat20 : ∀ ss : List StepD, (ss.map StepD.cells).flatten.length = ss.length * 20
  | [] => rfl
  | s :: r => by
    simp only [List.map_cons, List.flatten_cons, List.length_append, StepD.len, flat20 r, List.length_cons]
    omega
theorem Late.from_ {w : World} {T b n c : Nat} {ss : List StepD} (h : Own w T 20 (.slice (some ⟨b, 0, none⟩) n c) ss.length (ss.map StepD.cells).flatten) (hne : 1 ≤ ss.length) : Cells w b (0 + 1 * 20) ((ss.drop 1).map StepD.cells).flatten := by
  have hc := (Own.cells h _ _ _ _ rfl).2.2
  cases ss with
  | nil => simp at hne
  | cons s r =>
    refine hc.part (k := 1 * 20) ?_ ?_
    · simp only [List.map_cons, List.flatten_cons, List.drop_succ_cons, List.drop_zero]
      rw [List.drop_left' (by rfl)]
      exact List.take_length
    · simp only [List.map_cons, List.flatten_cons, List.length_append, List.drop_succ_cons, List.drop_zero, StepD.len]
      omega

theorem fnLateShort_spec (G : GEnv) (h : Hd) (hw : h.wf) (qs : List AskD) (av : Value) (hq : ∀ a ∈ qs, a.wf) (hn : qs.length * 24 ≤ 140737488351232) (one two three : List RecD) (v1 v2 v3 : Value) (h1w : ∀ r ∈ one, r.wf) (l1 : one.length * 168 ≤ 140737488351232) (h2w : ∀ r ∈ two, r.wf) (l2 : two.length * 168 ≤ 140737488351232) (h3w : ∀ r ∈ three, r.wf) (l3 : three.length * 168 ≤ 140737488351232) :
    Spec Tryd.prog 3 [.agg (hdCs h).toArray, av, v1, v2, v3] [] (fun w => GE G w [] ∧ Asks w av qs ∧ Recs w v1 one ∧ Recs w v2 two ∧ Recs w v3 three) (fun r H' => r = .bool true ∧ H' = []) := by
  refine Spec.of Tryd.func3 rfl Tryd.ntmps3 rfl fun w0 hR => ?_
  obtain ⟨hge, hask, hr1, hr2, hr3⟩ := hR
  have hrw : ∀ r ∈ one ++ two ++ three, r.wf := fun r hr => by
    rcases List.mem_append.1 hr with hr | hr
    · rcases List.mem_append.1 hr with hr | hr
      · exact h1w r hr
      · exact h2w r hr
    · exact h3w r hr
  have hfit : MsgFit ⟨h, av, qs, v1, one, v2, two, v3, three⟩ := ⟨hn, l1, l2, l3, fun r hr => (hrw r hr).pairs⟩
  have hmo : MsgOk w0 ⟨h, av, qs, v1, one, v2, two, v3, three⟩ := ⟨hask, hr1, hr2, hr3⟩
  have hst := stable_NS
  have hone : ∀ r : RecD, r.kind = ((2 : Nat) : Int) → RecFit r → (hostK 2).One 2 r := fun r hr hf => one_NS r hr hf
  obtain ⟨p1, c1, e1⟩ := hmo.one.1.shape
  obtain ⟨p2, c2, e2⟩ := hmo.two.1.shape
  obtain ⟨p3, c3, e3⟩ := hmo.three.1.shape
  simp only at e1 e2 e3
  subst e1 e2 e3
  have hro : ∀ r ∈ one ++ two ++ three, RecOk w0 r := fun r hr => by
    rcases List.mem_append.1 hr with hr | hr
    · rcases List.mem_append.1 hr with hr | hr
      · exact hmo.one.2 r hr
      · exact hmo.two.2 r hr
    · exact hmo.three.2 r hr
  obtain ⟨pq, cq, eq_⟩ := hask.shape
  subst eq_
  refine CodeJ.seq ?_
  refine CodeJ.region ?_
  refine OpsJ.op rfl ?_
  refine OpJ.box rfl rfl rfl rfl fun hd hhd => ?_
  refine OpsJ.yld rfl rfl rfl (Yld.assign rfl rfl) ?_
  refine OpsJ.nil ?_
  refine ExJ.thenN ?_
  refine CodeJ.seq ?_
  refine CodeJ.region ?_
  refine OpsJ.yld rfl rfl rfl (Yld.loadN (vs := hdCs h) rfl Tryd.underlying24 rfl sz_24 rfl (fun w hI => Inv.whole hI (i := 0) rfl)) ?_
  refine OpsJ.yld rfl rfl rfl (Yld.move rfl rfl) ?_
  refine OpsJ.yld rfl rfl rfl (Yld.move rfl rfl) ?_
  refine OpsJ.yld rfl rfl rfl (Yld.move rfl rfl) ?_
  refine OpsJ.yld rfl rfl rfl (Yld.move rfl rfl) ?_
  refine OpsJ.op rfl ?_
  refine OpJ.call (message_spec ((2 : Nat) : Int) ⟨h, .slice pq qs.length cq, qs, .slice p1 one.length c1, one, .slice p2 two.length c2, two, .slice p3 three.length c3, three⟩ hfit) has_12 rfl rfl rfl rfl rfl [] [0] (by decide) rfl rfl (fun w hI => hmo.keep0 hI.keep) ?_
  rintro _ _ ⟨m', q, bs, hq', rfl, hof, hmem, rfl⟩
  have hfrom := hof.from_
  have hmok : ∀ w, Keep [] w0 w → q w → MsgOk w m' := fun w hk hw => (hmem w hw).ok hof fun r hr => (hro r hr).keep0 hk
  have hnames : ∀ r' ∈ m'.one ++ m'.two ++ m'.three, r'.name.size ≤ 140737488355328 ∧ r'.host.size ≤ 140737488355328 ∧ r'.box.size ≤ 140737488355328 ∧ r'.typ < 65536 := fun r' hr' => by
    obtain ⟨r, hr, pv, rfl⟩ := hfrom r' hr'
    have := hrw r hr
    exact ⟨Nat.le_trans this.name (Nat.le_of_ble_eq_true rfl), Nat.le_trans this.host (Nat.le_of_ble_eq_true rfl), Nat.le_trans this.box (Nat.le_of_ble_eq_true rfl), this.typ⟩
  have hasks : ∀ a ∈ m'.asks, a.name.size ≤ 140737488355328 := fun a ha => by
    have e : m'.asks = qs := hof.asks
    rw [e] at ha
    exact Nat.le_trans (hq a ha).2.2 (Nat.le_of_ble_eq_true rfl)
  have hlens : m'.asks.length + m'.one.length + m'.two.length + m'.three.length ≤ 17592186044416 := by
    have e1 : m'.asks = qs := hof.asks
    have e2 : m'.one.length = one.length := hof.one.len
    have e3 : m'.two.length = two.length := hof.two.len
    have e4 : m'.three.length = three.length := hof.three.len
    have a1 : qs.length * 24 ≤ 140737488351232 := hfit.asks
    have a2 : one.length * 168 ≤ 140737488351232 := hfit.one
    have a3 : two.length * 168 ≤ 140737488351232 := hfit.two
    have a4 : three.length * 168 ≤ 140737488351232 := hfit.three
    rw [e1, e2, e3, e4]
    omega
  have hones : ∀ r' ∈ m'.one ++ m'.two ++ m'.three, (hostK 2).One 2 r' := fun r' hr' => by
    obtain ⟨r, hr, pv, rfl⟩ := hfrom r' hr'
    exact hone _ rfl (specRec_fit (hrw r hr).fit _ _)
  refine OpsJ.op rfl ?_
  refine OpJ.alloc rfl rfl rfl zero_31 fun mb hmb => ?_
  refine OpsJ.op rfl ?_
  refine OpJ.storeW (i := 0) rfl rfl rfl rfl sz_31 rfl hof.ones rfl ?_
  refine OpsJ.nil ?_
  refine ExJ.thenN ?_
  refine CodeJ.seq ?_
  refine CodeJ.seq ?_
  refine CodeJ.region ?_
  refine OpsJ.yld rfl rfl rfl (Yld.loadN (vs := m'.cells) rfl Tryd.underlying31 rfl sz_31 rfl (fun w hI => Inv.whole hI (i := 0) rfl)) ?_
  refine OpsJ.op rfl ?_
  refine OpJ.call (ok_spec (hostK 2) m' (Kind.meets_of hones) hasks (fun r hr => (hnames r hr).1) hlens) has_13 rfl rfl rfl rfl rfl [] [0, 1, 2] (by decide) rfl rfl (fun w hI => hmok w hI.keep (hI.roGet (i := 1) rfl)) ?_
  rintro _ _ ⟨rfl, rfl⟩
  refine OpsJ.yld rfl rfl rfl (Yld.not rfl rfl) ?_
  refine OpsJ.yld rfl rfl rfl (Yld.move rfl rfl) ?_
  refine OpsJ.splitB (s := 25) rfl (fun g25 => ?_) (fun g25 => ?_)
  · refine OpsJ.opF rfl rfl rfl rfl rfl rfl ?_
    refine OpsJ.opF rfl rfl rfl rfl rfl rfl ?_
    refine OpsJ.opF rfl rfl rfl rfl rfl rfl ?_
    refine OpsJ.yld rfl rfl rfl (Yld.pickT rfl rfl rfl) ?_
    refine OpsJ.nil ?_
    refine ExJ.thenN ?_
    refine CodeJ.condT rfl ?_
    refine CodeJ.seq ?_
    refine CodeJ.region ?_
    refine OpsJ.yld rfl rfl rfl (Yld.assign rfl rfl) ?_
    refine OpsJ.nil ?_
    refine ExJ.thenN ?_
    refine CodeJ.ret ?_
    refine ExJ.thenR ?_
    exact ExJ.ret1 Tryd.results3 rfl ⟨rfl, rfl⟩ fun w hI => hI.pick (is := []) (by decide) rfl
  · have hokB : (hostK 2).okB m' = true := by simpa using g25
    have hO : OkMsg (hostK 2) h qs one two three := ok_msg hst hof hokB
    refine OpsJ.opT rfl rfl rfl ?_
    refine OpJ.yld rfl rfl (Yld.loadN (vs := m'.cells) rfl Tryd.underlying31 rfl sz_31 rfl (fun w hI => Inv.whole hI (i := 0) rfl)) ?_
    refine OpsJ.opT rfl rfl rfl ?_
    refine OpJ.call (small_spec m' ⟨hasks, hnames, hlens⟩) has_14 rfl rfl rfl rfl rfl [] [0, 1, 2] (by decide) rfl rfl (fun w hI => hmok w hI.keep (hI.roGet (i := 1) rfl)) ?_
    rintro _ _ ⟨⟨bsm, rfl⟩, rfl⟩
    refine OpsJ.opT rfl rfl rfl ?_
    refine OpJ.yld rfl rfl (Yld.not rfl rfl) ?_
    refine OpsJ.yld rfl rfl rfl (Yld.pickF rfl rfl rfl) ?_
    refine OpsJ.nil ?_
    refine ExJ.thenN ?_
    refine CodeJ.cond rfl (fun c29 => ?_) (fun c29 => ?_)
    · refine CodeJ.seq ?_
      refine CodeJ.region ?_
      refine OpsJ.yld rfl rfl rfl (Yld.assign rfl rfl) ?_
      refine OpsJ.nil ?_
      refine ExJ.thenN ?_
      refine CodeJ.ret ?_
      refine ExJ.thenR ?_
      exact ExJ.ret1 Tryd.results3 rfl ⟨rfl, rfl⟩ fun w hI => hI.pick (is := []) (by decide) rfl
    · obtain ⟨t, mt, d1, d2, d3, ha, h1, h2, h3, hlt2, hrun, hrf⟩ := late_short hostBA_grows nsAdder h qs one two three hO.asks (fun x hx => recShort_NS (hrw x hx) (hO.recs x hx)) hO.len
      have hk : 2 ≤ 13 := by decide
      have hrs : ∀ x ∈ one ++ two ++ three, (hostK 2).recOk x = true ∧ RecFit x ∧ x.wf ∧ (hostK 2).typ x < 65536 ∧ kindN ((hostK 2).typ x) = 2 := fun x hx => ⟨hO.recs x hx, (hrw x hx).fit, hrw x hx, by show 2 < 65536; decide, rfl⟩
      have hln := hO.len
      have hfin := fin_short h t qs.length one.length two.length three.length mt ⟨by omega, by omega, by omega, by omega⟩
      obtain ⟨hdr, hhdr⟩ : ∃ hdr, hdr = headWire h [qs.length, one.length, two.length, three.length] := ⟨_, rfl⟩
      have hh : hdr.length = 12 := by rw [hhdr]; rfl
      rw [← hhdr] at hfin
      have hsl : (lateL qs [one, two, three]).length ≤ 1000000 := by
        simp only [lateL, secSteps, List.length_append, List.length_cons, List.length_map, List.length_nil]
        omega
      have hlenm : (hdr ++ t).length = 12 + t.length := by rw [List.length_append, hh]
      have hwm : (hostK 2).Writes (m'.one ++ m'.two ++ m'.three) := Kind.writes_of hk hones (fun r' hr' => by obtain ⟨r, hr, pv, rfl⟩ := hfrom r' hr'; rw [hst.recOk]; exact hO.recs r hr)
      have hcm : m'.asks.length < 60000 ∧ m'.one.length < 60000 ∧ m'.two.length < 60000 ∧ m'.three.length < 60000 := by
        have e1 : m'.asks = qs := hof.asks
        have e2 : m'.one.length = one.length := hof.one.len
        have e3 : m'.two.length = two.length := hof.two.len
        have e4 : m'.three.length = three.length := hof.three.len
        rw [e1, e2, e3, e4]
        exact hln
      have hwh : m'.head.wf := by
        have : m'.head = h := hof.head
        rw [this]
        exact hw
      have has2 : ∀ a ∈ m'.asks, a.name.size ≤ 254 := fun a ha => by
        have e : m'.asks = qs := hof.asks
        rw [e] at ha
        exact nameOk_size _ (hO.asks a ha)
      have hs0 : (stepsL false qs []).length = qs.length + 1 := by simp [stepsL, secSteps]
      have hs1 : (stepsL false [] [one, two, three]).length ≤ 1000000 := by
        simp only [stepsL, secSteps, Bool.false_eq_true, if_false, List.length_append, List.length_cons, List.length_map, List.length_nil]
        omega
      have hs2 : 4 ≤ (stepsL false [] [one, two, three]).length := by
        simp only [stepsL, secSteps, Bool.false_eq_true, if_false, List.length_append, List.length_cons, List.length_map, List.length_nil]
        omega
      have hlate : stepsL false qs [] ++ [mkStep 1] ++ (stepsL false [] [one, two, three]).drop 1 = lateL qs [one, two, three] := by simp [stepsL, lateL, secSteps]
      refine CodeJ.skip ?_
      refine ExJ.thenN ?_
      refine CodeJ.seq ?_
      refine CodeJ.region ?_
      refine OpsJ.yld rfl rfl rfl (Yld.move rfl rfl) ?_
      refine OpsJ.op rfl ?_
      refine OpJ.call (steps_spec false qs [] (.slice pq qs.length cq) (.slice none 0 0) [] rfl (by omega)) has_15 rfl rfl rfl rfl rfl [] [0, 1, 2] (by decide) rfl rfl (fun w hI => ⟨Row.keep0 hmo.asks hI.keep, .inl ⟨none, 0, rfl, rfl, rfl⟩, fun i v rs h1 h2 => by simp at h1⟩) ?_
      rintro _ _ ⟨p31, c31, rfl, rfl⟩
      refine OpsJ.yld rfl rfl rfl (Yld.move rfl rfl) ?_
      refine OpsJ.yld rfl rfl rfl (Yld.lenSlice rfl rfl rfl Tryd.underlying25 rfl) ?_
      refine OpsJ.yld rfl rfl rfl (Yld.intBin rfl rfl rfl rfl) ?_
      rw [show (1 : Int) + (qs.length : Int) = (((stepsL false qs []).length : Nat) : Int) by omega, i64_wrap _ (by omega)]
      refine OpsJ.someOwn (i := 0) (m := (stepsL false qs []).length) rfl (by omega) fun sb hsb hcap => ?_
      subst hsb
      refine OpsJ.yld rfl rfl rfl (Yld.sliceTo (hi := (stepsL false qs []).length) rfl Tryd.underlying34 sz_45 rfl rfl hcap (by omega)) ?_
      refine OpsJ.yld rfl rfl rfl (build_step1 rfl rfl) ?_
      refine OpsJ.op rfl ?_
      refine OpJ.buildSlice (xs := [.tmp 36]) elt_34 rfl rfl rfl rfl rfl rfl (by rfl) (by decide) fun one1 hone1 => ?_
      refine OpsJ.op rfl ?_
      refine OpJ.appendL (cells := StepD.cells) (i := 1) (news := mkStep 1) elt_34 rfl rfl rfl rfl rfl rfl (fun w hI => Inv.src hI (i := 0) rfl Tryd.underlying34 (StepD.ones (s := mkStep 1) (zRec_ok w))) (by omega) fun p38 c38 => ?_
      refine OpsJ.yld rfl rfl rfl (Yld.assign rfl rfl) ?_
      refine OpsJ.nil ?_
      refine ExJ.thenN ?_
      refine CodeJ.seq ?_
      refine CodeJ.region ?_
      refine OpsJ.yld rfl rfl rfl (Yld.move rfl rfl) ?_
      refine OpsJ.yld rfl rfl rfl (Yld.move rfl rfl) ?_
      refine OpsJ.yld rfl rfl rfl (Yld.move rfl rfl) ?_
      refine OpsJ.yld rfl rfl rfl (Yld.move rfl rfl) ?_
      refine OpsJ.op rfl ?_
      refine OpJ.buildSlice (xs := [.tmp 40, .tmp 41, .tmp 42]) elt_72 rfl rfl rfl rfl rfl rfl (by rfl) (by decide) fun lists hlists => ?_
      refine OpsJ.op rfl ?_
      refine OpJ.call (steps_spec false [] [one, two, three] (.slice none 0 0) _ [.slice p1 one.length c1, .slice p2 two.length c2, .slice p3 three.length c3] rfl (by omega)) has_15 rfl rfl rfl rfl rfl [] [0, 1, 2, 3, 4, 5] (by decide) rfl rfl (fun w hI => ⟨.inl ⟨none, 0, rfl, rfl, rfl⟩, Own.row (hI.hs _ (List.mem_of_getElem? (i := 0) rfl)).1, fun i v rs h1 h2 => by
      match i with
      | 0 => simp at h1 h2; subst h1 h2; exact hmo.one.keep0 hI.keep
      | 1 => simp at h1 h2; subst h1 h2; exact hmo.two.keep0 hI.keep
      | 2 => simp at h1 h2; subst h1 h2; exact hmo.three.keep0 hI.keep
      | i + 3 => simp at h1⟩) ?_
      rintro _ _ ⟨p44, c44, rfl, rfl⟩
      refine OpsJ.someOwn (i := 0) (m := (stepsL false [] [one, two, three]).length) rfl (by omega) fun sb2 hsb2 hcap2 => ?_
      subst hsb2
      have hdl : ((stepsL false [] [one, two, three]).drop 1).length = (stepsL false [] [one, two, three]).length - 1 := by simp
      refine OpsJ.yld rfl rfl rfl (Yld.sliceFrom (lo := 1) rfl Tryd.underlying34 sz_45 rfl rfl (by omega) (by omega)) ?_
      rw [← hdl]
      refine OpsJ.op rfl ?_
      refine OpJ.appendLs (cells := StepD.cells) (i := 3) (news := (stepsL false [] [one, two, three]).drop 1) elt_34 rfl rfl rfl rfl rfl rfl (fun w hI => Cells.srcS (Late.from_ (hI.hs _ (List.mem_of_getElem? (i := 0) rfl)).1 (by omega)) (by rw [flat20]) Tryd.underlying34 (steps_ones (w := w) fun s hs => stepsL_rec (fun l hl r hr => (hro r (by simp at hl; rcases hl with rfl | rfl | rfl <;> simp [hr])).keep0 hI.keep) s (List.mem_of_mem_drop hs))) (by rw [hdl]; simp only [List.length_append, List.length_singleton]; omega) fun p46 c46 => ?_
      rw [hlate]
      refine OpsJ.yld rfl rfl rfl (Yld.assign rfl rfl) ?_
      refine OpsJ.nil ?_
      refine ExJ.thenN ?_
      refine CodeJ.seq ?_
      refine CodeJ.region ?_
      refine OpsJ.yld rfl rfl rfl (Yld.loadN (vs := hdCs h) rfl Tryd.underlying24 rfl sz_24 rfl (fun w hI => Inv.whole hI (i := 6) rfl)) ?_
      refine OpsJ.yld rfl rfl rfl (Yld.move rfl rfl) ?_
      refine OpsJ.op rfl ?_
      refine OpJ.call (build_NS G h hw [] (.slice none 0 0) _ (lateL qs [one, two, three]) (by omega) (by simp) hrun) has_16 rfl rfl rfl rfl rfl [] [0, 1, 2, 3, 4, 5, 6] (by decide) rfl rfl (fun w hI => ⟨hge.call hI (is := []) rfl, .inl ⟨none, 0, rfl, rfl⟩, Own.row (hI.hs _ (List.mem_of_getElem? (i := 3) rfl)).1, late_rec (fun l hl r hr => (hro r (by simp at hl; rcases hl with rfl | rfl | rfl <;> simp [hr])).keep0 hI.keep)⟩) ?_
      rintro _ _ ⟨q1, d1', q2, d2', rfl, rfl⟩
      rw [hrf]
      simp only [hfin]
      refine OpsJ.op rfl ?_
      refine OpJ.alloc rfl rfl rfl zero_48 fun got hgot => ?_
      refine OpsJ.op rfl ?_
      refine OpJ.storeW (i := 0) rfl rfl rfl rfl sz_48 rfl rfl rfl ?_
      refine OpsJ.nil ?_
      refine ExJ.thenN ?_
      refine CodeJ.seq ?_
      refine CodeJ.region ?_
      refine OpsJ.yld rfl rfl rfl (Yld.fieldAddr fa_48_1 rfl rfl) ?_
      refine OpsJ.yld rfl rfl rfl (Yld.load1 rfl Tryd.underlying39 rfl rfl (fun w hI => Inv.cell1 hI (i := 0) rfl rfl)) ?_
      refine OpsJ.someOwn (i := 2) (m := (hdr ++ t).length) rfl (by omega) fun db hdb hcap3 => ?_
      subst hdb
      refine OpsJ.op rfl ?_
      refine OpJ.call (read_spec (hostK 2) 2 hostBA reads_NS h hw hO.head qs (fun a ha => ⟨(hq a ha).1, (hq a ha).2.1, hO.asks a ha⟩) one two three hrs hln t d1 d2 d3 ha h1 h2 h3 db 0 d2' hdr hhdr hcap3 (by omega)) has_17 rfl rfl rfl rfl rfl [] [0, 1, 2, 3, 4, 5, 6, 7, 8, 9] (by decide) rfl rfl (fun w hI => (Own.cells (hI.hs _ (List.mem_of_getElem? (i := 2) rfl)).1 _ _ _ _ rfl).2.2) ?_
      rintro _ _ ⟨mk, qk, bk, hk', rfl, rfl, hkok, hbm⟩
      refine OpsJ.yld rfl rfl rfl (Yld.move rfl rfl) ?_
      refine OpsJ.yld rfl rfl rfl (Yld.extract rfl rfl rfl) ?_
      refine OpsJ.yld rfl rfl rfl (Yld.extract rfl rfl rfl) ?_
      refine OpsJ.op rfl ?_
      refine OpJ.alloc rfl rfl rfl zero_31 fun kb hkb => ?_
      refine OpsJ.op rfl ?_
      refine OpJ.storeW (i := 0) rfl rfl rfl rfl sz_31 rfl hbm.ones rfl ?_
      refine OpsJ.yld rfl rfl rfl (Yld.assign rfl rfl) ?_
      refine OpsJ.nil ?_
      refine ExJ.thenN ?_
      refine CodeJ.seq ?_
      refine CodeJ.any (fuel := 14) (listed := #[false, false, false, false, false, false, false, false, false, false, false, false, false, false]) [0, 1, 2, 3, 4, 8, 5, 6, 9, 10, 11] rfl follows_mixed rfl rfl ?_
      refine AnyJ.take (fuel := 13) (listed' := #[true, false, false, false, false, false, false, false, false, false, false, false, false, false]) 0 rfl (by kernel_rfl) (by kernel_rfl) (by kernel_rfl) rfl rfl rfl rfl (Yld.loadN (vs := [.slice q1 _ d1', .slice (some ⟨db, 0, none⟩) _ d2', .int .i64 0]) rfl Tryd.underlying48 rfl sz_48 rfl (fun w hI => Inv.whole hI (i := 2) rfl)) (fun w hI => hI.pick (is := [0, 1, 2, 3, 4, 8, 5, 6, 9, 10, 11]) (by decide) rfl) ?_
      refine AnyJ.take (fuel := 12) (listed' := #[true, true, false, false, false, false, false, false, false, false, false, false, false, false]) 1 rfl (by kernel_rfl) (by kernel_rfl) (by kernel_rfl) rfl rfl rfl rfl (Yld.move rfl rfl) (fun w hI => hI.pick (is := [0, 1, 2, 3, 4, 8, 5, 6, 9, 10, 11]) (by decide) rfl) ?_
      refine AnyJ.one (fuel := 11) 2 (by kernel_rfl) ?_
      refine StepJ.op (listed' := #[true, true, true, false, false, false, false, false, false, false, false, false, false, false]) rfl rfl rfl ?_
      refine OpJ.call (fine_spec _ _ (List.replicate (lateL qs [one, two, three]).length 0) p46 (lateL qs [one, two, three]).length c46 (by rw [List.length_replicate]; omega)) has_18 rfl rfl rfl rfl rfl [] [0, 1, 2, 3, 4, 5, 6, 7, 8, 9, 10, 11] (by decide) rfl rfl (fun w hI => Own.row (hI.hs _ (List.mem_of_getElem? (i := 3) rfl)).1) ?_
      rintro _ _ ⟨rfl, rfl⟩
      refine ⟨fun w hI => hI.pick (is := [0, 1, 2, 3, 4, 8, 5, 6, 9, 10, 11]) (by decide) rfl, ?_⟩
      refine AnyJ.take (fuel := 10) (listed' := #[true, true, true, true, false, false, false, false, false, false, false, false, false, false]) 3 rfl (by kernel_rfl) (by kernel_rfl) (by kernel_rfl) rfl rfl rfl rfl (Yld.move rfl rfl) (fun w hI => hI.pick (is := [0, 1, 2, 3, 4, 8, 5, 6, 9, 10, 11]) (by decide) rfl) ?_
      refine AnyJ.splitB (s := 59) rfl (fun g59 => ?_) (fun g59 => ?_)
      · refine AnyJ.takeT (fuel := 9) (listed' := #[true, true, true, true, true, false, false, false, false, false, false, false, false, false]) 4 rfl (by kernel_rfl) (by kernel_rfl) (by kernel_rfl) rfl rfl rfl rfl rfl rfl (Yld.move rfl rfl) (fun w hI => hI.pick (is := [0, 1, 2, 3, 4, 8, 5, 6, 9, 10, 11]) (by decide) rfl) ?_
        refine AnyJ.take (fuel := 8) (listed' := #[true, true, true, true, true, true, false, false, false, false, false, false, false, false]) 5 rfl (by kernel_rfl) (by kernel_rfl) (by kernel_rfl) rfl rfl rfl rfl (Yld.pickT rfl rfl rfl) (fun w hI => hI.pick (is := [0, 1, 2, 3, 4, 8, 5, 6, 9, 10, 11]) (by decide) rfl) ?_
        refine AnyJ.take (fuel := 7) (listed' := #[true, true, true, true, true, true, true, false, false, false, false, false, false, false]) 6 rfl (by kernel_rfl) (by kernel_rfl) (by kernel_rfl) rfl rfl rfl rfl (Yld.move rfl rfl) (fun w hI => hI.pick (is := [0, 1, 2, 3, 4, 8, 5, 6, 9, 10, 11]) (by decide) rfl) ?_
        refine AnyJ.splitB (s := 62) rfl (fun g62 => ?_) (fun g62 => ?_)
        · refine AnyJ.takeT (fuel := 6) (listed' := #[true, true, true, true, true, true, true, true, false, false, false, false, false, false]) 7 rfl (by kernel_rfl) (by kernel_rfl) (by kernel_rfl) rfl rfl rfl rfl rfl rfl (Yld.loadN (vs := mk.cells) rfl Tryd.underlying31 rfl sz_31 rfl (fun w hI => Inv.whole hI (i := 0) rfl)) (fun w hI => hI.pick (is := [0, 1, 2, 3, 4, 8, 5, 6, 9, 10, 11]) (by decide) rfl) ?_
          refine AnyJ.takeT (fuel := 5) (listed' := #[true, true, true, true, true, true, true, true, false, true, false, false, false, false]) 9 rfl (by kernel_rfl) (by kernel_rfl) (by kernel_rfl) rfl rfl rfl rfl rfl rfl (Yld.loadN (vs := m'.cells) rfl Tryd.underlying31 rfl sz_31 rfl (fun w hI => Inv.whole hI (i := 8) rfl)) (fun w hI => hI.pick (is := [0, 1, 2, 3, 4, 8, 5, 6, 9, 10, 11]) (by decide) rfl) ?_
          refine AnyJ.one (fuel := 4) 8 (by kernel_rfl) ?_
          refine StepJ.opT (listed' := #[true, true, true, true, true, true, true, true, true, true, false, false, false, false]) rfl rfl rfl rfl rfl ?_
          refine OpJ.call (messageWire_spec (hostK 2) mk (by rw [hbm.head]; exact hw) (back_writes hk hone hbm) (fun a ha => by rw [hbm.asks] at ha; exact nameOk_size _ (hO.asks a ha)) (by rw [hbm.asks, hbm.one.len, hbm.two.len, hbm.three.len]; exact hln)) has_20 rfl rfl rfl rfl rfl [] [0, 1, 2, 3, 4, 5, 6, 7, 8, 9, 10, 11] (by decide) rfl rfl (fun w hI => hkok w (hI.roGet (i := 1) rfl)) ?_
          rintro _ _ ⟨p67, c67, rfl, rfl⟩
          refine ⟨fun w hI => hI.pick (is := [1, 2, 3, 4, 5, 9, 6, 7, 10, 11, 12]) (by decide) rfl, ?_⟩
          refine AnyJ.one (fuel := 3) 10 (by kernel_rfl) ?_
          refine StepJ.opT (listed' := #[true, true, true, true, true, true, true, true, true, true, true, false, false, false]) rfl rfl rfl rfl rfl ?_
          refine OpJ.call (messageWire_spec (hostK 2) m' hwh hwm has2 hcm) has_20 rfl rfl rfl rfl rfl [] [0, 1, 2, 3, 4, 5, 6, 7, 8, 9, 10, 11, 12] (by decide) rfl rfl (fun w hI => hmok w hI.keep (hI.roGet (i := 11) rfl)) ?_
          rintro _ _ ⟨p58, c58, rfl, rfl⟩
          refine ⟨fun w hI => hI.pick (is := [2, 3, 4, 5, 6, 10, 7, 8, 11, 12, 13]) (by decide) rfl, ?_⟩
          refine AnyJ.one (fuel := 2) 11 (by kernel_rfl) ?_
          refine StepJ.opT (listed' := #[true, true, true, true, true, true, true, true, true, true, true, true, false, false]) rfl rfl rfl rfl rfl ?_
          refine OpJ.call (same_spec _ _ ((hostK 2).wire mk) ((hostK 2).wire m')) has_19 rfl rfl rfl rfl rfl [] [0, 1, 2, 3, 4, 5, 6, 7, 8, 9, 10, 11, 12, 13] (by decide) rfl rfl (fun w hI => ⟨Inv.bytes (k := 1) rfl w hI, Inv.bytes (k := 0) rfl w hI⟩) ?_
          rintro _ _ ⟨rfl, rfl⟩
          refine ⟨fun w hI => hI.pick (is := [2, 3, 4, 5, 6, 10, 7, 8, 11, 12, 13]) (by decide) rfl, ?_⟩
          refine AnyJ.take (fuel := 1) (listed' := #[true, true, true, true, true, true, true, true, true, true, true, true, true, false]) 12 rfl (by kernel_rfl) (by kernel_rfl) (by kernel_rfl) rfl rfl rfl rfl (Yld.pickT rfl rfl rfl) (fun w hI => hI.pick (is := [2, 3, 4, 5, 6, 10, 7, 8, 11, 12, 13]) (by decide) rfl) ?_
          refine AnyJ.take (fuel := 0) (listed' := #[true, true, true, true, true, true, true, true, true, true, true, true, true, true]) 13 rfl (by kernel_rfl) (by kernel_rfl) (by kernel_rfl) rfl rfl rfl rfl (Yld.assign rfl rfl) (fun w hI => hI.pick (is := [2, 3, 4, 5, 6, 10, 7, 8, 11, 12, 13]) (by decide) rfl) ?_
          refine AnyJ.done (by kernel_rfl) ?_
          refine ExJ.thenN ?_
          refine CodeJ.ret ?_
          exact ExJ.ret1 Tryd.results3 rfl ⟨by rw [wire_back hbm, wire_of hst hof]; simp, rfl⟩ fun w hI => hI.pick (is := []) (by decide) rfl
        · exact absurd g62 (by decide)
      · exact absurd g59 (by rw [all_zero]; decide)
end Go.Proofs.YtijhpaejdchjgaaDoor
