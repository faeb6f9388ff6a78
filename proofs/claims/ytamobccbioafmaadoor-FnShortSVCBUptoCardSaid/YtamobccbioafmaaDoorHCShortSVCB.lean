/-
  Proved here: laws.FnShortSVCB returns true for every header, every list of questions and every three lists of records and leaves what it was given as it was. Conditions: those of the given row alone (the listed error variables start as the program's text lays them; what is read is of the given bulk at most).
-/
import Derived.Test.YtamobccbioafmaaDoorBf
import Derived.Test.YtamobccbioafmaaDoorHSSVCB
namespace Go.Proofs.YtamobccbioafmaaDoor
open Go Go.ChangeShapes Go.WideShapes Go.ChangeAt Go.RowKit
set_option maxRecDepth 100000
set_option maxHeartbeats 4000000

theorem fnShortSVCB_ge {W : World} (h : laidMetH Tryd.prog Rows.fnShortSVCBUptoRow.laid W) : ∃ G, GE G W [] := by
  have hn := typeName_ptr_named (P := Tryd.prog) (nm := "errors.errorString") (tp := 183) (by kernel_rfl) (by kernel_rfl) (by decide)
  have key : ∀ g, g ∈ [0, 1, 9, 10, 11, 5, 3, 4, 2, 12] → ∃ a, Cells W g 0 [.iface 183 (.pointer (some a))] := by
    intro g hg
    simp only [List.mem_cons, List.not_mem_nil, or_false] at hg
    rcases hg with rfl | rfl | rfl | rfl | rfl | rfl | rfl | rfl | rfl | rfl
    · exact laid_err "loop.example/pub-messagesbuilt/pub/dnsmessage.ErrNotStarted" (by kernel_rfl) h (by kernel_rfl) (t := 69) (by kernel_rfl) Tryd.underlying69 (List.mem_of_getElem? (i := 0) rfl) hn Tryd.underlying183
    · exact laid_err "loop.example/pub-messagesbuilt/pub/dnsmessage.ErrSectionDone" (by kernel_rfl) h (by kernel_rfl) (t := 69) (by kernel_rfl) Tryd.underlying69 (List.mem_of_getElem? (i := 1) rfl) hn Tryd.underlying183
    · exact laid_err "loop.example/pub-messagesbuilt/pub/dnsmessage.errNameTooLong" (by kernel_rfl) h (by kernel_rfl) (t := 69) (by kernel_rfl) Tryd.underlying69 (List.mem_of_getElem? (i := 3) rfl) hn Tryd.underlying183
    · exact laid_err "loop.example/pub-messagesbuilt/pub/dnsmessage.errNonCanonicalName" (by kernel_rfl) h (by kernel_rfl) (t := 69) (by kernel_rfl) Tryd.underlying69 (List.mem_of_getElem? (i := 10) rfl) hn Tryd.underlying183
    · exact laid_err "loop.example/pub-messagesbuilt/pub/dnsmessage.errSegTooLong" (by kernel_rfl) h (by kernel_rfl) (t := 69) (by kernel_rfl) Tryd.underlying69 (List.mem_of_getElem? (i := 2) rfl) hn Tryd.underlying183
    · exact laid_err "loop.example/pub-messagesbuilt/pub/dnsmessage.errTooManyAdditionals" (by kernel_rfl) h (by kernel_rfl) (t := 69) (by kernel_rfl) Tryd.underlying69 (List.mem_of_getElem? (i := 9) rfl) hn Tryd.underlying183
    · exact laid_err "loop.example/pub-messagesbuilt/pub/dnsmessage.errTooManyAnswers" (by kernel_rfl) h (by kernel_rfl) (t := 69) (by kernel_rfl) Tryd.underlying69 (List.mem_of_getElem? (i := 7) rfl) hn Tryd.underlying183
    · exact laid_err "loop.example/pub-messagesbuilt/pub/dnsmessage.errTooManyAuthorities" (by kernel_rfl) h (by kernel_rfl) (t := 69) (by kernel_rfl) Tryd.underlying69 (List.mem_of_getElem? (i := 8) rfl) hn Tryd.underlying183
    · exact laid_err "loop.example/pub-messagesbuilt/pub/dnsmessage.errTooManyQuestions" (by kernel_rfl) h (by kernel_rfl) (t := 69) (by kernel_rfl) Tryd.underlying69 (List.mem_of_getElem? (i := 6) rfl) hn Tryd.underlying183
    · exact laid_err "loop.example/pub-messagesbuilt/pub/dnsmessage.errZeroSegLen" (by kernel_rfl) h (by kernel_rfl) (t := 69) (by kernel_rfl) Tryd.underlying69 (List.mem_of_getElem? (i := 4) rfl) hn Tryd.underlying183
  refine ⟨⟨fun g => if h : g ∈ [0, 1, 9, 10, 11, 5, 3, 4, 2, 12] then (key g h).choose else ⟨0, 0, none⟩, []⟩, fun g _ hb => (by cases hb), fun g hg => ?_⟩
  have hg' : g ∈ [0, 1, 9, 10, 11, 5, 3, 4, 2, 12] := by simpa [gAll, gBase, or_assoc] using hg
  have := (key g hg').choose_spec
  simp only [hg', dif_pos]
  exact this

theorem fnShortSVCB_split {α : Type} : ∀ {l : List α}, l.length = 13 → ∃ g0 g1 g2 g3 g4 g5 g6 g7 g8 g9 g10 g11 g12, l = [g0, g1, g2, g3, g4, g5, g6, g7, g8, g9, g10, g11, g12]
  | [g0, g1, g2, g3, g4, g5, g6, g7, g8, g9, g10, g11, g12], _ => ⟨g0, g1, g2, g3, g4, g5, g6, g7, g8, g9, g10, g11, g12, rfl⟩

theorem fnShortSVCB_contract (H : Type) (enc : TypeId × Value → H) (W : World) (base : Nat) (args : Array Value) (ds gs : List (DataW H)) (before : List MemPlace)
    (hval : ∀ (j : Nat) t v, Tryd.f6.params[j]? = some t → args[j]? = some v → Value.okWide Tryd.prog W .any base t v)
    (hW : DataW.Whole enc Tryd.prog Tryd.f6.params.toList Rows.fnShortSVCBSpec.vars false W args.toList ds gs before) (hwt : (DataW.weightsEach Tryd.prog (Tryd.f6.params.toList ++ (Rows.OpenSpec.upto Rows.fnShortSVCBSpec).bare.plain.varTypes Tryd.prog) (ds ++ gs)).all (· ≤ reachBytes) = true) (hL : laidMetH Tryd.prog Rows.fnShortSVCBUptoRow.laid W) (hcond : Rows.uptoSmall H (ds ++ gs) = true) :
    Calls Tryd.prog 6 args W fun e W' => ∃ v, e = .returned v ∧ Rows.fnShortSVCBSpec.post enc Tryd.prog Tryd.f6 false true false false W args v W' := by
  have hW' := hW
  obtain ⟨p, q, hA0, hV, rfl, hfz, hnd⟩ := hW
  have hA : DataW.TrodAll enc Tryd.prog W 0 (fun _ => true) true Tryd.f6.params.toList args.toList ds p := hA0
  rw [Tryd.params6] at hA hval hwt
  obtain ⟨v0, vs0, d0, ds0, p0, q0, hargs0, rfl, rfl, h0, r0⟩ := trodAll_cons hA
  obtain ⟨v1, vs1, d1, ds1, p1, q1, hargs1, rfl, rfl, h1, r1⟩ := trodAll_cons r0
  subst hargs1
  obtain ⟨v2, vs2, d2, ds2, p2, q2, hargs2, rfl, rfl, h2, r2⟩ := trodAll_cons r1
  subst hargs2
  obtain ⟨v3, vs3, d3, ds3, p3, q3, hargs3, rfl, rfl, h3, r3⟩ := trodAll_cons r2
  subst hargs3
  obtain ⟨v4, vs4, d4, ds4, p4, q4, hargs4, rfl, rfl, h4, r4⟩ := trodAll_cons r3
  subst hargs4
  obtain ⟨rfl, rfl, rfl⟩ := trodAll_nil r4
  obtain rfl : args = #[v0, v1, v2, v3, v4] := by cases args; simp_all
  obtain ⟨g0, g1, g2, g3, g4, g5, g6, g7, g8, g9, g10, g11, g12, rfl⟩ := fnShortSVCB_split (trodVars_len hV)
  obtain ⟨n0, R0⟩ := Rd.of_trod hwt (j := 0) rfl rfl h0
  replace R0 := R0.up (Nat.le_trans (bulk_mem (ds := _) (by simp)) (of_decide_eq_true hcond))
  obtain ⟨c0, rfl, _⟩ := okWide_struct Tryd.underlying24 (hval 0 _ v0 rfl rfl)
  obtain ⟨a0, e0, w0⟩ := openHead R0
  obtain rfl : c0 = (hdCs a0).toArray := by rw [← e0]; rfl
  obtain ⟨n1, R1⟩ := Rd.of_trod hwt (j := 1) rfl rfl h1
  replace R1 := R1.up (Nat.le_trans (bulk_mem (ds := _) (by simp)) (of_decide_eq_true hcond))
  obtain ⟨pp1, pl1, pc1, hv1⟩ := okWide_slice Tryd.underlying25 (hval 1 _ v1 rfl rfl)
  have RR1 : Rd enc Tryd.prog W n1 25 [v1] d1 1048576 := by subst hv1; exact R1
  obtain ⟨a1, rr1, l1, w1⟩ := openAsks RR1
  obtain ⟨n2, R2⟩ := Rd.of_trod hwt (j := 2) rfl rfl h2
  replace R2 := R2.up (Nat.le_trans (bulk_mem (ds := _) (by simp)) (of_decide_eq_true hcond))
  obtain ⟨pp2, pl2, pc2, hv2⟩ := okWide_slice Tryd.underlying26 (hval 2 _ v2 rfl rfl)
  have RR2 : Rd enc Tryd.prog W n2 26 [v2] d2 1048576 := by subst hv2; exact R2
  obtain ⟨a2, rr2, l2, w2, u2⟩ := openRecs RR2
  obtain ⟨n3, R3⟩ := Rd.of_trod hwt (j := 3) rfl rfl h3
  replace R3 := R3.up (Nat.le_trans (bulk_mem (ds := _) (by simp)) (of_decide_eq_true hcond))
  obtain ⟨pp3, pl3, pc3, hv3⟩ := okWide_slice Tryd.underlying26 (hval 3 _ v3 rfl rfl)
  have RR3 : Rd enc Tryd.prog W n3 26 [v3] d3 1048576 := by subst hv3; exact R3
  obtain ⟨a3, rr3, l3, w3, u3⟩ := openRecs RR3
  obtain ⟨n4, R4⟩ := Rd.of_trod hwt (j := 4) rfl rfl h4
  replace R4 := R4.up (Nat.le_trans (bulk_mem (ds := _) (by simp)) (of_decide_eq_true hcond))
  obtain ⟨pp4, pl4, pc4, hv4⟩ := okWide_slice Tryd.underlying26 (hval 4 _ v4 rfl rfl)
  have RR4 : Rd enc Tryd.prog W n4 26 [v4] d4 1048576 := by subst hv4; exact R4
  obtain ⟨a4, rr4, l4, w4, u4⟩ := openRecs RR4
  obtain ⟨G, hG⟩ := fnShortSVCB_ge hL
  refine ((fnShortSVCB_spec G a0 w0 a1 v1 w1 l1 a2 a3 a4 v2 v3 v4 w2 l2 w3 l3 w4 l4 u2 u3 u4) W (Pre.nil W) (⟨hG, rr1, rr2, rr3, rr4⟩)).mono fun e W' ⟨v, H', he, ⟨hv, hH⟩, hI⟩ => ?_
  subst hv hH
  exact ⟨_, he, post_true laidOut_ (by kernel_rfl) (by kernel_rfl) rfl Tryd.underlying4 hW' hI.keep.below rfl⟩

theorem fnShortSVCB_door (os : Os) (args : Array Value) : laidMetH Tryd.prog Rows.fnShortSVCBUptoRow.laid ((World.doorLaid Tryd.prog 400 os).forCall (fun _ _ => 0) ⟨#[], args, []⟩).memory :=
  laidMet_of_run' 8 (by kernel_rfl) (by kernel_rfl)
theorem fnShortSVCB_reads (os : Os) {H : Type} (enc : TypeId × Value → H) : ∃ (hs : List H) (places : List MemPlace), hs.length = 13 ∧ DataW.whole enc Tryd.prog ((World.doorLaid Tryd.prog 400 os).forCall (fun _ _ => 0) ⟨#[], #[(.agg #[.int .u16 0, .bool false, .int .u16 0, .bool false, .bool false, .bool false, .bool false, .bool false, .bool false, .int .u16 0]), (.slice none 0 0), (.slice none 0 0), (.slice none 0 0), (.slice none 0 0)], []⟩).memory Tryd.f6.params.toList Rows.fnShortSVCBSpec.vars false #[(Value.agg #[.int .u16 0, .bool false, .int .u16 0, .bool false, .bool false, .bool false, .bool false, .bool false, .bool false, .int .u16 0]), (.slice none 0 0), (.slice none 0 0), (.slice none 0 0), (.slice none 0 0)].toList 8 = some ([(.agg [.lit (.int .u16 0), .lit (.bool false), .lit (.int .u16 0), .lit (.bool false), .lit (.bool false), .lit (.bool false), .lit (.bool false), .lit (.bool false), .lit (.bool false), .lit (.int .u16 0)]), (.nil), (.nil), (.nil), (.nil)], hs.map .held, places) :=
  whole_ex (by kernel_rfl) (by kernel_rfl) (by kernel_rfl)

theorem fnShortSVCB_lifted (os : Os) (started : os.Started) (H : Type) (enc : TypeId × Value → H) (F : Stop.Interp) :
    ReturnsInHanded {} Tryd.checked os 6 .any ((Rows.OpenSpec.upto Rows.fnShortSVCBSpec).preRow enc Tryd.prog Tryd.f6 Rows.fnShortSVCBUptoRow.domain false Rows.fnShortSVCBUptoRow.laid) (((Rows.OpenSpec.upto Rows.fnShortSVCBSpec).at F).post enc Tryd.prog Tryd.f6 false true false false) := by
  obtain ⟨hs, places, hn, hx⟩ := fnShortSVCB_reads os enc
  match hs, hn with
  | [b0, b1, b2, b3, b4, b5, b6, b7, b8, b9, b10, b11, b12], _ =>
  refine returnsInHanded_of_row (C := Tryd.checked) (s := Rows.OpenSpec.upto Rows.fnShortSVCBSpec) own_ started (by kernel_rfl) Tryd.func6
    (witness_row_at (enc := enc) (C := Tryd.checked) false (World.doorLaid Tryd.prog 400 os) #[(.agg #[.int .u16 0, .bool false, .int .u16 0, .bool false, .bool false, .bool false, .bool false, .bool false, .bool false, .int .u16 0]), (.slice none 0 0), (.slice none 0 0), (.slice none 0 0), (.slice none 0 0)] rfl (by kernel_rfl) (by kernel_rfl) (by kernel_rfl)
      (OpenSpec.preRow_of_cond 8 hx (by kernel_rfl) (fun k hk => by cases hk; kernel_rfl) (by kernel_rfl) (fnShortSVCB_door os _))) ?_
  intro W base args ds gs before hval hW _ hc hwt hL _ _
  exact fnShortSVCB_contract H enc W base args ds gs before hval hW hwt hL (hc _ rfl)

theorem fnShortSVCB_closed : joinedFacts Tryd.pinned.checked.prog 6 Tryd.f6 (Rows.OpenSpec.upto Rows.fnShortSVCBSpec).bare Rows.fnShortSVCBUptoRow = true := by
  unfold joinedFacts
  simp only [Bool.and_eq_true]
  and_intros
  all_goals first | (with_reducible exact mayEnter_) | (rw [lifts_]; kernel_rfl) | (rw [make_]; kernel_rfl) | (as_aux_lemma => kernel_rfl)

theorem fnShortSVCB_said : Rows.FnShortSVCBUptoSaid :=
  OpenClaim.holds_of_cond 6 Tryd.f6 rfl rfl rfl rfl rfl rfl rfl ⟨rfl, rfl, rfl, rfl, rfl⟩ rfl rfl rfl rfl rfl (by kernel_rfl) Tryd.func6 fnShortSVCB_closed
    (of_decide_eq_true (by kernel_rfl)) (by unfold Func.isWrapper; first | (rw [if_pos (by decide +kernel)]; kernel_rfl) | (rw [if_neg (by decide +kernel)]; exact ⟨rfl, rfl⟩))
    (fun os started H enc _ F => by rw [OpenClaim.pre_eq_preRow]; exact fnShortSVCB_lifted os started H enc F)

theorem fnShortSVCB_plain (f : FuncId) (fn : Func) (hf : Tryd.pinned.checked.prog.funcNamed "loop.example/pub-messagesbuilt/laws.FnShortSVCB" = some f) (hfn : Tryd.pinned.checked.prog.funcs[f]? = some fn) :
    true = Tryd.pinned.checked.prog.looks [] ∧ ∀ (j : Nat) t, fn.params[j]? = some t → Tryd.pinned.checked.prog.wantsStandIn t = false := by
  obtain rfl : f = 6 := Option.some.inj ((show Tryd.prog.funcNamed "loop.example/pub-messagesbuilt/laws.FnShortSVCB" = some 6 by kernel_rfl).symm.trans hf) |>.symm
  obtain rfl : fn = Tryd.f6 := (Option.some.inj (Tryd.func6.symm.trans hfn)).symm
  refine ⟨looks_, fun j t ht => ?_⟩
  rw [Tryd.params6] at ht
  have hall : ([24, 25, 26, 26, 26].all fun t => !Tryd.prog.wantsStandIn t) = true := by kernel_rfl
  have := List.all_eq_true.1 hall t (Array.mem_toList_iff.2 (Array.mem_of_getElem? ht))
  have h2 : Tryd.prog.wantsStandIn t = false := by simpa using this
  exact h2

theorem fnShortSVCB_card : Rows.FnShortSVCBUptoCardSaid :=
  Claim7.holds_tied_plain_at .later [] _ _ _ _ fnShortSVCB_said (fun _ h => by cases h) (by kernel_rfl) (fun _ h => by cases h) fnShortSVCBUpto_row_tie rfl ⟨rfl, rfl⟩ main_ rfl fnShortSVCB_plain (by kernel_rfl)
end Go.Proofs.YtamobccbioafmaaDoor
