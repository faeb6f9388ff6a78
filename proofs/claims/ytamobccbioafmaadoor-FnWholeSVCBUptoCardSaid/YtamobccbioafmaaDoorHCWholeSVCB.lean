/-
  Proved here: laws.FnWholeSVCB returns true for every header and every record and leaves what it was given as it was. Conditions: those of the given row alone (the listed error variables start as the program's text lays them; what is read is of the given bulk at most).
-/
import Derived.Test.YtamobccbioafmaaDoorBf
import Derived.Test.YtamobccbioafmaaDoorHWSVCB
namespace Go.Proofs.YtamobccbioafmaaDoor
open Go Go.ChangeShapes Go.WideShapes Go.ChangeAt Go.RowKit
set_option maxRecDepth 100000
set_option maxHeartbeats 4000000

theorem fnWholeSVCB_ge {W : World} (h : laidMetH Tryd.prog Rows.fnWholeSVCBUptoRow.laid W) : ∃ G, GE G W [] := by
  have hn := typeName_ptr_named (P := Tryd.prog) (nm := "errors.errorString") (tp := 183) (by kernel_rfl) (by kernel_rfl) (by decide)
  have key : ∀ g, g ∈ [0, 1, 9, 10, 11, 5, 3, 4, 2, 12] → ∃ a, Cells W g 0 [.iface 183 (.pointer (some a))] := by
    intro g hg
    simp only [List.mem_cons, List.not_mem_nil, or_false] at hg
    rcases hg with rfl | rfl | rfl | rfl | rfl | rfl | rfl | rfl | rfl | rfl
    · exact laid_err "loop.example/pub-messagesbuilt/pub/dnsmessage.ErrNotStarted" (by kernel_rfl) h (by kernel_rfl) (t := 69) (by kernel_rfl) Tryd.underlying69 (List.mem_of_getElem? (i := 0) rfl) hn Tryd.underlying183
    · exact laid_err "loop.example/pub-messagesbuilt/pub/dnsmessage.ErrSectionDone" (by kernel_rfl) h (by kernel_rfl) (t := 69) (by kernel_rfl) Tryd.underlying69 (List.mem_of_getElem? (i := 1) rfl) hn Tryd.underlying183
    · exact laid_err "loop.example/pub-messagesbuilt/pub/dnsmessage.errNameTooLong" (by kernel_rfl) h (by kernel_rfl) (t := 69) (by kernel_rfl) Tryd.underlying69 (List.mem_of_getElem? (i := 3) rfl) hn Tryd.underlying183
    · exact laid_err "loop.example/pub-messagesbuilt/pub/dnsmessage.errNonCanonicalName" (by kernel_rfl) h (by kernel_rfl) (t := 69) (by kernel_rfl) Tryd.underlying69 (List.mem_of_getElem? (i := 10) rfl) hn Tryd.underlying183
    · exact laid_err "loop.example/pub-messagesbuilt/pub/dnsmessage.errSegTooLong" (by kernel_rfl) h (by kernel_rfl) (t := 69) (by kernel_rfl) Tryd.underlying69 (List.mem_of_getElem? (i := 2) rfl) hn Tryd.underlying183
    · exact laid_err "loop.example/pub-messagesbuilt/pub/dnsmessage.errTooManyAdditionals" (by kernel_rfl) h (by kernel_rfl) (t := 69) (by kernel_rfl) Tryd.underlying69 (List.mem_of_getElem? (i := 9) rfl) hn Tryd.underlying183
    · exact laid_err "loop.example/pub-messagesbuilt/pub/dnsmessage.errTooManyAnswers" (by kernel_rfl) h (by kernel_rfl) (t := 69) (by kernel_rfl) Tryd.underlying69 (List.mem_of_getElem? (i := 7) rfl) hn Tryd.underlying183
    · exact laid_err "loop.example/pub-messagesbuilt/pub/dnsmessage.errTooManyAuthorities" (by kernel_rfl) h (by kernel_rfl) (t := 69) (by kernel_rfl) Tryd.underlying69 (List.mem_of_getElem? (i := 8) rfl) hn Tryd.underlying183
    · exact laid_err "loop.example/pub-messagesbuilt/pub/dnsmessage.errTooManyQuestions" (by kernel_rfl) h (by kernel_rfl) (t := 69) (by kernel_rfl) Tryd.underlying69 (List.mem_of_getElem? (i := 6) rfl) hn Tryd.underlying183
    · exact laid_err "loop.example/pub-messagesbuilt/pub/dnsmessage.errZeroSegLen" (by kernel_rfl) h (by kernel_rfl) (t := 69) (by kernel_rfl) Tryd.underlying69 (List.mem_of_getElem? (i := 4) rfl) hn Tryd.underlying183
  refine ⟨⟨fun g => if h : g ∈ [0, 1, 9, 10, 11, 5, 3, 4, 2, 12] then (key g h).choose else ⟨0, 0, none⟩, []⟩, fun g _ hb => (by cases hb), fun g hg => ?_⟩
  have hg' : g ∈ [0, 1, 9, 10, 11, 5, 3, 4, 2, 12] := by simpa [gAll, gBase, or_assoc] using hg
  have := (key g hg').choose_spec
  simp only [hg', dif_pos]
  exact this

theorem fnWholeSVCB_contract (H : Type) (enc : TypeId × Value → H) (W : World) (base : Nat) (args : Array Value) (ds gs : List (DataW H)) (before : List MemPlace)
    (hval : ∀ (j : Nat) t v, Tryd.f8.params[j]? = some t → args[j]? = some v → Value.okWide Tryd.prog W .any base t v)
    (hW : DataW.Whole enc Tryd.prog Tryd.f8.params.toList Rows.fnWholeSVCBSpec.vars false W args.toList ds gs before) (hwt : (DataW.weightsEach Tryd.prog (Tryd.f8.params.toList ++ (Rows.OpenSpec.upto Rows.fnWholeSVCBSpec).bare.plain.varTypes Tryd.prog) (ds ++ gs)).all (· ≤ reachBytes) = true) (hL : laidMetH Tryd.prog Rows.fnWholeSVCBUptoRow.laid W) (hcond : Rows.uptoSmall H (ds ++ gs) = true) :
    Calls Tryd.prog 8 args W fun e W' => ∃ v, e = .returned v ∧ Rows.fnWholeSVCBSpec.post enc Tryd.prog Tryd.f8 false true false false W args v W' := by
  have hW' := hW
  obtain ⟨p, q, hA0, hV, rfl, hfz, hnd⟩ := hW
  have hA : DataW.TrodAll enc Tryd.prog W 0 (fun _ => true) true Tryd.f8.params.toList args.toList ds p := hA0
  rw [Tryd.params8] at hA hval hwt
  obtain ⟨v0, vs0, d0, ds0, p0, q0, hargs0, rfl, rfl, h0, r0⟩ := trodAll_cons hA
  obtain ⟨v1, vs1, d1, ds1, p1, q1, hargs1, rfl, rfl, h1, r1⟩ := trodAll_cons r0
  subst hargs1
  obtain ⟨rfl, rfl, rfl⟩ := trodAll_nil r1
  obtain rfl : args = #[v0, v1] := by cases args; simp_all
  have hgl := trodVars_len hV
  match gs, hgl with
  | [g0, g1, g2, g3, g4, g5, g6, g7, g8, g9, g10, g11, g12], _ =>
  obtain ⟨n0, R0⟩ := Rd.of_trod hwt (j := 0) rfl rfl h0
  replace R0 := R0.up (Nat.le_trans (bulk_mem (ds := _) (by simp)) (of_decide_eq_true hcond))
  obtain ⟨c0, rfl, _⟩ := okWide_struct Tryd.underlying24 (hval 0 _ v0 rfl rfl)
  obtain ⟨a0, e0, w0⟩ := openHead R0
  obtain rfl : c0 = (hdCs a0).toArray := by rw [← e0]; rfl
  obtain ⟨n1, R1⟩ := Rd.of_trod hwt (j := 1) rfl rfl h1
  replace R1 := R1.up (Nat.le_trans (bulk_mem (ds := _) (by simp)) (of_decide_eq_true hcond))
  obtain ⟨c1, rfl, _⟩ := okWide_struct Tryd.underlying35 (hval 1 _ v1 rfl rfl)
  obtain ⟨a1, e1, w1, rr1, u1⟩ := openRec R1
  obtain rfl : c1 = (RecD.cells a1).toArray := by rw [← e1]; rfl
  obtain ⟨G, hG⟩ := fnWholeSVCB_ge hL
  refine ((fnWholeSVCB_spec G a0 w0 a1 w1 u1) W (Pre.nil W) (⟨hG, rr1⟩)).mono fun e W' ⟨v, H', he, ⟨hv, hH⟩, hI⟩ => ?_
  subst hv hH
  exact ⟨_, he, post_true laidOut_ (by kernel_rfl) (by kernel_rfl) rfl Tryd.underlying4 hW' hI.keep.below rfl⟩

theorem fnWholeSVCB_door (os : Os) (args : Array Value) : laidMetH Tryd.prog Rows.fnWholeSVCBUptoRow.laid ((World.doorLaid Tryd.prog 400 os).forCall (fun _ _ => 0) ⟨#[], args, []⟩).memory :=
  laidMet_of_run' 8 (by kernel_rfl) (by kernel_rfl)
theorem fnWholeSVCB_reads (os : Os) {H : Type} (enc : TypeId × Value → H) : ∃ (hs : List H) (places : List MemPlace), hs.length = 13 ∧ DataW.whole enc Tryd.prog ((World.doorLaid Tryd.prog 400 os).forCall (fun _ _ => 0) ⟨#[], #[(.agg #[.int .u16 0, .bool false, .int .u16 0, .bool false, .bool false, .bool false, .bool false, .bool false, .bool false, .int .u16 0]), (.agg #[.string ⟨#[]⟩, .int .u16 0, .int .u16 0, .int .u32 0, .int .u16 0, .int .i64 0, .slice none 0 0, .string ⟨#[]⟩, .string ⟨#[]⟩, .int .u32 0, .int .u32 0, .int .u32 0, .int .u32 0, .int .u32 0, .slice none 0 0, .slice none 0 0])], []⟩).memory Tryd.f8.params.toList Rows.fnWholeSVCBSpec.vars false #[(Value.agg #[.int .u16 0, .bool false, .int .u16 0, .bool false, .bool false, .bool false, .bool false, .bool false, .bool false, .int .u16 0]), (.agg #[.string ⟨#[]⟩, .int .u16 0, .int .u16 0, .int .u32 0, .int .u16 0, .int .i64 0, .slice none 0 0, .string ⟨#[]⟩, .string ⟨#[]⟩, .int .u32 0, .int .u32 0, .int .u32 0, .int .u32 0, .int .u32 0, .slice none 0 0, .slice none 0 0])].toList 8 = some ([(.agg [.lit (.int .u16 0), .lit (.bool false), .lit (.int .u16 0), .lit (.bool false), .lit (.bool false), .lit (.bool false), .lit (.bool false), .lit (.bool false), .lit (.bool false), .lit (.int .u16 0)]), (.agg [.lit (.string []), .lit (.int .u16 0), .lit (.int .u16 0), .lit (.int .u32 0), .lit (.int .u16 0), .lit (.int .i64 0), .nil, .lit (.string []), .lit (.string []), .lit (.int .u32 0), .lit (.int .u32 0), .lit (.int .u32 0), .lit (.int .u32 0), .lit (.int .u32 0), .nil, .nil])], hs.map .held, places) :=
  whole_ex (by kernel_rfl) (by kernel_rfl) (by kernel_rfl)

theorem fnWholeSVCB_lifted (os : Os) (started : os.Started) (H : Type) (enc : TypeId × Value → H) (F : Stop.Interp) :
    ReturnsInHanded {} Tryd.checked os 8 .any ((Rows.OpenSpec.upto Rows.fnWholeSVCBSpec).preRow enc Tryd.prog Tryd.f8 Rows.fnWholeSVCBUptoRow.domain false Rows.fnWholeSVCBUptoRow.laid) (((Rows.OpenSpec.upto Rows.fnWholeSVCBSpec).at F).post enc Tryd.prog Tryd.f8 false true false false) := by
  obtain ⟨hs, places, hn, hx⟩ := fnWholeSVCB_reads os enc
  match hs, hn with
  | [b0, b1, b2, b3, b4, b5, b6, b7, b8, b9, b10, b11, b12], _ =>
  refine returnsInHanded_of_row (C := Tryd.checked) (s := Rows.OpenSpec.upto Rows.fnWholeSVCBSpec) own_ started (by kernel_rfl) Tryd.func8
    (witness_row_at (enc := enc) (C := Tryd.checked) false (World.doorLaid Tryd.prog 400 os) #[(.agg #[.int .u16 0, .bool false, .int .u16 0, .bool false, .bool false, .bool false, .bool false, .bool false, .bool false, .int .u16 0]), (.agg #[.string ⟨#[]⟩, .int .u16 0, .int .u16 0, .int .u32 0, .int .u16 0, .int .i64 0, .slice none 0 0, .string ⟨#[]⟩, .string ⟨#[]⟩, .int .u32 0, .int .u32 0, .int .u32 0, .int .u32 0, .int .u32 0, .slice none 0 0, .slice none 0 0])] rfl (by kernel_rfl) (by kernel_rfl) (by kernel_rfl)
      (OpenSpec.preRow_of_cond 8 hx (by kernel_rfl) (fun k hk => by cases hk; kernel_rfl) (by kernel_rfl) (fnWholeSVCB_door os _))) ?_
  intro W base args ds gs before hval hW _ hc hwt hL _ _
  exact fnWholeSVCB_contract H enc W base args ds gs before hval hW hwt hL (hc _ rfl)

theorem fnWholeSVCB_closed : joinedFacts Tryd.pinned.checked.prog 8 Tryd.f8 (Rows.OpenSpec.upto Rows.fnWholeSVCBSpec).bare Rows.fnWholeSVCBUptoRow = true := by
  unfold joinedFacts
  simp only [Bool.and_eq_true]
  and_intros
  all_goals first | (with_reducible exact mayEnter_) | (rw [lifts_]; kernel_rfl) | (rw [make_]; kernel_rfl) | (as_aux_lemma => kernel_rfl)

theorem fnWholeSVCB_said : Rows.FnWholeSVCBUptoSaid :=
  OpenClaim.holds_of_cond 8 Tryd.f8 rfl rfl rfl rfl rfl rfl rfl ⟨rfl, rfl, rfl, rfl, rfl⟩ rfl rfl rfl rfl rfl (by kernel_rfl) Tryd.func8 fnWholeSVCB_closed
    (of_decide_eq_true (by kernel_rfl)) (by unfold Func.isWrapper; first | (rw [if_pos (by decide +kernel)]; kernel_rfl) | (rw [if_neg (by decide +kernel)]; exact ⟨rfl, rfl⟩))
    (fun os started H enc _ F => by rw [OpenClaim.pre_eq_preRow]; exact fnWholeSVCB_lifted os started H enc F)

theorem fnWholeSVCB_plain (f : FuncId) (fn : Func) (hf : Tryd.pinned.checked.prog.funcNamed "loop.example/pub-messagesbuilt/laws.FnWholeSVCB" = some f) (hfn : Tryd.pinned.checked.prog.funcs[f]? = some fn) :
    true = Tryd.pinned.checked.prog.looks [] ∧ ∀ (j : Nat) t, fn.params[j]? = some t → Tryd.pinned.checked.prog.wantsStandIn t = false := by
  obtain rfl : f = 8 := Option.some.inj ((show Tryd.prog.funcNamed "loop.example/pub-messagesbuilt/laws.FnWholeSVCB" = some 8 by kernel_rfl).symm.trans hf) |>.symm
  obtain rfl : fn = Tryd.f8 := (Option.some.inj (Tryd.func8.symm.trans hfn)).symm
  refine ⟨looks_, fun j t ht => ?_⟩
  rw [Tryd.params8] at ht
  have hall : ([24, 35].all fun t => !Tryd.prog.wantsStandIn t) = true := by kernel_rfl
  have := List.all_eq_true.1 hall t (Array.mem_toList_iff.2 (Array.mem_of_getElem? ht))
  have h2 : Tryd.prog.wantsStandIn t = false := by simpa using this
  exact h2

theorem fnWholeSVCB_card : Rows.FnWholeSVCBUptoCardSaid :=
  Claim7.holds_tied_plain_at .later [] _ _ _ _ fnWholeSVCB_said (fun _ h => by cases h) (by kernel_rfl) (fun _ h => by cases h) fnWholeSVCBUpto_row_tie rfl ⟨rfl, rfl⟩ main_ rfl fnWholeSVCB_plain (by kernel_rfl)
end Go.Proofs.YtamobccbioafmaaDoor
