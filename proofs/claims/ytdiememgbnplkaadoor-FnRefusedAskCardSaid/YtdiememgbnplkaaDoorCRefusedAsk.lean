/-
  Proved here: laws.FnRefusedAsk returns true for every header, every text and every question and leaves what it was given as it was. Conditions: those of the given row alone (the listed error variables start as the program's text lays them).
-/
import Derived.Test.YtdiememgbnplkaaDoorCardBase
import Derived.Test.YtdiememgbnplkaaDoorAskLaws
namespace Go.Proofs.YtdiememgbnplkaaDoor
open Go Go.ChangeShapes Go.WideShapes Go.ChangeAt Go.RowKit
set_option maxRecDepth 100000

theorem fnRefusedAsk_ge {W : World} (h : laidMetH Tryd.prog Rows.fnRefusedAskRow.laid W) : ∃ G, GE G W [] := by
  have key : ∀ g, g < 10 → ∃ a, Cells W g 0 [.iface 147 (.pointer (some a))] := by
    intro g hg
    have hn := typeName_ptr_named (P := Tryd.prog) (nm := "errors.errorString") (tp := 147) (by kernel_rfl) (by kernel_rfl) (by decide)
    match g, hg with
    | 0, _ => exact laid_err "loop.example/pub-messagesbuilt/pub/dnsmessage.ErrNotStarted" (by kernel_rfl) h (by kernel_rfl) (t := 98) (by kernel_rfl) Tryd.underlying98 (List.mem_of_getElem? (i := 0) rfl) hn Tryd.underlying147
    | 1, _ => exact laid_err "loop.example/pub-messagesbuilt/pub/dnsmessage.ErrSectionDone" (by kernel_rfl) h (by kernel_rfl) (t := 98) (by kernel_rfl) Tryd.underlying98 (List.mem_of_getElem? (i := 1) rfl) hn Tryd.underlying147
    | 2, _ => exact laid_err "loop.example/pub-messagesbuilt/pub/dnsmessage.errTooManyQuestions" (by kernel_rfl) h (by kernel_rfl) (t := 98) (by kernel_rfl) Tryd.underlying98 (List.mem_of_getElem? (i := 5) rfl) hn Tryd.underlying147
    | 3, _ => exact laid_err "loop.example/pub-messagesbuilt/pub/dnsmessage.errTooManyAnswers" (by kernel_rfl) h (by kernel_rfl) (t := 98) (by kernel_rfl) Tryd.underlying98 (List.mem_of_getElem? (i := 6) rfl) hn Tryd.underlying147
    | 4, _ => exact laid_err "loop.example/pub-messagesbuilt/pub/dnsmessage.errTooManyAuthorities" (by kernel_rfl) h (by kernel_rfl) (t := 98) (by kernel_rfl) Tryd.underlying98 (List.mem_of_getElem? (i := 7) rfl) hn Tryd.underlying147
    | 5, _ => exact laid_err "loop.example/pub-messagesbuilt/pub/dnsmessage.errTooManyAdditionals" (by kernel_rfl) h (by kernel_rfl) (t := 98) (by kernel_rfl) Tryd.underlying98 (List.mem_of_getElem? (i := 8) rfl) hn Tryd.underlying147
    | 6, _ => exact laid_err "loop.example/pub-messagesbuilt/pub/dnsmessage.errNameTooLong" (by kernel_rfl) h (by kernel_rfl) (t := 98) (by kernel_rfl) Tryd.underlying98 (List.mem_of_getElem? (i := 3) rfl) hn Tryd.underlying147
    | 7, _ => exact laid_err "loop.example/pub-messagesbuilt/pub/dnsmessage.errNonCanonicalName" (by kernel_rfl) h (by kernel_rfl) (t := 98) (by kernel_rfl) Tryd.underlying98 (List.mem_of_getElem? (i := 9) rfl) hn Tryd.underlying147
    | 8, _ => exact laid_err "loop.example/pub-messagesbuilt/pub/dnsmessage.errSegTooLong" (by kernel_rfl) h (by kernel_rfl) (t := 98) (by kernel_rfl) Tryd.underlying98 (List.mem_of_getElem? (i := 2) rfl) hn Tryd.underlying147
    | 9, _ => exact laid_err "loop.example/pub-messagesbuilt/pub/dnsmessage.errZeroSegLen" (by kernel_rfl) h (by kernel_rfl) (t := 98) (by kernel_rfl) Tryd.underlying98 (List.mem_of_getElem? (i := 4) rfl) hn Tryd.underlying147
  refine ⟨fun g => if h : g < 10 then (key g h).choose else ⟨0, 0, none⟩, fun b hb => (by cases hb), fun g hg => ?_⟩
  have := (key g hg).choose_spec
  simp only [hg, dif_pos]
  exact this

theorem fnRefusedAsk_contract (H : Type) (enc : TypeId × Value → H) (W : World) (base : Nat) (args : Array Value) (ds gs : List (DataW H)) (before : List MemPlace)
    (hval : ∀ (j : Nat) t v, Tryd.f11.params[j]? = some t → args[j]? = some v → Value.okWide Tryd.prog W .any base t v)
    (hW : DataW.Whole enc Tryd.prog Tryd.f11.params.toList Rows.fnRefusedAskSpec.vars false W args.toList ds gs before) (hwt : (DataW.weightsEach Tryd.prog (Tryd.f11.params.toList ++ (OpenSpec.ofChange Rows.fnRefusedAskSpec).bare.plain.varTypes Tryd.prog) (ds ++ gs)).all (· ≤ reachBytes) = true) (hL : laidMetH Tryd.prog Rows.fnRefusedAskRow.laid W) :
    Calls Tryd.prog 11 args W fun e W' => ∃ v, e = .returned v ∧ Rows.fnRefusedAskSpec.post enc Tryd.prog Tryd.f11 false true false false W args v W' := by
  have hW' := hW
  obtain ⟨p, q, hA0, hV, rfl, hfz, hnd⟩ := hW
  have hA : DataW.TrodAll enc Tryd.prog W 0 (fun _ => true) true Tryd.f11.params.toList args.toList ds p := hA0
  rw [Tryd.params11] at hA hval hwt
  obtain ⟨v0, vs0, d0, ds0, p0, q0, hargs0, rfl, rfl, h0, r0⟩ := trodAll_cons hA
  obtain ⟨v1, vs1, d1, ds1, p1, q1, hargs1, rfl, rfl, h1, r1⟩ := trodAll_cons r0
  subst hargs1
  obtain ⟨v2, vs2, d2, ds2, p2, q2, hargs2, rfl, rfl, h2, r2⟩ := trodAll_cons r1
  subst hargs2
  obtain ⟨rfl, rfl, rfl⟩ := trodAll_nil r2
  obtain rfl : args = #[v0, v1, v2] := by cases args; simp_all
  have hgl := trodVars_len hV
  match gs, hgl with
  | [g0, g1, g2, g3, g4, g5, g6, g7, g8, g9], _ =>
  obtain ⟨n0, R0⟩ := Rd.of_trod hwt (j := 0) rfl rfl h0
  obtain ⟨c0, rfl, _⟩ := okWide_struct Tryd.underlying24 (hval 0 _ v0 rfl rfl)
  obtain ⟨a0, e0, w0⟩ := openHead R0
  obtain rfl : c0 = (hdCs a0).toArray := by rw [← e0]; rfl
  obtain ⟨n1, R1⟩ := Rd.of_trod hwt (j := 1) rfl rfl h1
  obtain ⟨x1, rfl⟩ := okWide_string Tryd.underlying9 (hval 1 _ v1 rfl rfl)
  obtain ⟨a1, e1, w1⟩ := R1.string Tryd.underlying9
  obtain ⟨e1, _⟩ := List.cons.inj e1
  injection e1 with e1
  have e1 := e1.symm
  subst e1
  obtain ⟨n2, R2⟩ := Rd.of_trod hwt (j := 2) rfl rfl h2
  obtain ⟨c2, rfl, _⟩ := okWide_struct Tryd.underlying41 (hval 2 _ v2 rfl rfl)
  obtain ⟨a2, e2, w2⟩ := openAsk R2
  obtain rfl : c2 = (AskD.cells a2).toArray := by rw [← e2]; rfl
  obtain ⟨G, hG⟩ := fnRefusedAsk_ge hL
  refine ((fnRefusedAsk_spec G a0 w0 a1 (Nat.le_trans w1 (Nat.le_of_ble_eq_true rfl)) a2 w2) W (Pre.nil W) (hG)).mono fun e W' ⟨v, H', he, ⟨hv, hH⟩, hI⟩ => ?_
  subst hv hH
  exact ⟨_, he, post_true laidOut_ (by kernel_rfl) (by kernel_rfl) rfl Tryd.underlying4 hW' hI.keep.below rfl⟩

theorem fnRefusedAsk_door (os : Os) (args : Array Value) : laidMetH Tryd.prog Rows.fnRefusedAskRow.laid ((World.doorLaid Tryd.prog 200 os).forCall (fun _ _ => 0) ⟨#[], args, []⟩).memory :=
  laidMet_of_run' 8 (by kernel_rfl) (by kernel_rfl)
theorem fnRefusedAsk_reads (os : Os) {H : Type} (enc : TypeId × Value → H) : ∃ (hs : List H) (places : List MemPlace), hs.length = 10 ∧ DataW.whole enc Tryd.prog ((World.doorLaid Tryd.prog 200 os).forCall (fun _ _ => 0) ⟨#[], #[(.agg #[.int .u16 0, .bool false, .int .u16 0, .bool false, .bool false, .bool false, .bool false, .bool false, .bool false, .int .u16 0]), (.string ⟨#[]⟩), (.agg #[.string ⟨#[]⟩, .int .u16 0, .int .u16 0])], []⟩).memory Tryd.f11.params.toList Rows.fnRefusedAskSpec.vars false #[(Value.agg #[.int .u16 0, .bool false, .int .u16 0, .bool false, .bool false, .bool false, .bool false, .bool false, .bool false, .int .u16 0]), (.string ⟨#[]⟩), (.agg #[.string ⟨#[]⟩, .int .u16 0, .int .u16 0])].toList 8 = some ([(.agg [.lit (.int .u16 0), .lit (.bool false), .lit (.int .u16 0), .lit (.bool false), .lit (.bool false), .lit (.bool false), .lit (.bool false), .lit (.bool false), .lit (.bool false), .lit (.int .u16 0)]), (.lit (.string [])), (.agg [.lit (.string []), .lit (.int .u16 0), .lit (.int .u16 0)])], hs.map .held, places) :=
  whole_ex (by kernel_rfl) (by kernel_rfl) (by kernel_rfl)

theorem fnRefusedAsk_lifted (os : Os) (started : os.Started) (H : Type) (enc : TypeId × Value → H) (F : Stop.Interp) :
    ReturnsInHanded {} Tryd.checked os 11 .any ((OpenSpec.ofChange Rows.fnRefusedAskSpec).preRow enc Tryd.prog Tryd.f11 Rows.fnRefusedAskRow.domain false Rows.fnRefusedAskRow.laid) (((OpenSpec.ofChange Rows.fnRefusedAskSpec).at F).post enc Tryd.prog Tryd.f11 false true false false) := by
  obtain ⟨hs, places, hn, hx⟩ := fnRefusedAsk_reads os enc
  match hs, hn with
  | [b0, b1, b2, b3, b4, b5, b6, b7, b8, b9], _ =>
  refine returnsInHanded_of_row (C := Tryd.checked) (s := OpenSpec.ofChange Rows.fnRefusedAskSpec) own_ started (by kernel_rfl) Tryd.func11
    (witness_row_at (enc := enc) (C := Tryd.checked) false (World.doorLaid Tryd.prog 200 os) #[(.agg #[.int .u16 0, .bool false, .int .u16 0, .bool false, .bool false, .bool false, .bool false, .bool false, .bool false, .int .u16 0]), (.string ⟨#[]⟩), (.agg #[.string ⟨#[]⟩, .int .u16 0, .int .u16 0])] rfl (by kernel_rfl) (by kernel_rfl) (by kernel_rfl)
      (OpenSpec.preRow_of_cond 8 hx (by kernel_rfl) (fun k hk => by cases hk) (by kernel_rfl) (fnRefusedAsk_door os _))) ?_
  intro W base args ds gs before hval hW _ _ hwt hL _ _
  exact fnRefusedAsk_contract H enc W base args ds gs before hval hW hwt hL

theorem fnRefusedAsk_said : Rows.FnRefusedAskSaid :=
  OpenClaim.holds_of_cond 11 Tryd.f11 rfl rfl rfl rfl rfl rfl rfl ⟨rfl, rfl, rfl, rfl, rfl⟩ rfl rfl rfl rfl rfl (by kernel_rfl) Tryd.func11 (by kernel_rfl)
    (of_decide_eq_true (by kernel_rfl)) (by unfold Func.isWrapper; first | (rw [if_pos (by decide +kernel)]; kernel_rfl) | (rw [if_neg (by decide +kernel)]; exact ⟨rfl, rfl⟩))
    (fun os started H enc _ F => by rw [OpenClaim.pre_eq_preRow]; exact fnRefusedAsk_lifted os started H enc F)

theorem fnRefusedAsk_plain (f : FuncId) (fn : Func) (hf : Tryd.pinned.checked.prog.funcNamed "loop.example/pub-messagesbuilt/laws.FnRefusedAsk" = some f) (hfn : Tryd.pinned.checked.prog.funcs[f]? = some fn) :
    true = Tryd.pinned.checked.prog.looks [] ∧ ∀ (j : Nat) t, fn.params[j]? = some t → Tryd.pinned.checked.prog.wantsStandIn t = false := by
  obtain rfl : f = 11 := Option.some.inj ((show Tryd.prog.funcNamed "loop.example/pub-messagesbuilt/laws.FnRefusedAsk" = some 11 by kernel_rfl).symm.trans hf) |>.symm
  obtain rfl : fn = Tryd.f11 := (Option.some.inj (Tryd.func11.symm.trans hfn)).symm
  refine ⟨by kernel_rfl, fun j t ht => ?_⟩
  rw [Tryd.params11] at ht
  have hall : ([24, 9, 41].all fun t => !Tryd.prog.wantsStandIn t) = true := by kernel_rfl
  have := List.all_eq_true.1 hall t (Array.mem_toList_iff.2 (Array.mem_of_getElem? ht))
  have h2 : Tryd.prog.wantsStandIn t = false := by simpa using this
  exact h2

theorem fnRefusedAsk_card : Rows.FnRefusedAskCardSaid :=
  Claim7.holds_tied_plain_at .later [] _ _ _ _ fnRefusedAsk_said (fun _ h => by cases h) (by kernel_rfl) (fun _ h => by cases h) fnRefusedAsk_row_tie rfl ⟨rfl, rfl⟩ (by kernel_rfl) rfl fnRefusedAsk_plain (by kernel_rfl)
end Go.Proofs.YtdiememgbnplkaaDoor
