/-
  Proved here: laws.FnAsks returns true for every header and every list of questions and leaves what it was given as it was. Conditions: those of the given row alone (the listed error variables start as the program's text lays them).
-/
import Derived.Test.YtdiememgbnplkaaDoorCardBase
import Derived.Test.YtdiememgbnplkaaDoorFnAsks
namespace Go.Proofs.YtdiememgbnplkaaDoor
open Go Go.ChangeShapes Go.WideShapes Go.ChangeAt Go.RowKit
set_option maxRecDepth 100000

theorem fnAsks_ge {W : World} (h : laidMetH Tryd.prog Rows.fnAsksRow.laid W) : ∃ G, GE G W [] := by
  have key : ∀ g, g < 10 → ∃ a, Cells W g 0 [.iface 147 (.pointer (some a))] := by
    intro g hg
    have hn := typeName_ptr_named (P := Tryd.prog) (nm := "errors.errorString") (tp := 147) (by kernel_rfl) (by kernel_rfl) (by decide)
    match g, hg with
    | 0, _ => exact laid_err "loop.example/pub-messagesbuilt/pub/dnsmessage.ErrNotStarted" (by kernel_rfl) h (by kernel_rfl) (t := 98) (by kernel_rfl) Tryd.underlying98 (List.mem_of_getElem? (i := 0) rfl) hn Tryd.underlying147
    | 1, _ => exact laid_err "loop.example/pub-messagesbuilt/pub/dnsmessage.ErrSectionDone" (by kernel_rfl) h (by kernel_rfl) (t := 98) (by kernel_rfl) Tryd.underlying98 (List.mem_of_getElem? (i := 1) rfl) hn Tryd.underlying147
    | 2, _ => exact laid_err "loop.example/pub-messagesbuilt/pub/dnsmessage.errTooManyQuestions" (by kernel_rfl) h (by kernel_rfl) (t := 98) (by kernel_rfl) Tryd.underlying98 (List.mem_of_getElem? (i := 5) rfl) hn Tryd.underlying147
    | 3, _ => exact laid_err "loop.example/pub-messagesbuilt/pub/dnsmessage.errTooManyAnswers" (by kernel_rfl) h (by kernel_rfl) (t := 98) (by kernel_rfl) Tryd.underlying98 (List.mem_of_getElem? (i := 6) rfl) hn Tryd.underlying147
    | 4, _ => exact laid_err "loop.example/pub-messagesbuilt/pub/dnsmessage.errTooManyAuthorities" (by kernel_rfl) h (by kernel_rfl) (t := 98) (by kernel_rfl) Tryd.underlying98 (List.mem_of_getElem? (i := 7) rfl) hn Tryd.underlying147
    | 5, _ => exact laid_err "loop.example/pub-messagesbuilt/pub/dnsmessage.errTooManyAdditionals" (by kernel_rfl) h (by kernel_rfl) (t := 98) (by kernel_rfl) Tryd.underlying98 (List.mem_of_getElem? (i := 8) rfl) hn Tryd.underlying147
    | 6, _ => exact laid_err "loop.example/pub-messagesbuilt/pub/dnsmessage.errNameTooLong" (by kernel_rfl) h (by kernel_rfl) (t := 98) (by kernel_rfl) Tryd.underlying98 (List.mem_of_getElem? (i := 3) rfl) hn Tryd.underlying147
    | 7, _ => exact laid_err "loop.example/pub-messagesbuilt/pub/dnsmessage.errNonCanonicalName" (by kernel_rfl) h (by kernel_rfl) (t := 98) (by kernel_rfl) Tryd.underlying98 (List.mem_of_getElem? (i := 9) rfl) hn Tryd.underlying147
    | 8, _ => exact laid_err "loop.example/pub-messagesbuilt/pub/dnsmessage.errSegTooLong" (by kernel_rfl) h (by kernel_rfl) (t := 98) (by kernel_rfl) Tryd.underlying98 (List.mem_of_getElem? (i := 2) rfl) hn Tryd.underlying147
    | 9, _ => exact laid_err "loop.example/pub-messagesbuilt/pub/dnsmessage.errZeroSegLen" (by kernel_rfl) h (by kernel_rfl) (t := 98) (by kernel_rfl) Tryd.underlying98 (List.mem_of_getElem? (i := 4) rfl) hn Tryd.underlying147
  refine ⟨fun g => if h : g < 10 then (key g h).choose else ⟨0, 0, none⟩, fun b hb => (by cases hb), fun g hg => ?_⟩
  have := (key g hg).choose_spec
  simp only [hg, dif_pos]
  exact this

theorem fnAsks_contract (H : Type) (enc : TypeId × Value → H) (W : World) (base : Nat) (args : Array Value) (ds gs : List (DataW H)) (before : List MemPlace)
    (hval : ∀ (j : Nat) t v, Tryd.f3.params[j]? = some t → args[j]? = some v → Value.okWide Tryd.prog W .any base t v)
    (hW : DataW.Whole enc Tryd.prog Tryd.f3.params.toList Rows.fnAsksSpec.vars false W args.toList ds gs before) (hwt : (DataW.weightsEach Tryd.prog (Tryd.f3.params.toList ++ (OpenSpec.ofChange Rows.fnAsksSpec).bare.plain.varTypes Tryd.prog) (ds ++ gs)).all (· ≤ reachBytes) = true) (hL : laidMetH Tryd.prog Rows.fnAsksRow.laid W) :
    Calls Tryd.prog 3 args W fun e W' => ∃ v, e = .returned v ∧ Rows.fnAsksSpec.post enc Tryd.prog Tryd.f3 false true false false W args v W' := by
  have hW' := hW
  obtain ⟨p, q, hA0, hV, rfl, hfz, hnd⟩ := hW
  have hA : DataW.TrodAll enc Tryd.prog W 0 (fun _ => true) true Tryd.f3.params.toList args.toList ds p := hA0
  rw [Tryd.params3] at hA hval hwt
  obtain ⟨v0, vs0, d0, ds0, p0, q0, hargs0, rfl, rfl, h0, r0⟩ := trodAll_cons hA
  obtain ⟨v1, vs1, d1, ds1, p1, q1, hargs1, rfl, rfl, h1, r1⟩ := trodAll_cons r0
  subst hargs1
  obtain ⟨rfl, rfl, rfl⟩ := trodAll_nil r1
  obtain rfl : args = #[v0, v1] := by cases args; simp_all
  have hgl := trodVars_len hV
  match gs, hgl with
  | [g0, g1, g2, g3, g4, g5, g6, g7, g8, g9], _ =>
  obtain ⟨n0, R0⟩ := Rd.of_trod hwt (j := 0) rfl rfl h0
  obtain ⟨c0, rfl, _⟩ := okWide_struct Tryd.underlying24 (hval 0 _ v0 rfl rfl)
  obtain ⟨a0, e0, w0⟩ := openHead R0
  obtain rfl : c0 = (hdCs a0).toArray := by rw [← e0]; rfl
  obtain ⟨n1, R1⟩ := Rd.of_trod hwt (j := 1) rfl rfl h1
  obtain ⟨pp1, pl1, pc1, hv1⟩ := okWide_slice Tryd.underlying25 (hval 1 _ v1 rfl rfl)
  have RR1 : Rd enc Tryd.prog W n1 25 [v1] d1 := by subst hv1; exact R1
  obtain ⟨a1, r1, l1, w1⟩ := openAsks RR1
  obtain ⟨G, hG⟩ := fnAsks_ge hL
  refine ((fnAsks_spec G a0 w0 a1 v1 w1 l1) W (Pre.nil W) (⟨hG, r1⟩)).mono fun e W' ⟨v, H', he, ⟨hv, hH⟩, hI⟩ => ?_
  subst hv hH
  exact ⟨_, he, post_true laidOut_ (by kernel_rfl) (by kernel_rfl) rfl Tryd.underlying4 hW' hI.keep.below rfl⟩

theorem fnAsks_door (os : Os) (args : Array Value) : laidMetH Tryd.prog Rows.fnAsksRow.laid ((World.doorLaid Tryd.prog 200 os).forCall (fun _ _ => 0) ⟨#[], args, []⟩).memory :=
  laidMet_of_run' 8 (by kernel_rfl) (by kernel_rfl)
theorem fnAsks_reads (os : Os) {H : Type} (enc : TypeId × Value → H) : ∃ (hs : List H) (places : List MemPlace), hs.length = 10 ∧ DataW.whole enc Tryd.prog ((World.doorLaid Tryd.prog 200 os).forCall (fun _ _ => 0) ⟨#[], #[(.agg #[.int .u16 0, .bool false, .int .u16 0, .bool false, .bool false, .bool false, .bool false, .bool false, .bool false, .int .u16 0]), (.slice none 0 0)], []⟩).memory Tryd.f3.params.toList Rows.fnAsksSpec.vars false #[(Value.agg #[.int .u16 0, .bool false, .int .u16 0, .bool false, .bool false, .bool false, .bool false, .bool false, .bool false, .int .u16 0]), (.slice none 0 0)].toList 8 = some ([(.agg [.lit (.int .u16 0), .lit (.bool false), .lit (.int .u16 0), .lit (.bool false), .lit (.bool false), .lit (.bool false), .lit (.bool false), .lit (.bool false), .lit (.bool false), .lit (.int .u16 0)]), (.nil)], hs.map .held, places) :=
  whole_ex (by kernel_rfl) (by kernel_rfl) (by kernel_rfl)

theorem fnAsks_lifted (os : Os) (started : os.Started) (H : Type) (enc : TypeId × Value → H) (F : Stop.Interp) :
    ReturnsInHanded {} Tryd.checked os 3 .any ((OpenSpec.ofChange Rows.fnAsksSpec).preRow enc Tryd.prog Tryd.f3 Rows.fnAsksRow.domain false Rows.fnAsksRow.laid) (((OpenSpec.ofChange Rows.fnAsksSpec).at F).post enc Tryd.prog Tryd.f3 false true false false) := by
  obtain ⟨hs, places, hn, hx⟩ := fnAsks_reads os enc
  match hs, hn with
  | [b0, b1, b2, b3, b4, b5, b6, b7, b8, b9], _ =>
  refine returnsInHanded_of_row (C := Tryd.checked) (s := OpenSpec.ofChange Rows.fnAsksSpec) own_ started (by kernel_rfl) Tryd.func3
    (witness_row_at (enc := enc) (C := Tryd.checked) false (World.doorLaid Tryd.prog 200 os) #[(.agg #[.int .u16 0, .bool false, .int .u16 0, .bool false, .bool false, .bool false, .bool false, .bool false, .bool false, .int .u16 0]), (.slice none 0 0)] rfl (by kernel_rfl) (by kernel_rfl) (by kernel_rfl)
      (OpenSpec.preRow_of_cond 8 hx (by kernel_rfl) (fun k hk => by cases hk) (by kernel_rfl) (fnAsks_door os _))) ?_
  intro W base args ds gs before hval hW _ _ hwt hL _ _
  exact fnAsks_contract H enc W base args ds gs before hval hW hwt hL

theorem fnAsks_said : Rows.FnAsksSaid :=
  OpenClaim.holds_of_cond 3 Tryd.f3 rfl rfl rfl rfl rfl rfl rfl ⟨rfl, rfl, rfl, rfl, rfl⟩ rfl rfl rfl rfl rfl (by kernel_rfl) Tryd.func3 (by kernel_rfl)
    (of_decide_eq_true (by kernel_rfl)) (by unfold Func.isWrapper; first | (rw [if_pos (by decide +kernel)]; kernel_rfl) | (rw [if_neg (by decide +kernel)]; exact ⟨rfl, rfl⟩))
    (fun os started H enc _ F => by rw [OpenClaim.pre_eq_preRow]; exact fnAsks_lifted os started H enc F)

theorem fnAsks_plain (f : FuncId) (fn : Func) (hf : Tryd.pinned.checked.prog.funcNamed "loop.example/pub-messagesbuilt/laws.FnAsks" = some f) (hfn : Tryd.pinned.checked.prog.funcs[f]? = some fn) :
    true = Tryd.pinned.checked.prog.looks [] ∧ ∀ (j : Nat) t, fn.params[j]? = some t → Tryd.pinned.checked.prog.wantsStandIn t = false := by
  obtain rfl : f = 3 := Option.some.inj ((show Tryd.prog.funcNamed "loop.example/pub-messagesbuilt/laws.FnAsks" = some 3 by kernel_rfl).symm.trans hf) |>.symm
  obtain rfl : fn = Tryd.f3 := (Option.some.inj (Tryd.func3.symm.trans hfn)).symm
  refine ⟨by kernel_rfl, fun j t ht => ?_⟩
  rw [Tryd.params3] at ht
  have hall : ([24, 25].all fun t => !Tryd.prog.wantsStandIn t) = true := by kernel_rfl
  have := List.all_eq_true.1 hall t (Array.mem_toList_iff.2 (Array.mem_of_getElem? ht))
  have h2 : Tryd.prog.wantsStandIn t = false := by simpa using this
  exact h2

theorem fnAsks_card : Rows.FnAsksCardSaid :=
  Claim7.holds_tied_plain_at .later [] _ _ _ _ fnAsks_said (fun _ h => by cases h) (by kernel_rfl) (fun _ h => by cases h) fnAsks_row_tie rfl ⟨rfl, rfl⟩ (by kernel_rfl) rfl fnAsks_plain (by kernel_rfl)
end Go.Proofs.YtdiememgbnplkaaDoor
