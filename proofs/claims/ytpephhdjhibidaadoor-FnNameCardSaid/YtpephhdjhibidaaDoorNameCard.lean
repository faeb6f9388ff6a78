/-
  Proved here: laws.FnName returns true for every string and leaves it as it was. Conditions: those of the given row alone (the listed error variable starts as the program's text lays it).
-/
import Derived.Test.YtpephhdjhibidaaDoorCards
import Derived.Test.YtpephhdjhibidaaDoorTie
import Derived.Test.YtpephhdjhibidaaDoorNameLaw
import Derived.Test.YtpephhdjhibidaaDoorClose
namespace Go.Proofs.YtpephhdjhibidaaDoor
open Go Go.ChangeShapes Go.WideShapes Go.ChangeAt Go.RowKit
set_option maxRecDepth 100000

theorem own_ : ownKnob Tryd.prog.godebug = none := by kernel_rfl
theorem laidOut_ : laidOutB Tryd.prog = true := by kernel_rfl

theorem err_of_laid {W : World} (h : laidMetH Tryd.prog Rows.fnNameRow.laid W) : ∃ t e, Cells W 0 0 [.iface t e] := by
  obtain ⟨u, v, hc, _⟩ := laid_iface' "loop.example/pub-messagesbuilt/pub/dnsmessage.errCalcLen" (by kernel_rfl) h (g := 0) (by kernel_rfl) (t := 30) (by kernel_rfl) Tryd.underlying30 (List.mem_singleton.2 rfl)
  exact ⟨u, v, hc⟩

theorem contract (H : Type) (enc : TypeId × Value → H) (W : World) (base : Nat) (args : Array Value) (ds gs : List (DataW H)) (before : List MemPlace)
    (hval : ∀ (j : Nat) t v, Tryd.f3.params[j]? = some t → args[j]? = some v → Value.okWide Tryd.prog W .any base t v)
    (hW : DataW.Whole enc Tryd.prog Tryd.f3.params.toList Rows.fnNameSpec.vars false W args.toList ds gs before) (hL : laidMetH Tryd.prog Rows.fnNameRow.laid W) :
    Calls Tryd.prog 3 args W fun e W' => ∃ v, e = .returned v ∧ Rows.fnNameSpec.post enc Tryd.prog Tryd.f3 false true false false W args v W' := by
  have hW' := hW
  obtain ⟨p, q, hA0, hV, rfl, hfz, hnd⟩ := hW
  have hA : DataW.TrodAll enc Tryd.prog W 0 (fun _ => true) true Tryd.f3.params.toList args.toList ds p := hA0
  rw [Tryd.params3] at hA hval
  obtain ⟨v0, vs0, d0, ds0, p0, q0, hargs, rfl, rfl, h0, r0⟩ := trodAll_cons hA
  obtain ⟨rfl, rfl, rfl⟩ := trodAll_nil r0
  obtain rfl : args = #[v0] := by cases args; simp_all
  obtain ⟨s, rfl, rfl, rfl, hs⟩ := Go.ChangeMaps.open_string Tryd.underlying9 (hval 0 9 v0 rfl rfl) h0
  obtain ⟨g1, rfl⟩ : ∃ g, gs = [g] := by
    match gs, hV with
    | [g], _ => exact ⟨g, rfl⟩
    | _ :: _ :: _, h =>
      obtain ⟨_, _, _, _, _, _, _, _, _, _, h, _⟩ := h
      exact h.elim
  refine (fnName_spec s (Nat.le_trans hs (by decide)) W (Pre.nil W) (err_of_laid hL)).mono fun e W' ⟨v, H', he, ⟨hv, hH⟩, hI⟩ => ?_
  subst hv hH
  exact ⟨_, he, post_true laidOut_ (by kernel_rfl) (by kernel_rfl) rfl Tryd.underlying4 hW' hI.keep.below rfl⟩

theorem door_met (os : Os) (args : Array Value) : laidMetH Tryd.prog Rows.fnNameRow.laid ((World.doorLaid Tryd.prog 200 os).forCall (fun _ _ => 0) ⟨#[], args, []⟩).memory :=
  laidMet_of_run' 8 (by kernel_rfl) (by kernel_rfl)
theorem reads (os : Os) {H : Type} (enc : TypeId × Value → H) : ∃ (hs : List H) (places : List MemPlace), hs.length = 1 ∧ DataW.whole enc Tryd.prog ((World.doorLaid Tryd.prog 200 os).forCall (fun _ _ => 0) ⟨#[], #[.string ⟨#[]⟩], []⟩).memory Tryd.f3.params.toList Rows.fnNameSpec.vars false #[Value.string ⟨#[]⟩].toList 8 = some ([.lit (.string [])], hs.map .held, places) :=
  whole_ex (by kernel_rfl) (by kernel_rfl) (by kernel_rfl)

theorem lifted (os : Os) (started : os.Started) (H : Type) (enc : TypeId × Value → H) (F : Stop.Interp) :
    ReturnsInHanded {} Tryd.checked os 3 .any ((OpenSpec.ofChange Rows.fnNameSpec).preRow enc Tryd.prog Tryd.f3 Rows.fnNameRow.domain false Rows.fnNameRow.laid) (((OpenSpec.ofChange Rows.fnNameSpec).at F).post enc Tryd.prog Tryd.f3 false true false false) := by
  obtain ⟨hs, places, hn, hx⟩ := reads os enc
  obtain ⟨a, rfl⟩ := List.length_eq_one_iff.1 hn
  refine returnsInHanded_of_row (C := Tryd.checked) (s := OpenSpec.ofChange Rows.fnNameSpec) own_ started (by kernel_rfl) Tryd.func3
    (witness_row_at (enc := enc) (C := Tryd.checked) false (World.doorLaid Tryd.prog 200 os) #[.string ⟨#[]⟩] rfl (by kernel_rfl) (by kernel_rfl) (by kernel_rfl)
      (OpenSpec.preRow_of_cond 8 hx (by kernel_rfl) (fun k hk => by cases hk) (by kernel_rfl) (door_met os _))) ?_
  intro W base args ds gs before hval hW _ _ _ hL _ _
  exact contract H enc W base args ds gs before hval hW hL

theorem said : Rows.FnNameSaid :=
  OpenClaim.holds_of_cond 3 Tryd.f3 rfl rfl rfl rfl rfl rfl rfl ⟨rfl, rfl, rfl, rfl, rfl⟩ rfl rfl rfl rfl rfl (by kernel_rfl) Tryd.func3 (by kernel_rfl)
    (of_decide_eq_true (by kernel_rfl)) (by unfold Func.isWrapper; first | (rw [if_pos (by decide +kernel)]; kernel_rfl) | (rw [if_neg (by decide +kernel)]; exact ⟨rfl, rfl⟩))
    (fun os started H enc _ F => by rw [OpenClaim.pre_eq_preRow]; exact lifted os started H enc F)

theorem plain_ (f : FuncId) (fn : Func) (hf : Tryd.pinned.checked.prog.funcNamed "loop.example/pub-messagesbuilt/laws.FnName" = some f) (hfn : Tryd.pinned.checked.prog.funcs[f]? = some fn) :
    false = Tryd.pinned.checked.prog.looks [] ∧ ∀ (j : Nat) t, fn.params[j]? = some t → Tryd.pinned.checked.prog.wantsStandIn t = false := by
  obtain rfl : f = 3 := Option.some.inj ((show Tryd.prog.funcNamed "loop.example/pub-messagesbuilt/laws.FnName" = some 3 by kernel_rfl).symm.trans hf) |>.symm
  obtain rfl : fn = Tryd.f3 := (Option.some.inj (Tryd.func3.symm.trans hfn)).symm
  refine ⟨by kernel_rfl, fun j t ht => ?_⟩
  rw [Tryd.params3] at ht
  obtain rfl : t = 9 := by simpa using Array.mem_of_getElem? ht
  exact (show Tryd.prog.wantsStandIn 9 = false by kernel_rfl)

theorem fnName_card : Rows.FnNameCardSaid :=
  Claim7.holds_tied_plain_at .later [] _ _ _ _ said (fun _ h => by cases h) (by kernel_rfl) (fun _ h => by cases h) fnName_row_tie rfl ⟨rfl, rfl⟩ (by kernel_rfl) rfl plain_ (by kernel_rfl)
end Go.Proofs.YtpephhdjhibidaaDoor
