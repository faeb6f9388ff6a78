/-
  The laws of TXT records that build without compression: their walks.
-/
import Derived.Test.YtbfopgnhdelioaaDoorBg
import Derived.Test.YtbfopgnhdelioaaDoorHATXT
import Derived.Test.YtbfopgnhdelioaaDoorHKTXT
namespace Go.Proofs.YtbfopgnhdelioaaDoor
open Go
set_option maxRecDepth 100000

theorem stable_TXT : txtK.Stable 7 := fun _ _ => ⟨rfl, rfl, rfl⟩
theorem build_TXT : BuildMeets txtAdder 7 := fun G h hw pre bufV stepsV ss hn hpre hok => buildTXT_spec G h hw pre bufV stepsV ss hn hpre hok
theorem txt_pok {x : RecD} (h1 : shortT x.texts = true) (h2 : (textsW x.texts).length < 65536) : shortT x.texts = true ∧ (textsW x.texts).length ≤ 4398046511104 := ⟨h1, by omega⟩
theorem good_TXT {x : RecD} (hwf : x.wf) (hok : txtK.recOk x = true) : GoodFor txtK txtAdder x :=
  good_for hwf (okn_TXT hok).1 rfl (okn_TXT hok).2.2.2 (txt_pok (okn_TXT hok).2.1 (okn_TXT hok).2.2.2) fun base m => by
    show txtP base false x.texts m = _
    rw [txtP, if_pos (okn_TXT hok).2.1]
    rfl
end Go.Proofs.YtbfopgnhdelioaaDoor
