-- Written by a program of this session out of the translation (a changed copy of the kit's print); Lean checks it.
import Derived.Test.YtdndddembndnhaaDoorPAx0
namespace Go.Proofs.YtdndddembndnhaaDoor.PA
open Go.RowKit Go.Proofs.YtdndddembndnhaaDoorW.PrintWords Go.Proofs.YtdndddembndnhaaDoorW.PrintLast Go.Proofs.YtdndddembndnhaaDoorW.PrintMore
attribute [local go_sem] max2_int min2_int max_two min_two max_three min_three max_four min_four   -- for this text's walks alone
set_option linter.unusedVariables false
set_option linter.unusedSimpArgs false

/-! ### gjson_escapeHTML: function 11 -/
def gjson_escapeHTML.f  : Option (Bool) := some true
set_option maxHeartbeats 8000000 in
set_option maxRecDepth 100000 in
theorem gjson_escapeHTML.calls  (r : Bool) (w : World) (h : gjson_escapeHTML.f  = some r) :
    Calls Tryd.prog 11 #[] w fun e w' => e = .returned (.bool r) ∧ Drawn0 w w' := by
  have H : (some true) = some r := h
  clear h
  as_aux_lemma =>
    obtain rfl := Option.some.inj H
    go_enter Tryd.func11, Tryd.ntmps11
    go_wp2
    go_ret
    exact ⟨by first | rfl | (simp; done) | (simp [*]; done), by repeat (first | exact Drawn0.refl _ | apply Drawn0.step)⟩

end Go.Proofs.YtdndddembndnhaaDoor.PA
