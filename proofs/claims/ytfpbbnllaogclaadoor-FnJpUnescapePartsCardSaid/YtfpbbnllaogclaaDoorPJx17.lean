-- Written by a program of this session out of the translation (a changed copy of the kit's print); Lean checks it.
import Derived.Test.YtfpbbnllaogclaaDoorPJx0
namespace Go.Proofs.YtfpbbnllaogclaaDoor.PJ
open Go.RowKit Go.Proofs.YtfpbbnllaogclaaDoorW.PrintWords Go.Proofs.YtfpbbnllaogclaaDoorW.PrintLast Go.Proofs.YtfpbbnllaogclaaDoorW.PrintMore
attribute [local go_sem] max2_int min2_int max_two min_two max_three min_three max_four min_four   -- for this text's walks alone
set_option linter.unusedVariables false
set_option linter.unusedSimpArgs false

/-! ### jsonparser_combineUTF16Surrogates: function 111 -/
def jsonparser_combineUTF16Surrogates.f (a0 : Int) (a1 : Int) : Option (Int) := some (wrap32 ((wrap32 (65536 + (wrap32 ((wrap32 (a0 - 55296)) * 1024)))) + (wrap32 (a1 - 56320))))
set_option maxHeartbeats 8000000 in
set_option maxRecDepth 100000 in
theorem jsonparser_combineUTF16Surrogates.calls (a0 : Int) (a1 : Int) (r : Int) (w : World) (h : jsonparser_combineUTF16Surrogates.f a0 a1 = some r) :
    Calls Tryd.prog 111 #[.int .i32 a0, .int .i32 a1] w fun e w' => e = .returned (.int .i32 r) ∧ Drawn0 w w' := by
  have H : (some (wrap32 ((wrap32 (65536 + (wrap32 ((wrap32 (a0 - 55296)) * 1024)))) + (wrap32 (a1 - 56320))))) = some r := h
  clear h
  obtain rfl := Option.some.inj H
  go_enter Tryd.func111, Tryd.ntmps111
  go_wp2
  go_ret
  exact ⟨by first | rfl | (simp; done) | (simp [*]; done), by repeat (first | exact Drawn0.refl _ | apply Drawn0.step)⟩

end Go.Proofs.YtfpbbnllaogclaaDoor.PJ
