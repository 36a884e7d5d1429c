-- Written by a program of this session out of the translation (a changed copy of the kit's print); Lean checks it.
import Derived.Test.YtfpbbnllaogclaaDoorPJx0
namespace Go.Proofs.YtfpbbnllaogclaaDoor.PJ
open Go.RowKit Go.Proofs.YtfpbbnllaogclaaDoorW.PrintWords Go.Proofs.YtfpbbnllaogclaaDoorW.PrintLast Go.Proofs.YtfpbbnllaogclaaDoorW.PrintMore
attribute [local go_sem] max2_int min2_int max_two min_two max_three min_three max_four min_four   -- for this text's walks alone
set_option linter.unusedVariables false
set_option linter.unusedSimpArgs false

def tabG0 : List Unit := [()]
theorem tabG0_len : (tabG0.length : Int) = 1 := rfl
end Go.Proofs.YtfpbbnllaogclaaDoor.PJ
