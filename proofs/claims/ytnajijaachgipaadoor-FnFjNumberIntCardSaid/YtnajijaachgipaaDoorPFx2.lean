-- Written by a program of this session out of the translation (a changed copy of the kit's print); Lean checks it.
import Derived.Test.YtnajijaachgipaaDoorPFx0
namespace Go.Proofs.YtnajijaachgipaaDoor.PF
open Go.RowKit Go.Proofs.YtnajijaachgipaaDoorW.PrintWords Go.Proofs.YtnajijaachgipaaDoorW.PrintLast Go.Proofs.YtnajijaachgipaaDoorW.PrintMore
attribute [local go_sem] max2_int min2_int max_two min_two max_three min_three max_four min_four   -- for this text's walks alone
set_option linter.unusedVariables false
set_option linter.unusedSimpArgs false

def tabG1 : List Unit := [()]
theorem tabG1_len : (tabG1.length : Int) = 1 := rfl
end Go.Proofs.YtnajijaachgipaaDoor.PF
