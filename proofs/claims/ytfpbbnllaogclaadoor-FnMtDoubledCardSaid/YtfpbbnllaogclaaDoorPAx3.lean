-- Written by a program of this session out of the translation (a changed copy of the kit's print); Lean checks it.
import Derived.Test.YtfpbbnllaogclaaDoorPAx0
namespace Go.Proofs.YtfpbbnllaogclaaDoor.PA
open Go.RowKit Go.Proofs.YtfpbbnllaogclaaDoorW.PrintWords Go.Proofs.YtfpbbnllaogclaaDoorW.PrintLast Go.Proofs.YtfpbbnllaogclaaDoorW.PrintMore
attribute [local go_sem] max2_int min2_int max_two min_two max_three min_three max_four min_four   -- for this text's walks alone
set_option linter.unusedVariables false
set_option linter.unusedSimpArgs false

def tabG5 : List (S159) := [⟨128, 191⟩, ⟨160, 191⟩, ⟨128, 159⟩, ⟨144, 191⟩, ⟨128, 143⟩, ⟨0, 0⟩, ⟨0, 0⟩, ⟨0, 0⟩, ⟨0, 0⟩, ⟨0, 0⟩, ⟨0, 0⟩, ⟨0, 0⟩, ⟨0, 0⟩, ⟨0, 0⟩, ⟨0, 0⟩, ⟨0, 0⟩]
set_option maxRecDepth 100000 in
theorem tabG5_len : (tabG5.length : Int) = 16 := rfl
end Go.Proofs.YtfpbbnllaogclaaDoor.PA
