-- Written by a program of this session out of the translation (a changed copy of the kit's print); Lean checks it.
import Derived.Test.YtdndddembndnhaaDoorPAx0
namespace Go.Proofs.YtdndddembndnhaaDoor.PA
open Go.RowKit Go.Proofs.YtdndddembndnhaaDoorW.PrintWords Go.Proofs.YtdndddembndnhaaDoorW.PrintLast Go.Proofs.YtdndddembndnhaaDoorW.PrintMore
attribute [local go_sem] max2_int min2_int max_two min_two max_three min_three max_four min_four   -- for this text's walks alone
set_option linter.unusedVariables false
set_option linter.unusedSimpArgs false

def tabG2 : List (S39) := [⟨128, 191⟩, ⟨160, 191⟩, ⟨128, 159⟩, ⟨144, 191⟩, ⟨128, 143⟩, ⟨0, 0⟩, ⟨0, 0⟩, ⟨0, 0⟩, ⟨0, 0⟩, ⟨0, 0⟩, ⟨0, 0⟩, ⟨0, 0⟩, ⟨0, 0⟩, ⟨0, 0⟩, ⟨0, 0⟩, ⟨0, 0⟩]
set_option maxRecDepth 100000 in
theorem tabG2_len : (tabG2.length : Int) = 16 := rfl
end Go.Proofs.YtdndddembndnhaaDoor.PA
