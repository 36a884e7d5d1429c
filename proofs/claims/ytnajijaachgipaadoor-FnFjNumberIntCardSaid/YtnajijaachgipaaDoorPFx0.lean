-- Written by a program of this session out of the translation (a changed copy of the kit's print); Lean checks it.
import Derived.Test.YtnajijaachgipaaDoorProg
import Derived.Below
import Derived.Deep.Draws
import Derived.Deep.AppendLies
import Derived.Maps.AppendAt
import Derived.OwnWalk
import Derived.Laws.BytesArg
import Derived.Laws.MakeOwn
import Derived.Laws.OwnMore
import Derived.Deep.OwnRows
import Derived.Tactics
import Derived.Lib.ConvBytes
import Derived.Laws.Slices
import Derived.WalkKit
import Derived.KernelRfl
import Derived.RowKit3
import Derived.Deep.LoopGhost
import Derived.Deep.QuietTactic
import Derived.BigQuiet
import Derived.WideLaws
import Derived.Deep.DeepCutAuto
import Derived.Deep.CutBlock
import Derived.Deep.RegionHeld3
import Derived.Laws.Rows
import Derived.Lib.AppendStr
import Derived.ArgAppend
import Derived.Laws.IdiomCopy
import Derived.OrdersHeld
import Derived.Laws.BitsLemmas
import Derived.RowKit
import Derived.Test.YtnajijaachgipaaDoorHErrs
import Derived.Test.YtnajijaachgipaaDoorShelf
import Derived.Test.YtnajijaachgipaaDoorHNum
import Derived.Lib.Bytealg
import Derived.Test.YtnajijaachgipaaDoorWWords
import Derived.Test.YtnajijaachgipaaDoorWLast
import Derived.Test.YtnajijaachgipaaDoorWTab
import Derived.Test.YtnajijaachgipaaDoorWFour
import Derived.Test.YtnajijaachgipaaDoorWQPut
import Derived.Test.YtnajijaachgipaaDoorWApart
import Derived.Test.YtnajijaachgipaaDoorWArr
import Derived.Test.YtnajijaachgipaaDoorWZeros
import Derived.Test.YtnajijaachgipaaDoorWFoot
import Derived.Test.YtnajijaachgipaaDoorWKept
import Derived.Test.YtnajijaachgipaaDoorWShare
import Derived.Test.YtnajijaachgipaaDoorWN
import Derived.Test.YtnajijaachgipaaDoorWFootNe
import Derived.Test.YtnajijaachgipaaDoorWAt
import Derived.Test.YtnajijaachgipaaDoorWEqStruct
import Derived.Test.YtnajijaachgipaaDoorWRepsOne
import Derived.Test.YtnajijaachgipaaDoorWInv
import Derived.Test.YtnajijaachgipaaDoorWInvWords
import Derived.Test.YtnajijaachgipaaDoorWGuard
import Derived.Test.YtnajijaachgipaaDoorWNEv
import Derived.Test.YtnajijaachgipaaDoorWMore
import Derived.Test.YtnajijaachgipaaDoorWMine
namespace Go.Proofs.YtnajijaachgipaaDoor.PF
open Go.RowKit Go.Proofs.YtnajijaachgipaaDoorW.PrintWords Go.Proofs.YtnajijaachgipaaDoorW.PrintLast Go.Proofs.YtnajijaachgipaaDoorW.PrintMore
attribute [local go_sem] max2_int min2_int max_two min_two max_three min_three max_four min_four   -- for this text's walks alone
set_option linter.unusedVariables false
set_option linter.unusedSimpArgs false



def errW : Option Int → Value
  | none => .nilIface
  | some c => .iface 0 (.int .i64 c)
theorem errW_none : errW none = .nilIface := rfl
theorem errW_some (c : Int) : errW (some c) = .iface 0 (.int .i64 c) := rfl

-- the values' own types

end Go.Proofs.YtnajijaachgipaaDoor.PF
