-- Written by a program of this session out of the translation (a changed copy of the kit's print); Lean checks it.
import Derived.Test.YtfpbbnllaogclaaDoorProg
import Derived.Below
import Derived.Deep.Draws
import Derived.Deep.AppendLies
import Derived.Maps.AppendAt
import Derived.OwnWalk
import Derived.Laws.BytesArg
import Derived.Laws.MakeOwn
import Derived.Laws.OwnMore
import Derived.Deep.OwnRows
import Derived.Tactics
import Derived.Lib.ConvBytes
import Derived.Laws.Slices
import Derived.WalkKit
import Derived.KernelRfl
import Derived.RowKit3
import Derived.Deep.LoopGhost
import Derived.Deep.QuietTactic
import Derived.BigQuiet
import Derived.WideLaws
import Derived.Deep.DeepCutAuto
import Derived.Deep.CutBlock
import Derived.Deep.RegionHeld3
import Derived.Laws.Rows
import Derived.Lib.AppendStr
import Derived.ArgAppend
import Derived.Laws.IdiomCopy
import Derived.OrdersHeld
import Derived.Laws.BitsLemmas
import Derived.RowKit
import Derived.Test.YtfpbbnllaogclaaDoorHErrs
import Derived.Test.YtfpbbnllaogclaaDoorHEnc
import Derived.Lib.Bytealg
import Derived.Lib.AtoiErrMem
import Derived.Lib.LazyBuf
import Derived.Lib.BytesEntry
import Derived.Deep.OwnRows
import Derived.OwnWalk
import Derived.Test.YtfpbbnllaogclaaDoorWWords
import Derived.Test.YtfpbbnllaogclaaDoorWLast
import Derived.Test.YtfpbbnllaogclaaDoorWTab
import Derived.Test.YtfpbbnllaogclaaDoorWFour
import Derived.Test.YtfpbbnllaogclaaDoorWQPut
import Derived.Test.YtfpbbnllaogclaaDoorWApart
import Derived.Test.YtfpbbnllaogclaaDoorWArr
import Derived.Test.YtfpbbnllaogclaaDoorWZeros
import Derived.Test.YtfpbbnllaogclaaDoorWFoot
import Derived.Test.YtfpbbnllaogclaaDoorWKept
import Derived.Test.YtfpbbnllaogclaaDoorWShare
import Derived.Test.YtfpbbnllaogclaaDoorWN
import Derived.Test.YtfpbbnllaogclaaDoorWFootNe
import Derived.Test.YtfpbbnllaogclaaDoorWAt
import Derived.Test.YtfpbbnllaogclaaDoorWEqStruct
import Derived.Test.YtfpbbnllaogclaaDoorWRepsOne
import Derived.Test.YtfpbbnllaogclaaDoorWInv
import Derived.Test.YtfpbbnllaogclaaDoorWInvWords
import Derived.Test.YtfpbbnllaogclaaDoorWGuard
import Derived.Test.YtfpbbnllaogclaaDoorWNEv
import Derived.Test.YtfpbbnllaogclaaDoorWMore
import Derived.Test.YtfpbbnllaogclaaDoorWMine
namespace Go.Proofs.YtfpbbnllaogclaaDoor.PJ
open Go.RowKit Go.Proofs.YtfpbbnllaogclaaDoorW.PrintWords Go.Proofs.YtfpbbnllaogclaaDoorW.PrintLast Go.Proofs.YtfpbbnllaogclaaDoorW.PrintMore
attribute [local go_sem] max2_int min2_int max_two min_two max_three min_three max_four min_four   -- for this text's walks alone
set_option linter.unusedVariables false
set_option linter.unusedSimpArgs false



def errW : Option Int → Value
  | none => .nilIface
  | some c => .iface 0 (.int .i64 c)
theorem errW_none : errW none = .nilIface := rfl
theorem errW_some (c : Int) : errW (some c) = .iface 0 (.int .i64 c) := rfl

theorem info5 : (Tryd.prog.info? 5).map (fun i => (i.zero, i.size, i.bytes)) = some (some (.int .u8 0), 1, 1) := by kernel_rfl
-- the values' own types

end Go.Proofs.YtfpbbnllaogclaaDoor.PJ
