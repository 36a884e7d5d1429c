-- Written by a program of this session out of the translation (a changed copy of the kit's print); Lean checks it.
import Derived.Test.YtfpbbnllaogclaaProg
import Derived.Below
import Derived.Deep.Draws
import Derived.Deep.AppendLies
import Derived.Maps.AppendAt
import Derived.OwnWalk
import Derived.Laws.BytesArg
import Derived.Laws.MakeOwn
import Derived.Laws.OwnMore
import Derived.Deep.OwnRows
import Derived.Tactics
import Derived.Lib.ConvBytes
import Derived.Laws.Slices
import Derived.WalkKit
import Derived.KernelRfl
import Derived.RowKit3
import Derived.Deep.LoopGhost
import Derived.Deep.QuietTactic
import Derived.BigQuiet
import Derived.WideLaws
import Derived.Deep.DeepCutAuto
import Derived.Deep.CutBlock
import Derived.Deep.RegionHeld3
import Derived.Laws.Rows
import Derived.Lib.AppendStr
import Derived.ArgAppend
import Derived.Laws.IdiomCopy
import Derived.OrdersHeld
import Derived.Laws.BitsLemmas
import Derived.RowKit
import Derived.Test.YtfpbbnllaogclaaWWords
import Derived.Test.YtfpbbnllaogclaaWLast
import Derived.Test.YtfpbbnllaogclaaWTab
import Derived.Test.YtfpbbnllaogclaaWFour
import Derived.Test.YtfpbbnllaogclaaWQPut
import Derived.Test.YtfpbbnllaogclaaWApart
import Derived.Test.YtfpbbnllaogclaaWArr
import Derived.Test.YtfpbbnllaogclaaWZeros
import Derived.Test.YtfpbbnllaogclaaWFoot
import Derived.Test.YtfpbbnllaogclaaWKept
import Derived.Test.YtfpbbnllaogclaaWShare
import Derived.Test.YtfpbbnllaogclaaWN
import Derived.Test.YtfpbbnllaogclaaWFootNe
import Derived.Test.YtfpbbnllaogclaaWAt
import Derived.Test.YtfpbbnllaogclaaWEqStruct
import Derived.Test.YtfpbbnllaogclaaWRepsOne
import Derived.Test.YtfpbbnllaogclaaWInv
import Derived.Test.YtfpbbnllaogclaaWInvWords
import Derived.Test.YtfpbbnllaogclaaWGuard
import Derived.Test.YtfpbbnllaogclaaWNEv
import Derived.Test.YtfpbbnllaogclaaWMore
import Derived.Test.YtfpbbnllaogclaaWMine
namespace Go.Proofs.Ytfpbbnllaogclaa.PA
open Go.RowKit Go.Proofs.YtfpbbnllaogclaaW.PrintWords Go.Proofs.YtfpbbnllaogclaaW.PrintLast Go.Proofs.YtfpbbnllaogclaaW.PrintMore
attribute [local go_sem] max2_int min2_int max_two min_two max_three min_three max_four min_four   -- for this text's walks alone
set_option linter.unusedVariables false
set_option linter.unusedSimpArgs false



def errW : Option Int → Value
  | none => .nilIface
  | some c => .iface 0 (.int .i64 c)
theorem errW_none : errW none = .nilIface := rfl
theorem errW_some (c : Int) : errW (some c) = .iface 0 (.int .i64 c) := rfl

theorem info5 : (Try.prog.info? 5).map (fun i => (i.zero, i.size, i.bytes)) = some (some (.int .u8 0), 1, 1) := by kernel_rfl
-- the values' own types

end Go.Proofs.Ytfpbbnllaogclaa.PA
