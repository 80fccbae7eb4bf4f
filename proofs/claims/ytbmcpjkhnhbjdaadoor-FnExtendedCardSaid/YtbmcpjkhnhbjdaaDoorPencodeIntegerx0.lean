-- printed by a program out of the translation (wip/print_all.sh)
import Derived.Test.YtbmcpjkhnhbjdaaDoorProg
import Derived.Below
import Derived.Deep.Draws
import Derived.Deep.AppendLies
import Derived.Maps.AppendAt
import Derived.OwnWalk
import Derived.Laws.BytesArg
import Derived.Laws.MakeOwn
import Derived.Laws.OwnMore
import Derived.Deep.OwnRows
import Derived.Tactics
import Derived.Lib.ConvBytes
import Derived.Laws.Slices
import Derived.WalkKit
import Derived.KernelRfl
import Derived.RowKit3
import Derived.Deep.LoopGhost
import Derived.Deep.QuietTactic
import Derived.BigQuiet
import Derived.WideLaws
import Derived.Deep.DeepCutAuto
import Derived.Deep.CutBlock
import Derived.Deep.RegionHeld3
import Derived.Laws.Rows
import Derived.Lib.AppendStr
import Derived.ArgAppend
import Derived.Laws.IdiomCopy
import Derived.OrdersHeld
import Derived.Laws.BitsLemmas
import Derived.RowKit
import Derived.Test.YtbmcpjkhnhbjdaaDoorWWords
import Derived.Test.YtbmcpjkhnhbjdaaDoorWLast
import Derived.Test.YtbmcpjkhnhbjdaaDoorWTab
import Derived.Test.YtbmcpjkhnhbjdaaDoorWFour
import Derived.Test.YtbmcpjkhnhbjdaaDoorWQPut
import Derived.Test.YtbmcpjkhnhbjdaaDoorWApart
import Derived.Test.YtbmcpjkhnhbjdaaDoorWArr
import Derived.Test.YtbmcpjkhnhbjdaaDoorWZeros
import Derived.Test.YtbmcpjkhnhbjdaaDoorWFoot
import Derived.Test.YtbmcpjkhnhbjdaaDoorWKept
import Derived.Test.YtbmcpjkhnhbjdaaDoorWShare
import Derived.Test.YtbmcpjkhnhbjdaaDoorWN
import Derived.Test.YtbmcpjkhnhbjdaaDoorWFootNe
import Derived.Test.YtbmcpjkhnhbjdaaDoorWAt
import Derived.Test.YtbmcpjkhnhbjdaaDoorWEqStruct
import Derived.Test.YtbmcpjkhnhbjdaaDoorWRepsOne
import Derived.Test.YtbmcpjkhnhbjdaaDoorWInv
import Derived.Test.YtbmcpjkhnhbjdaaDoorWInvWords
import Derived.Test.YtbmcpjkhnhbjdaaDoorWGuard
import Derived.Test.YtbmcpjkhnhbjdaaDoorWNEv
import Derived.Test.YtbmcpjkhnhbjdaaDoorWMore
namespace Go.Proofs.YtbmcpjkhnhbjdaaDoor.PencodeInteger
open Go.RowKit Go.Proofs.YtbmcpjkhnhbjdaaDoorW.PrintWords Go.Proofs.YtbmcpjkhnhbjdaaDoorW.PrintLast Go.Proofs.YtbmcpjkhnhbjdaaDoorW.PrintMore
attribute [local go_sem] max2_int min2_int max_two min_two max_three min_three max_four min_four   -- for this text's walks alone
set_option linter.unusedVariables false
set_option linter.unusedSimpArgs false



def errW : Option Int → Value
  | none => .nilIface
  | some c => .iface 0 (.int .i64 c)
theorem errW_none : errW none = .nilIface := rfl
theorem errW_some (c : Int) : errW (some c) = .iface 0 (.int .i64 c) := rfl

theorem info5 : (Tryd.prog.info? 5).map (fun i => (i.zero, i.size, i.bytes)) = some (some (.int .u8 0), 1, 1) := by kernel_rfl
-- the values' own types

end Go.Proofs.YtbmcpjkhnhbjdaaDoor.PencodeInteger
