-- PRINTED BY print.sh 35421559b90ae4d0a3588c463048766b98c2df88dd9212a6774a882060cdf62d: not written by this session
import Derived.Test.YtflmpdfcbdfabaaProg
import Derived.Below
import Derived.Deep.Draws
import Derived.Deep.AppendLies
import Derived.Maps.AppendAt
import Derived.OwnWalk
import Derived.Laws.BytesArg
import Derived.Laws.MakeOwn
import Derived.Laws.OwnMore
import Derived.Deep.OwnRows
import Derived.Tactics
import Derived.Lib.ConvBytes
import Derived.Laws.Slices
import Derived.WalkKit
import Derived.KernelRfl
import Derived.RowKit3
import Derived.Deep.LoopGhost
import Derived.Deep.QuietTactic
import Derived.BigQuiet
import Derived.WideLaws
import Derived.Deep.DeepCutAuto
import Derived.Deep.CutBlock
import Derived.Deep.RegionHeld3
import Derived.Laws.Rows
import Derived.Lib.AppendStr
import Derived.ArgAppend
import Derived.Laws.IdiomCopy
import Derived.OrdersHeld
import Derived.Laws.BitsLemmas
import Derived.RowKit
import Derived.Test.YtflmpdfcbdfabaaWWords
import Derived.Test.YtflmpdfcbdfabaaWLast
import Derived.Test.YtflmpdfcbdfabaaWTab
import Derived.Test.YtflmpdfcbdfabaaWFour
import Derived.Test.YtflmpdfcbdfabaaWQPut
import Derived.Test.YtflmpdfcbdfabaaWApart
import Derived.Test.YtflmpdfcbdfabaaWArr
import Derived.Test.YtflmpdfcbdfabaaWZeros
import Derived.Test.YtflmpdfcbdfabaaWFoot
import Derived.Test.YtflmpdfcbdfabaaWKept
import Derived.Test.YtflmpdfcbdfabaaWShare
import Derived.Test.YtflmpdfcbdfabaaWN
import Derived.Test.YtflmpdfcbdfabaaWFootNe
import Derived.Test.YtflmpdfcbdfabaaWAt
import Derived.Test.YtflmpdfcbdfabaaWEqStruct
import Derived.Test.YtflmpdfcbdfabaaWRepsOne
import Derived.Test.YtflmpdfcbdfabaaWInv
import Derived.Test.YtflmpdfcbdfabaaWInvWords
import Derived.Test.YtflmpdfcbdfabaaWGuard
import Derived.Test.YtflmpdfcbdfabaaWNEv
import Derived.Test.YtflmpdfcbdfabaaWMore
namespace Go.Proofs.Ytflmpdfcbdfabaa.PWideGets
open Go.RowKit Go.Proofs.YtflmpdfcbdfabaaW.PrintWords Go.Proofs.YtflmpdfcbdfabaaW.PrintLast Go.Proofs.YtflmpdfcbdfabaaW.PrintMore
attribute [local go_sem] max2_int min2_int max_two min_two max_three min_three max_four min_four   -- for this text's walks alone
set_option linter.unusedVariables false
set_option linter.unusedSimpArgs false



def errW : Option Int → Value
  | none => .nilIface
  | some c => .iface 0 (.int .i64 c)
theorem errW_none : errW none = .nilIface := rfl
theorem errW_some (c : Int) : errW (some c) = .iface 0 (.int .i64 c) := rfl

theorem info5 : (Try.prog.info? 5).map (fun i => (i.zero, i.size, i.bytes)) = some (some (.int .u8 0), 1, 1) := by kernel_rfl
-- the values' own types

end Go.Proofs.Ytflmpdfcbdfabaa.PWideGets
