/- UcsJoins: what the functions answer, and their walks; what is not printed is given by YtegogeglofikhaaDoorGUcsJoins. Written by a program of ours over the print. -/
import Derived.Test.YtegogeglofikhaaDoorProg
import Derived.Below
import Derived.Deep.Draws
import Derived.Deep.AppendLies
import Derived.Maps.AppendAt
import Derived.OwnWalk
import Derived.Laws.BytesArg
import Derived.Laws.MakeOwn
import Derived.Laws.OwnMore
import Derived.Deep.OwnRows
import Derived.Tactics
import Derived.Lib.ConvBytes
import Derived.Laws.Slices
import Derived.WalkKit
import Derived.KernelRfl
import Derived.RowKit3
import Derived.Deep.LoopGhost
import Derived.Deep.QuietTactic
import Derived.BigQuiet
import Derived.WideLaws
import Derived.Deep.DeepCutAuto
import Derived.Deep.CutBlock
import Derived.Deep.RegionHeld3
import Derived.Laws.Rows
import Derived.Lib.AppendStr
import Derived.ArgAppend
import Derived.Laws.IdiomCopy
import Derived.OrdersHeld
import Derived.Laws.BitsLemmas
import Derived.RowKit
import Derived.Test.YtegogeglofikhaaDoorWWords
import Derived.Test.YtegogeglofikhaaDoorWLast
import Derived.Test.YtegogeglofikhaaDoorWTab
import Derived.Test.YtegogeglofikhaaDoorWFour
import Derived.Test.YtegogeglofikhaaDoorWQPut
import Derived.Test.YtegogeglofikhaaDoorWApart
import Derived.Test.YtegogeglofikhaaDoorWArr
import Derived.Test.YtegogeglofikhaaDoorWZeros
import Derived.Test.YtegogeglofikhaaDoorWFoot
import Derived.Test.YtegogeglofikhaaDoorWKept
import Derived.Test.YtegogeglofikhaaDoorWShare
import Derived.Test.YtegogeglofikhaaDoorWN
import Derived.Test.YtegogeglofikhaaDoorWFootNe
import Derived.Test.YtegogeglofikhaaDoorWAt
import Derived.Test.YtegogeglofikhaaDoorWEqStruct
import Derived.Test.YtegogeglofikhaaDoorWRepsOne
import Derived.Test.YtegogeglofikhaaDoorWInv
import Derived.Test.YtegogeglofikhaaDoorWInvWords
import Derived.Test.YtegogeglofikhaaDoorWGuard
import Derived.Test.YtegogeglofikhaaDoorWNEv
import Derived.Test.YtegogeglofikhaaDoorWMore
namespace Go.Proofs.YtegogeglofikhaaDoor.PUcsJoins
open Go.RowKit Go.Proofs.YtegogeglofikhaaDoorW.PrintWords Go.Proofs.YtegogeglofikhaaDoorW.PrintLast Go.Proofs.YtegogeglofikhaaDoorW.PrintMore
attribute [local go_sem] max2_int min2_int max_two min_two max_three min_three max_four min_four   -- for this text's walks alone
set_option linter.unusedVariables false
set_option linter.unusedSimpArgs false



def errW : Option Int → Value
  | none => .nilIface
  | some c => .iface 0 (.int .i64 c)
theorem errW_none : errW none = .nilIface := rfl
theorem errW_some (c : Int) : errW (some c) = .iface 0 (.int .i64 c) := rfl

theorem info5 : (Tryd.prog.info? 5).map (fun i => (i.zero, i.size, i.bytes)) = some (some (.int .u8 0), 1, 1) := by kernel_rfl
-- the values' own types

end Go.Proofs.YtegogeglofikhaaDoor.PUcsJoins
