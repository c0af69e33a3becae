-- PRINTED BY print.sh 35421559b90ae4d0a3588c463048766b98c2df88dd9212a6774a882060cdf62d: not written by this session
import Derived.Test.YtgjcikajfnlocaaProg
import Derived.Below
import Derived.Deep.Draws
import Derived.Deep.AppendLies
import Derived.Maps.AppendAt
import Derived.OwnWalk
import Derived.Laws.BytesArg
import Derived.Laws.MakeOwn
import Derived.Laws.OwnMore
import Derived.Deep.OwnRows
import Derived.Tactics
import Derived.Lib.ConvBytes
import Derived.Laws.Slices
import Derived.WalkKit
import Derived.KernelRfl
import Derived.RowKit3
import Derived.Deep.LoopGhost
import Derived.Deep.QuietTactic
import Derived.BigQuiet
import Derived.WideLaws
import Derived.Deep.DeepCutAuto
import Derived.Deep.CutBlock
import Derived.Deep.RegionHeld3
import Derived.Laws.Rows
import Derived.Lib.AppendStr
import Derived.ArgAppend
import Derived.Laws.IdiomCopy
import Derived.OrdersHeld
import Derived.Laws.BitsLemmas
import Derived.RowKit
import Derived.Test.YtgjcikajfnlocaaWWords
import Derived.Test.YtgjcikajfnlocaaWLast
import Derived.Test.YtgjcikajfnlocaaWTab
import Derived.Test.YtgjcikajfnlocaaWFour
import Derived.Test.YtgjcikajfnlocaaWQPut
import Derived.Test.YtgjcikajfnlocaaWApart
import Derived.Test.YtgjcikajfnlocaaWArr
import Derived.Test.YtgjcikajfnlocaaWZeros
import Derived.Test.YtgjcikajfnlocaaWFoot
import Derived.Test.YtgjcikajfnlocaaWKept
import Derived.Test.YtgjcikajfnlocaaWShare
import Derived.Test.YtgjcikajfnlocaaWN
import Derived.Test.YtgjcikajfnlocaaWFootNe
import Derived.Test.YtgjcikajfnlocaaWAt
import Derived.Test.YtgjcikajfnlocaaWEqStruct
import Derived.Test.YtgjcikajfnlocaaWRepsOne
import Derived.Test.YtgjcikajfnlocaaWInv
import Derived.Test.YtgjcikajfnlocaaWInvWords
import Derived.Test.YtgjcikajfnlocaaWGuard
import Derived.Test.YtgjcikajfnlocaaWNEv
import Derived.Test.YtgjcikajfnlocaaWMore
namespace Go.Proofs.Ytgjcikajfnlocaa.PFnPredictorBack
open Go.RowKit Go.Proofs.YtgjcikajfnlocaaW.PrintWords Go.Proofs.YtgjcikajfnlocaaW.PrintLast Go.Proofs.YtgjcikajfnlocaaW.PrintMore
attribute [local go_sem] max2_int min2_int max_two min_two max_three min_three max_four min_four   -- for this text's walks alone
set_option linter.unusedVariables false
set_option linter.unusedSimpArgs false



def errW : Option Int → Value
  | none => .nilIface
  | some c => .iface 0 (.int .i64 c)
theorem errW_none : errW none = .nilIface := rfl
theorem errW_some (c : Int) : errW (some c) = .iface 0 (.int .i64 c) := rfl

theorem info5 : (Try.prog.info? 5).map (fun i => (i.zero, i.size, i.bytes)) = some (some (.int .u8 0), 1, 1) := by kernel_rfl
theorem info38 : (Try.prog.info? 38).map (fun i => (i.zero, i.size, i.bytes)) = some (some (.int .u32 0), 1, 4) := by kernel_rfl
-- the values' own types

end Go.Proofs.Ytgjcikajfnlocaa.PFnPredictorBack
