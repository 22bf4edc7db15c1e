-- PRINTED BY print.sh 35421559b90ae4d0a3588c463048766b98c2df88dd9212a6774a882060cdf62d: not written by this session
import Derived.Test.YtnciphcnkbcncaaProg
import Derived.Below
import Derived.Deep.Draws
import Derived.Deep.AppendLies
import Derived.Maps.AppendAt
import Derived.OwnWalk
import Derived.Laws.BytesArg
import Derived.Laws.MakeOwn
import Derived.Laws.OwnMore
import Derived.Deep.OwnRows
import Derived.Tactics
import Derived.Lib.ConvBytes
import Derived.Laws.Slices
import Derived.WalkKit
import Derived.KernelRfl
import Derived.RowKit3
import Derived.Deep.LoopGhost
import Derived.Deep.QuietTactic
import Derived.BigQuiet
import Derived.WideLaws
import Derived.Deep.DeepCutAuto
import Derived.Deep.CutBlock
import Derived.Deep.RegionHeld3
import Derived.Laws.Rows
import Derived.Lib.AppendStr
import Derived.ArgAppend
import Derived.Laws.IdiomCopy
import Derived.OrdersHeld
import Derived.Laws.BitsLemmas
import Derived.RowKit
import Derived.Test.YtnciphcnkbcncaaWWords
import Derived.Test.YtnciphcnkbcncaaWLast
import Derived.Test.YtnciphcnkbcncaaWTab
import Derived.Test.YtnciphcnkbcncaaWFour
import Derived.Test.YtnciphcnkbcncaaWQPut
import Derived.Test.YtnciphcnkbcncaaWApart
import Derived.Test.YtnciphcnkbcncaaWArr
import Derived.Test.YtnciphcnkbcncaaWZeros
import Derived.Test.YtnciphcnkbcncaaWFoot
import Derived.Test.YtnciphcnkbcncaaWKept
import Derived.Test.YtnciphcnkbcncaaWShare
import Derived.Test.YtnciphcnkbcncaaWN
import Derived.Test.YtnciphcnkbcncaaWFootNe
import Derived.Test.YtnciphcnkbcncaaWAt
import Derived.Test.YtnciphcnkbcncaaWEqStruct
import Derived.Test.YtnciphcnkbcncaaWRepsOne
import Derived.Test.YtnciphcnkbcncaaWInv
import Derived.Test.YtnciphcnkbcncaaWInvWords
import Derived.Test.YtnciphcnkbcncaaWGuard
import Derived.Test.YtnciphcnkbcncaaWNEv
import Derived.Test.YtnciphcnkbcncaaWMore
namespace Go.Proofs.Ytnciphcnkbcncaa.PFnRangeOfString
open Go.RowKit Go.Proofs.YtnciphcnkbcncaaW.PrintWords Go.Proofs.YtnciphcnkbcncaaW.PrintLast Go.Proofs.YtnciphcnkbcncaaW.PrintMore
attribute [local go_sem] max2_int min2_int max_two min_two max_three min_three max_four min_four   -- for this text's walks alone
set_option linter.unusedVariables false
set_option linter.unusedSimpArgs false



def errW : Option Int → Value
  | none => .nilIface
  | some c => .iface 0 (.int .i64 c)
theorem errW_none : errW none = .nilIface := rfl
theorem errW_some (c : Int) : errW (some c) = .iface 0 (.int .i64 c) := rfl

theorem info3 : (Try.prog.info? 3).map (fun i => (i.zero, i.size, i.bytes)) = some (some (.int .i64 0), 1, 8) := by kernel_rfl
theorem info5 : (Try.prog.info? 5).map (fun i => (i.zero, i.size, i.bytes)) = some (some (.int .u8 0), 1, 1) := by kernel_rfl
theorem info9 : (Try.prog.info? 9).map (fun i => (i.zero, i.size, i.bytes)) = some (some (.string ⟨#[]⟩), 1, 16) := by kernel_rfl
theorem info43 : (Try.prog.info? 43).map (fun i => (i.zero, i.size, i.bytes)) = some (some (.int .u64 0), 1, 8) := by kernel_rfl
-- the values' own types

end Go.Proofs.Ytnciphcnkbcncaa.PFnRangeOfString
