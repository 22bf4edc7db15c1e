-- PRINTED BY print.sh 35421559b90ae4d0a3588c463048766b98c2df88dd9212a6774a882060cdf62d: not written by this session
import Derived.Test.YtmcdnkcpfjhbgaaProg
import Derived.Below
import Derived.Deep.Draws
import Derived.Deep.AppendLies
import Derived.Maps.AppendAt
import Derived.OwnWalk
import Derived.Laws.BytesArg
import Derived.Laws.MakeOwn
import Derived.Laws.OwnMore
import Derived.Deep.OwnRows
import Derived.Tactics
import Derived.Lib.ConvBytes
import Derived.Laws.Slices
import Derived.WalkKit
import Derived.KernelRfl
import Derived.RowKit3
import Derived.Deep.LoopGhost
import Derived.Deep.QuietTactic
import Derived.BigQuiet
import Derived.WideLaws
import Derived.Deep.DeepCutAuto
import Derived.Deep.CutBlock
import Derived.Deep.RegionHeld3
import Derived.Laws.Rows
import Derived.Lib.AppendStr
import Derived.ArgAppend
import Derived.Laws.IdiomCopy
import Derived.OrdersHeld
import Derived.Laws.BitsLemmas
import Derived.RowKit
import Derived.Test.YtmcdnkcpfjhbgaaWWords
import Derived.Test.YtmcdnkcpfjhbgaaWLast
import Derived.Test.YtmcdnkcpfjhbgaaWTab
import Derived.Test.YtmcdnkcpfjhbgaaWFour
import Derived.Test.YtmcdnkcpfjhbgaaWQPut
import Derived.Test.YtmcdnkcpfjhbgaaWApart
import Derived.Test.YtmcdnkcpfjhbgaaWArr
import Derived.Test.YtmcdnkcpfjhbgaaWZeros
import Derived.Test.YtmcdnkcpfjhbgaaWFoot
import Derived.Test.YtmcdnkcpfjhbgaaWKept
import Derived.Test.YtmcdnkcpfjhbgaaWShare
import Derived.Test.YtmcdnkcpfjhbgaaWN
import Derived.Test.YtmcdnkcpfjhbgaaWFootNe
import Derived.Test.YtmcdnkcpfjhbgaaWAt
import Derived.Test.YtmcdnkcpfjhbgaaWEqStruct
import Derived.Test.YtmcdnkcpfjhbgaaWRepsOne
import Derived.Test.YtmcdnkcpfjhbgaaWInv
import Derived.Test.YtmcdnkcpfjhbgaaWInvWords
import Derived.Test.YtmcdnkcpfjhbgaaWGuard
import Derived.Test.YtmcdnkcpfjhbgaaWNEv
import Derived.Test.YtmcdnkcpfjhbgaaWMore
namespace Go.Proofs.Ytmcdnkcpfjhbgaa.PFnToUTF16
open Go.RowKit Go.Proofs.YtmcdnkcpfjhbgaaW.PrintWords Go.Proofs.YtmcdnkcpfjhbgaaW.PrintLast Go.Proofs.YtmcdnkcpfjhbgaaW.PrintMore
attribute [local go_sem] max2_int min2_int max_two min_two max_three min_three max_four min_four   -- for this text's walks alone
set_option linter.unusedVariables false
set_option linter.unusedSimpArgs false



def errW : Option Int → Value
  | none => .nilIface
  | some c => .iface 0 (.int .i64 c)
theorem errW_none : errW none = .nilIface := rfl
theorem errW_some (c : Int) : errW (some c) = .iface 0 (.int .i64 c) := rfl

theorem info64 : (Try.prog.info? 64).map (fun i => (i.zero, i.size, i.bytes)) = some (some (.int .u16 0), 1, 2) := by kernel_rfl
-- the values' own types

end Go.Proofs.Ytmcdnkcpfjhbgaa.PFnToUTF16
