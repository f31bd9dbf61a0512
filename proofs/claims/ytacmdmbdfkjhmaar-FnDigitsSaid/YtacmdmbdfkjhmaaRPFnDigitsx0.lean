-- PRINTED BY print.sh 35421559b90ae4d0a3588c463048766b98c2df88dd9212a6774a882060cdf62d: not written by this session
import Derived.Test.YtacmdmbdfkjhmaaRProg
import Derived.Below
import Derived.Deep.Draws
import Derived.Deep.AppendLies
import Derived.Maps.AppendAt
import Derived.OwnWalk
import Derived.Laws.BytesArg
import Derived.Laws.MakeOwn
import Derived.Laws.OwnMore
import Derived.Deep.OwnRows
import Derived.Tactics
import Derived.Lib.ConvBytes
import Derived.Laws.Slices
import Derived.WalkKit
import Derived.KernelRfl
import Derived.RowKit3
import Derived.Deep.LoopGhost
import Derived.Deep.QuietTactic
import Derived.BigQuiet
import Derived.WideLaws
import Derived.Deep.DeepCutAuto
import Derived.Deep.CutBlock
import Derived.Deep.RegionHeld3
import Derived.Laws.Rows
import Derived.Lib.AppendStr
import Derived.ArgAppend
import Derived.Laws.IdiomCopy
import Derived.OrdersHeld
import Derived.Laws.BitsLemmas
import Derived.RowKit
import Derived.Test.YtacmdmbdfkjhmaaRWWords
import Derived.Test.YtacmdmbdfkjhmaaRWLast
import Derived.Test.YtacmdmbdfkjhmaaRWTab
import Derived.Test.YtacmdmbdfkjhmaaRWFour
import Derived.Test.YtacmdmbdfkjhmaaRWQPut
import Derived.Test.YtacmdmbdfkjhmaaRWApart
import Derived.Test.YtacmdmbdfkjhmaaRWArr
import Derived.Test.YtacmdmbdfkjhmaaRWZeros
import Derived.Test.YtacmdmbdfkjhmaaRWFoot
import Derived.Test.YtacmdmbdfkjhmaaRWKept
import Derived.Test.YtacmdmbdfkjhmaaRWShare
import Derived.Test.YtacmdmbdfkjhmaaRWN
import Derived.Test.YtacmdmbdfkjhmaaRWFootNe
import Derived.Test.YtacmdmbdfkjhmaaRWAt
import Derived.Test.YtacmdmbdfkjhmaaRWEqStruct
import Derived.Test.YtacmdmbdfkjhmaaRWRepsOne
import Derived.Test.YtacmdmbdfkjhmaaRWInv
import Derived.Test.YtacmdmbdfkjhmaaRWInvWords
import Derived.Test.YtacmdmbdfkjhmaaRWGuard
import Derived.Test.YtacmdmbdfkjhmaaRWNEv
import Derived.Test.YtacmdmbdfkjhmaaRWMore
namespace Go.Proofs.YtacmdmbdfkjhmaaR.PFnDigits
open Go.RowKit Go.Proofs.YtacmdmbdfkjhmaaRW.PrintWords Go.Proofs.YtacmdmbdfkjhmaaRW.PrintLast Go.Proofs.YtacmdmbdfkjhmaaRW.PrintMore
attribute [local go_sem] max2_int min2_int max_two min_two max_three min_three max_four min_four   -- for this text's walks alone
set_option linter.unusedVariables false
set_option linter.unusedSimpArgs false



def errW : Option Int → Value
  | none => .nilIface
  | some c => .iface 0 (.int .i64 c)
theorem errW_none : errW none = .nilIface := rfl
theorem errW_some (c : Int) : errW (some c) = .iface 0 (.int .i64 c) := rfl

-- the values' own types

end Go.Proofs.YtacmdmbdfkjhmaaR.PFnDigits
