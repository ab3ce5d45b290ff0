-- Written by a program of this session out of the translation (wip/pp.py): Lean checks it.
import Derived.Test.YtcihkjjejckicaaProg
import Derived.Test.YtcihkjjejckicaaShelf
import Derived.Lib.TrailingZeros
import Derived.Below
import Derived.Deep.Draws
import Derived.Deep.AppendLies
import Derived.Maps.AppendAt
import Derived.OwnWalk
import Derived.Laws.BytesArg
import Derived.Laws.MakeOwn
import Derived.Laws.OwnMore
import Derived.Deep.OwnRows
import Derived.Tactics
import Derived.Lib.ConvBytes
import Derived.Laws.Slices
import Derived.WalkKit
import Derived.KernelRfl
import Derived.RowKit3
import Derived.Deep.LoopGhost
import Derived.Deep.QuietTactic
import Derived.BigQuiet
import Derived.WideLaws
import Derived.Deep.DeepCutAuto
import Derived.Deep.CutBlock
import Derived.Deep.RegionHeld3
import Derived.Laws.Rows
import Derived.Lib.AppendStr
import Derived.ArgAppend
import Derived.Laws.IdiomCopy
import Derived.OrdersHeld
import Derived.Laws.BitsLemmas
import Derived.RowKit
import Derived.Test.YtcihkjjejckicaaWWords
import Derived.Test.YtcihkjjejckicaaWLast
import Derived.Test.YtcihkjjejckicaaWTab
import Derived.Test.YtcihkjjejckicaaWFour
import Derived.Test.YtcihkjjejckicaaWQPut
import Derived.Test.YtcihkjjejckicaaWApart
import Derived.Test.YtcihkjjejckicaaWArr
import Derived.Test.YtcihkjjejckicaaWZeros
import Derived.Test.YtcihkjjejckicaaWFoot
import Derived.Test.YtcihkjjejckicaaWKept
import Derived.Test.YtcihkjjejckicaaWShare
import Derived.Test.YtcihkjjejckicaaWN
import Derived.Test.YtcihkjjejckicaaWFootNe
import Derived.Test.YtcihkjjejckicaaWAt
import Derived.Test.YtcihkjjejckicaaWEqStruct
import Derived.Test.YtcihkjjejckicaaWRepsOne
import Derived.Test.YtcihkjjejckicaaWInv
import Derived.Test.YtcihkjjejckicaaWInvWords
import Derived.Test.YtcihkjjejckicaaWGuard
import Derived.Test.YtcihkjjejckicaaWNEv
import Derived.Test.YtcihkjjejckicaaWMore
namespace Go.Proofs.Ytcihkjjejckicaa.PFnBitconIs
open Go.RowKit Go.Proofs.YtcihkjjejckicaaW.PrintWords Go.Proofs.YtcihkjjejckicaaW.PrintLast Go.Proofs.YtcihkjjejckicaaW.PrintMore
attribute [local go_sem] max2_int min2_int max_two min_two max_three min_three max_four min_four   -- for this text's walks alone
set_option linter.unusedVariables false
set_option linter.unusedSimpArgs false



def errW : Option Int → Value
  | none => .nilIface
  | some c => .iface 0 (.int .i64 c)
theorem signed_u32 : IntKind.u32.signed = false := rfl
theorem max_u32 : IntKind.u32.max = 4294967295 := by decide
theorem signed_u64 : IntKind.u64.signed = false := rfl
theorem max_u64 : IntKind.u64.max = 18446744073709551615 := by decide
theorem errW_none : errW none = .nilIface := rfl
theorem errW_some (c : Int) : errW (some c) = .iface 0 (.int .i64 c) := rfl

-- the values' own types

end Go.Proofs.Ytcihkjjejckicaa.PFnBitconIs
