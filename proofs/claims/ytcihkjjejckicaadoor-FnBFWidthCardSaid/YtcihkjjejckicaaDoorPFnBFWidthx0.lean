-- Written by a program of this session out of the translation (wip/pp.py): Lean checks it.
import Derived.Test.YtcihkjjejckicaaDoorProg
import Derived.Test.YtcihkjjejckicaaDoorTz
import Derived.Test.YtcihkjjejckicaaDoorShelf
import Derived.Lib.TrailingZeros
import Derived.Below
import Derived.Deep.Draws
import Derived.Deep.AppendLies
import Derived.Maps.AppendAt
import Derived.OwnWalk
import Derived.Laws.BytesArg
import Derived.Laws.MakeOwn
import Derived.Laws.OwnMore
import Derived.Deep.OwnRows
import Derived.Tactics
import Derived.Lib.ConvBytes
import Derived.Laws.Slices
import Derived.WalkKit
import Derived.KernelRfl
import Derived.RowKit3
import Derived.Deep.LoopGhost
import Derived.Deep.QuietTactic
import Derived.BigQuiet
import Derived.WideLaws
import Derived.Deep.DeepCutAuto
import Derived.Deep.CutBlock
import Derived.Deep.RegionHeld3
import Derived.Laws.Rows
import Derived.Lib.AppendStr
import Derived.ArgAppend
import Derived.Laws.IdiomCopy
import Derived.OrdersHeld
import Derived.Laws.BitsLemmas
import Derived.RowKit
import Derived.Test.YtcihkjjejckicaaDoorWWords
import Derived.Test.YtcihkjjejckicaaDoorWLast
import Derived.Test.YtcihkjjejckicaaDoorWTab
import Derived.Test.YtcihkjjejckicaaDoorWFour
import Derived.Test.YtcihkjjejckicaaDoorWQPut
import Derived.Test.YtcihkjjejckicaaDoorWApart
import Derived.Test.YtcihkjjejckicaaDoorWArr
import Derived.Test.YtcihkjjejckicaaDoorWZeros
import Derived.Test.YtcihkjjejckicaaDoorWFoot
import Derived.Test.YtcihkjjejckicaaDoorWKept
import Derived.Test.YtcihkjjejckicaaDoorWShare
import Derived.Test.YtcihkjjejckicaaDoorWN
import Derived.Test.YtcihkjjejckicaaDoorWFootNe
import Derived.Test.YtcihkjjejckicaaDoorWAt
import Derived.Test.YtcihkjjejckicaaDoorWEqStruct
import Derived.Test.YtcihkjjejckicaaDoorWRepsOne
import Derived.Test.YtcihkjjejckicaaDoorWInv
import Derived.Test.YtcihkjjejckicaaDoorWInvWords
import Derived.Test.YtcihkjjejckicaaDoorWGuard
import Derived.Test.YtcihkjjejckicaaDoorWNEv
import Derived.Test.YtcihkjjejckicaaDoorWMore
namespace Go.Proofs.YtcihkjjejckicaaDoor.PFnBFWidth
open Go.RowKit Go.Proofs.YtcihkjjejckicaaDoorW.PrintWords Go.Proofs.YtcihkjjejckicaaDoorW.PrintLast Go.Proofs.YtcihkjjejckicaaDoorW.PrintMore
attribute [local go_sem] max2_int min2_int max_two min_two max_three min_three max_four min_four   -- for this text's walks alone
set_option linter.unusedVariables false
set_option linter.unusedSimpArgs false



def errW : Option Int → Value
  | none => .nilIface
  | some c => .iface 0 (.int .i64 c)
theorem signed_u32 : IntKind.u32.signed = false := rfl
theorem max_u32 : IntKind.u32.max = 4294967295 := by decide
theorem signed_u64 : IntKind.u64.signed = false := rfl
theorem max_u64 : IntKind.u64.max = 18446744073709551615 := by decide
theorem errW_none : errW none = .nilIface := rfl
theorem errW_some (c : Int) : errW (some c) = .iface 0 (.int .i64 c) := rfl

-- the values' own types

end Go.Proofs.YtcihkjjejckicaaDoor.PFnBFWidth
