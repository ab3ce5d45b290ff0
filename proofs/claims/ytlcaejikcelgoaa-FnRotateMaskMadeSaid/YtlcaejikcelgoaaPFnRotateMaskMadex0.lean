-- Written by a program of this session out of the translation (wip/pp.py): Lean checks it.
import Derived.Test.YtlcaejikcelgoaaProg
import Derived.Below
import Derived.Deep.Draws
import Derived.Deep.AppendLies
import Derived.Maps.AppendAt
import Derived.OwnWalk
import Derived.Laws.BytesArg
import Derived.Laws.MakeOwn
import Derived.Laws.OwnMore
import Derived.Deep.OwnRows
import Derived.Tactics
import Derived.Lib.ConvBytes
import Derived.Laws.Slices
import Derived.WalkKit
import Derived.KernelRfl
import Derived.RowKit3
import Derived.Deep.LoopGhost
import Derived.Deep.QuietTactic
import Derived.BigQuiet
import Derived.WideLaws
import Derived.Deep.DeepCutAuto
import Derived.Deep.CutBlock
import Derived.Deep.RegionHeld3
import Derived.Laws.Rows
import Derived.Lib.AppendStr
import Derived.ArgAppend
import Derived.Laws.IdiomCopy
import Derived.OrdersHeld
import Derived.Laws.BitsLemmas
import Derived.RowKit
import Derived.Test.YtlcaejikcelgoaaWWords
import Derived.Test.YtlcaejikcelgoaaWLast
import Derived.Test.YtlcaejikcelgoaaWTab
import Derived.Test.YtlcaejikcelgoaaWFour
import Derived.Test.YtlcaejikcelgoaaWQPut
import Derived.Test.YtlcaejikcelgoaaWApart
import Derived.Test.YtlcaejikcelgoaaWArr
import Derived.Test.YtlcaejikcelgoaaWZeros
import Derived.Test.YtlcaejikcelgoaaWFoot
import Derived.Test.YtlcaejikcelgoaaWKept
import Derived.Test.YtlcaejikcelgoaaWShare
import Derived.Test.YtlcaejikcelgoaaWN
import Derived.Test.YtlcaejikcelgoaaWFootNe
import Derived.Test.YtlcaejikcelgoaaWAt
import Derived.Test.YtlcaejikcelgoaaWEqStruct
import Derived.Test.YtlcaejikcelgoaaWRepsOne
import Derived.Test.YtlcaejikcelgoaaWInv
import Derived.Test.YtlcaejikcelgoaaWInvWords
import Derived.Test.YtlcaejikcelgoaaWGuard
import Derived.Test.YtlcaejikcelgoaaWNEv
import Derived.Test.YtlcaejikcelgoaaWMore
namespace Go.Proofs.Ytlcaejikcelgoaa.PFnRotateMaskMade
open Go.RowKit Go.Proofs.YtlcaejikcelgoaaW.PrintWords Go.Proofs.YtlcaejikcelgoaaW.PrintLast Go.Proofs.YtlcaejikcelgoaaW.PrintMore
attribute [local go_sem] max2_int min2_int max_two min_two max_three min_three max_four min_four   -- for this text's walks alone
set_option linter.unusedVariables false
set_option linter.unusedSimpArgs false



def errW : Option Int → Value
  | none => .nilIface
  | some c => .iface 0 (.int .i64 c)
theorem signed_u32 : IntKind.u32.signed = false := rfl
theorem max_u32 : IntKind.u32.max = 4294967295 := by decide
theorem signed_u64 : IntKind.u64.signed = false := rfl
theorem max_u64 : IntKind.u64.max = 18446744073709551615 := by decide
theorem errW_none : errW none = .nilIface := rfl
theorem errW_some (c : Int) : errW (some c) = .iface 0 (.int .i64 c) := rfl

-- the values' own types

end Go.Proofs.Ytlcaejikcelgoaa.PFnRotateMaskMade
