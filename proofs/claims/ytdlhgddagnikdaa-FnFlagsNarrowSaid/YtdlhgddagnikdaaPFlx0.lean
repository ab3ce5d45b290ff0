-- Written by a program of this session out of the translation (wip/pp.py): Lean checks it.
import Derived.Test.YtdlhgddagnikdaaProg
import Derived.Below
import Derived.Deep.Draws
import Derived.Deep.AppendLies
import Derived.Maps.AppendAt
import Derived.OwnWalk
import Derived.Laws.BytesArg
import Derived.Laws.MakeOwn
import Derived.Laws.OwnMore
import Derived.Deep.OwnRows
import Derived.Tactics
import Derived.Lib.ConvBytes
import Derived.Laws.Slices
import Derived.WalkKit
import Derived.KernelRfl
import Derived.RowKit3
import Derived.Deep.LoopGhost
import Derived.Deep.QuietTactic
import Derived.BigQuiet
import Derived.WideLaws
import Derived.Deep.DeepCutAuto
import Derived.Deep.CutBlock
import Derived.Deep.RegionHeld3
import Derived.Laws.Rows
import Derived.Lib.AppendStr
import Derived.ArgAppend
import Derived.Laws.IdiomCopy
import Derived.OrdersHeld
import Derived.Laws.BitsLemmas
import Derived.RowKit
import Derived.Test.YtdlhgddagnikdaaWWords
import Derived.Test.YtdlhgddagnikdaaWLast
import Derived.Test.YtdlhgddagnikdaaWTab
import Derived.Test.YtdlhgddagnikdaaWFour
import Derived.Test.YtdlhgddagnikdaaWQPut
import Derived.Test.YtdlhgddagnikdaaWApart
import Derived.Test.YtdlhgddagnikdaaWArr
import Derived.Test.YtdlhgddagnikdaaWZeros
import Derived.Test.YtdlhgddagnikdaaWFoot
import Derived.Test.YtdlhgddagnikdaaWKept
import Derived.Test.YtdlhgddagnikdaaWShare
import Derived.Test.YtdlhgddagnikdaaWN
import Derived.Test.YtdlhgddagnikdaaWFootNe
import Derived.Test.YtdlhgddagnikdaaWAt
import Derived.Test.YtdlhgddagnikdaaWEqStruct
import Derived.Test.YtdlhgddagnikdaaWRepsOne
import Derived.Test.YtdlhgddagnikdaaWInv
import Derived.Test.YtdlhgddagnikdaaWInvWords
import Derived.Test.YtdlhgddagnikdaaWGuard
import Derived.Test.YtdlhgddagnikdaaWNEv
import Derived.Test.YtdlhgddagnikdaaWMore
namespace Go.Proofs.Ytdlhgddagnikdaa.PFl
open Go.RowKit Go.Proofs.YtdlhgddagnikdaaW.PrintWords Go.Proofs.YtdlhgddagnikdaaW.PrintLast Go.Proofs.YtdlhgddagnikdaaW.PrintMore
attribute [local go_sem] max2_int min2_int max_two min_two max_three min_three max_four min_four   -- for this text's walks alone
set_option linter.unusedVariables false
set_option linter.unusedSimpArgs false



def errW : Option Int → Value
  | none => .nilIface
  | some c => .iface 0 (.int .i64 c)
theorem signed_u32 : IntKind.u32.signed = false := rfl
theorem max_u32 : IntKind.u32.max = 4294967295 := by decide
theorem signed_i64 : IntKind.i64.signed = true := rfl
theorem signed_i32 : IntKind.i32.signed = true := rfl
theorem signed_u64 : IntKind.u64.signed = false := rfl
theorem max_u64 : IntKind.u64.max = 18446744073709551615 := by decide
theorem errW_none : errW none = .nilIface := rfl
theorem errW_some (c : Int) : errW (some c) = .iface 0 (.int .i64 c) := rfl

-- the values' own types

end Go.Proofs.Ytdlhgddagnikdaa.PFl
