/-
  No cell of these rows narrows 'for every input' (looked for: loops, veiled, ifaces, maps, wideKeys, modest, calm, conditions, laid).
  DERIVED. THE GIVEN ROWS OF THIS SEAT. 5 by the template 'for every input the law returns true; each argument reads behind the call as it read before'; 0 by the template 'total and deterministic' (their statements: YtcihkjjejckicaaTotals.lean).
  GIVEN WITH THE SEED: the statements are not yours to turn. If you find one false, say at which input.
  Laid BY PROGRAM, IN A SANDBOX (cutbox-rows.mjs): the forced cells as the released guide's own fill.sh prints them over the translation d35390b0541fae11… (all of the seat's roots in one cut). By AI agents, Wed Nov 11 2026. No macro, syntax, notation, axiom, sorry.
-/
import Derived.Test.YtcihkjjejckicaaChecked
import GoSem.Claim
import GoSem.ClaimJoined
import GoSem.ClaimMapViews
import Derived.JoinedTies
import Derived.KernelRfl
namespace Go.Proofs.Ytcihkjjejckicaa
/- THE CELL 'sum', in the pinned program and in every row, IS THE sha256 OF THE DUMP (.gsa) THAT YtcihkjjejckicaaProg.lean LOADS. Nothing in Lean hashes anything: it is a label: what it is worth is what the hold of that sum in a sandbox is worth. -/
noncomputable def Try.pinned : Pinned := { name := "ytcihkjjejckicaa", sum := "d35390b0541fae11bcf628c6d1b1aa27da1d946acb30ea0faeab0e3217da4770", checked := Try.checked }
namespace Rows
def none {H : Type} : Left H := { results := [], args := [] }

/-- 'laws.FnMulHalves64': WHATEVER THE INPUT: true; the input reads as it did. -/
def fnMulHalves64Spec : ChangeSpec := { name := "fnMulHalves64", fn := fun _ => fun
  | [d1, d2] => { results := [.lit (.bool true)], args := [d1, d2] }
  | _ => none }
def fnMulHalves64Row : OpenClaim := { program := "ytcihkjjejckicaa", sum := "d35390b0541fae11bcf628c6d1b1aa27da1d946acb30ea0faeab0e3217da4770", func := "loop.example/pub-g01459/laws.FnMulHalves64", spec := "fnMulHalves64", apart := false }
def FnMulHalves64Said : Prop := fnMulHalves64Row.holds Try.pinned (OpenSpec.ofChange fnMulHalves64Spec)

/-- ITS FALSE NEIGHBOUR: 'it returns false'. Refute it at one input. -/
def fnMulHalves64Wrong : ChangeSpec := { name := "fnMulHalves64", fn := fun _ => fun
  | [d1, d2] => { results := [.lit (.bool false)], args := [d1, d2] }
  | _ => none }
def FnMulHalves64WrongFalsely : Prop := fnMulHalves64Row.holds Try.pinned (OpenSpec.ofChange fnMulHalves64Wrong)

/-- 'laws.FnUnsigned': WHATEVER THE INPUT: true; the input reads as it did. -/
def fnUnsignedSpec : ChangeSpec := { name := "fnUnsigned", fn := fun _ => fun
  | [d] => { results := [.lit (.bool true)], args := [d] }
  | _ => none }
def fnUnsignedRow : OpenClaim := { program := "ytcihkjjejckicaa", sum := "d35390b0541fae11bcf628c6d1b1aa27da1d946acb30ea0faeab0e3217da4770", func := "loop.example/pub-g01459/laws.FnUnsigned", spec := "fnUnsigned", apart := false }
def FnUnsignedSaid : Prop := fnUnsignedRow.holds Try.pinned (OpenSpec.ofChange fnUnsignedSpec)

/-- ITS FALSE NEIGHBOUR: 'it returns false'. Refute it at one input. -/
def fnUnsignedWrong : ChangeSpec := { name := "fnUnsigned", fn := fun _ => fun
  | [d] => { results := [.lit (.bool false)], args := [d] }
  | _ => none }
def FnUnsignedWrongFalsely : Prop := fnUnsignedRow.holds Try.pinned (OpenSpec.ofChange fnUnsignedWrong)

/-- 'laws.FnBitconIs': WHATEVER THE INPUT: true; the input reads as it did. -/
def fnBitconIsSpec : ChangeSpec := { name := "fnBitconIs", fn := fun _ => fun
  | [d] => { results := [.lit (.bool true)], args := [d] }
  | _ => none }
def fnBitconIsRow : OpenClaim := { program := "ytcihkjjejckicaa", sum := "d35390b0541fae11bcf628c6d1b1aa27da1d946acb30ea0faeab0e3217da4770", func := "loop.example/pub-g01459/laws.FnBitconIs", spec := "fnBitconIs", apart := false }
def FnBitconIsSaid : Prop := fnBitconIsRow.holds Try.pinned (OpenSpec.ofChange fnBitconIsSpec)

/-- ITS FALSE NEIGHBOUR: 'it returns false'. Refute it at one input. -/
def fnBitconIsWrong : ChangeSpec := { name := "fnBitconIs", fn := fun _ => fun
  | [d] => { results := [.lit (.bool false)], args := [d] }
  | _ => none }
def FnBitconIsWrongFalsely : Prop := fnBitconIsRow.holds Try.pinned (OpenSpec.ofChange fnBitconIsWrong)

/-- 'laws.FnBitconTurn': WHATEVER THE INPUT: true; the input reads as it did. -/
def fnBitconTurnSpec : ChangeSpec := { name := "fnBitconTurn", fn := fun _ => fun
  | [d1, d2] => { results := [.lit (.bool true)], args := [d1, d2] }
  | _ => none }
def fnBitconTurnRow : OpenClaim := { program := "ytcihkjjejckicaa", sum := "d35390b0541fae11bcf628c6d1b1aa27da1d946acb30ea0faeab0e3217da4770", func := "loop.example/pub-g01459/laws.FnBitconTurn", spec := "fnBitconTurn", apart := false }
def FnBitconTurnSaid : Prop := fnBitconTurnRow.holds Try.pinned (OpenSpec.ofChange fnBitconTurnSpec)

/-- ITS FALSE NEIGHBOUR: 'it returns false'. Refute it at one input. -/
def fnBitconTurnWrong : ChangeSpec := { name := "fnBitconTurn", fn := fun _ => fun
  | [d1, d2] => { results := [.lit (.bool false)], args := [d1, d2] }
  | _ => none }
def FnBitconTurnWrongFalsely : Prop := fnBitconTurnRow.holds Try.pinned (OpenSpec.ofChange fnBitconTurnWrong)

/-- 'laws.FnLogs': WHATEVER THE INPUT: true; the input reads as it did. -/
def fnLogsSpec : ChangeSpec := { name := "fnLogs", fn := fun _ => fun
  | [d] => { results := [.lit (.bool true)], args := [d] }
  | _ => none }
def fnLogsRow : OpenClaim := { program := "ytcihkjjejckicaa", sum := "d35390b0541fae11bcf628c6d1b1aa27da1d946acb30ea0faeab0e3217da4770", func := "loop.example/pub-g01459/laws.FnLogs", spec := "fnLogs", apart := false }
def FnLogsSaid : Prop := fnLogsRow.holds Try.pinned (OpenSpec.ofChange fnLogsSpec)

/-- ITS FALSE NEIGHBOUR: 'it returns false'. Refute it at one input. -/
def fnLogsWrong : ChangeSpec := { name := "fnLogs", fn := fun _ => fun
  | [d] => { results := [.lit (.bool false)], args := [d] }
  | _ => none }
def FnLogsWrongFalsely : Prop := fnLogsRow.holds Try.pinned (OpenSpec.ofChange fnLogsWrong)

/- THE SECOND FORM. 'bulk': how many values and letters a reading holds, each counted each time it is reached (what is shared counts as often as it is met; a slice's spare places count too). A statement '..UptoSaid' is the law's where the arguments, and the package variables that the reading takes, are together of bulk at most 1048576: NARROWER than '..Said'. Prove '..Said' where nothing that the law and all that it calls make is longer than what came in: it says more and counts as full. Else prove '..UptoSaid'. A law counts once. -/
mutual
def uptoBulk {H : Type} : DataW H → Nat
  | .lit (.string bytes) => bytes.length + 1
  | .lit _ => 1
  | .nil => 1
  | .ptr d => uptoBulk d + 1
  | .slice elems spare => uptoBulkAll elems + uptoBulkAll spare + 1
  | .agg parts => uptoBulkAll parts + 1
  | .iface _ d => uptoBulk d + 1
  | .map entries => uptoBulkEntries entries + 1
  | .held _ => 1
def uptoBulkAll {H : Type} : List (DataW H) → Nat
  | [] => 0
  | d :: r => uptoBulk d + uptoBulkAll r
def uptoBulkEntries {H : Type} : List (Lit × DataW H) → Nat
  | [] => 0
  | x :: r => uptoBulkEntry x + uptoBulkEntries r
def uptoBulkEntry {H : Type} : Lit × DataW H → Nat
  | (.string bytes, d) => bytes.length + uptoBulk d + 1
  | (_, d) => uptoBulk d + 1
 end
def uptoSmall : (H : Type) → List (DataW H) → Bool := fun _ ds => decide (uptoBulkAll ds ≤ 1048576)
def OpenSpec.upto (s : _root_.Go.ChangeSpec) : _root_.Go.OpenSpec := { _root_.Go.OpenSpec.ofChange s with cond := some uptoSmall }

/-- 'laws.FnMulHalves64', WHERE WHAT IT READS IS OF BULK AT MOST 1048576: true; the input reads as it did. -/
def fnMulHalves64UptoRow : OpenClaim := { program := "ytcihkjjejckicaa", sum := "d35390b0541fae11bcf628c6d1b1aa27da1d946acb30ea0faeab0e3217da4770", func := "loop.example/pub-g01459/laws.FnMulHalves64", spec := "fnMulHalves64", apart := false, narrowed := true }
def FnMulHalves64UptoSaid : Prop := fnMulHalves64UptoRow.holds Try.pinned (OpenSpec.upto fnMulHalves64Spec)

/-- 'laws.FnUnsigned', WHERE WHAT IT READS IS OF BULK AT MOST 1048576: true; the input reads as it did. -/
def fnUnsignedUptoRow : OpenClaim := { program := "ytcihkjjejckicaa", sum := "d35390b0541fae11bcf628c6d1b1aa27da1d946acb30ea0faeab0e3217da4770", func := "loop.example/pub-g01459/laws.FnUnsigned", spec := "fnUnsigned", apart := false, narrowed := true }
def FnUnsignedUptoSaid : Prop := fnUnsignedUptoRow.holds Try.pinned (OpenSpec.upto fnUnsignedSpec)

/-- 'laws.FnBitconIs', WHERE WHAT IT READS IS OF BULK AT MOST 1048576: true; the input reads as it did. -/
def fnBitconIsUptoRow : OpenClaim := { program := "ytcihkjjejckicaa", sum := "d35390b0541fae11bcf628c6d1b1aa27da1d946acb30ea0faeab0e3217da4770", func := "loop.example/pub-g01459/laws.FnBitconIs", spec := "fnBitconIs", apart := false, narrowed := true }
def FnBitconIsUptoSaid : Prop := fnBitconIsUptoRow.holds Try.pinned (OpenSpec.upto fnBitconIsSpec)

/-- 'laws.FnBitconTurn', WHERE WHAT IT READS IS OF BULK AT MOST 1048576: true; the input reads as it did. -/
def fnBitconTurnUptoRow : OpenClaim := { program := "ytcihkjjejckicaa", sum := "d35390b0541fae11bcf628c6d1b1aa27da1d946acb30ea0faeab0e3217da4770", func := "loop.example/pub-g01459/laws.FnBitconTurn", spec := "fnBitconTurn", apart := false, narrowed := true }
def FnBitconTurnUptoSaid : Prop := fnBitconTurnUptoRow.holds Try.pinned (OpenSpec.upto fnBitconTurnSpec)

/-- 'laws.FnLogs', WHERE WHAT IT READS IS OF BULK AT MOST 1048576: true; the input reads as it did. -/
def fnLogsUptoRow : OpenClaim := { program := "ytcihkjjejckicaa", sum := "d35390b0541fae11bcf628c6d1b1aa27da1d946acb30ea0faeab0e3217da4770", func := "loop.example/pub-g01459/laws.FnLogs", spec := "fnLogs", apart := false, narrowed := true }
def FnLogsUptoSaid : Prop := fnLogsUptoRow.holds Try.pinned (OpenSpec.upto fnLogsSpec)

end Rows
end Go.Proofs.Ytcihkjjejckicaa
