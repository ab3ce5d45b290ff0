/-
  No cell of these rows narrows 'for every input' (looked for: loops, veiled, ifaces, maps, wideKeys, modest, calm, conditions, laid).
  DERIVED. THE GIVEN ROWS OF THIS SEAT. 6 by the template 'for every input the law returns true; each argument reads behind the call as it read before'; 0 by the template 'total and deterministic' (their statements: YtdlhgddagnikdaaTotals.lean).
  GIVEN WITH THE SEED: the statements are not yours to turn. If you find one false, say at which input.
  Laid BY PROGRAM, IN A SANDBOX (cutbox-rows.mjs): the forced cells as the released guide's own fill.sh prints them over the translation 3a39f68511cc9502… (all of the seat's roots in one cut). By AI agents, Wed Nov 11 2026. No macro, syntax, notation, axiom, sorry.
-/
import Derived.Test.YtdlhgddagnikdaaChecked
import GoSem.Claim
import GoSem.ClaimJoined
import GoSem.ClaimMapViews
import Derived.JoinedTies
import Derived.KernelRfl
namespace Go.Proofs.Ytdlhgddagnikdaa
/- THE CELL 'sum', in the pinned program and in every row, IS THE sha256 OF THE DUMP (.gsa) THAT YtdlhgddagnikdaaProg.lean LOADS. Nothing in Lean hashes anything: it is a label: what it is worth is what the hold of that sum in a sandbox is worth. -/
noncomputable def Try.pinned : Pinned := { name := "ytdlhgddagnikdaa", sum := "3a39f68511cc9502f240310427cb4cea353f2a3782d3ff4c17798c951393c6fe", checked := Try.checked }
namespace Rows
def none {H : Type} : Left H := { results := [], args := [] }

/-- 'laws.FnAddBits32': WHATEVER THE INPUT: true; the input reads as it did. -/
def fnAddBits32Spec : ChangeSpec := { name := "fnAddBits32", fn := fun _ => fun
  | [d1, d2] => { results := [.lit (.bool true)], args := [d1, d2] }
  | _ => none }
def fnAddBits32Row : OpenClaim := { program := "ytdlhgddagnikdaa", sum := "3a39f68511cc9502f240310427cb4cea353f2a3782d3ff4c17798c951393c6fe", func := "loop.example/pub-g01459/laws.FnAddBits32", spec := "fnAddBits32", apart := false }
def FnAddBits32Said : Prop := fnAddBits32Row.holds Try.pinned (OpenSpec.ofChange fnAddBits32Spec)

/-- ITS FALSE NEIGHBOUR: 'it returns false'. Refute it at one input. -/
def fnAddBits32Wrong : ChangeSpec := { name := "fnAddBits32", fn := fun _ => fun
  | [d1, d2] => { results := [.lit (.bool false)], args := [d1, d2] }
  | _ => none }
def FnAddBits32WrongFalsely : Prop := fnAddBits32Row.holds Try.pinned (OpenSpec.ofChange fnAddBits32Wrong)

/-- 'laws.FnNoovAgree': WHATEVER THE INPUT: true; the input reads as it did. -/
def fnNoovAgreeSpec : ChangeSpec := { name := "fnNoovAgree", fn := fun _ => fun
  | [d1, d2] => { results := [.lit (.bool true)], args := [d1, d2] }
  | _ => none }
def fnNoovAgreeRow : OpenClaim := { program := "ytdlhgddagnikdaa", sum := "3a39f68511cc9502f240310427cb4cea353f2a3782d3ff4c17798c951393c6fe", func := "loop.example/pub-g01459/laws.FnNoovAgree", spec := "fnNoovAgree", apart := false }
def FnNoovAgreeSaid : Prop := fnNoovAgreeRow.holds Try.pinned (OpenSpec.ofChange fnNoovAgreeSpec)

/-- ITS FALSE NEIGHBOUR: 'it returns false'. Refute it at one input. -/
def fnNoovAgreeWrong : ChangeSpec := { name := "fnNoovAgree", fn := fun _ => fun
  | [d1, d2] => { results := [.lit (.bool false)], args := [d1, d2] }
  | _ => none }
def FnNoovAgreeWrongFalsely : Prop := fnNoovAgreeRow.holds Try.pinned (OpenSpec.ofChange fnNoovAgreeWrong)

/-- 'laws.FnSubBits64': WHATEVER THE INPUT: true; the input reads as it did. -/
def fnSubBits64Spec : ChangeSpec := { name := "fnSubBits64", fn := fun _ => fun
  | [d1, d2] => { results := [.lit (.bool true)], args := [d1, d2] }
  | _ => none }
def fnSubBits64Row : OpenClaim := { program := "ytdlhgddagnikdaa", sum := "3a39f68511cc9502f240310427cb4cea353f2a3782d3ff4c17798c951393c6fe", func := "loop.example/pub-g01459/laws.FnSubBits64", spec := "fnSubBits64", apart := false }
def FnSubBits64Said : Prop := fnSubBits64Row.holds Try.pinned (OpenSpec.ofChange fnSubBits64Spec)

/-- ITS FALSE NEIGHBOUR: 'it returns false'. Refute it at one input. -/
def fnSubBits64Wrong : ChangeSpec := { name := "fnSubBits64", fn := fun _ => fun
  | [d1, d2] => { results := [.lit (.bool false)], args := [d1, d2] }
  | _ => none }
def FnSubBits64WrongFalsely : Prop := fnSubBits64Row.holds Try.pinned (OpenSpec.ofChange fnSubBits64Wrong)

/-- 'laws.FnSubFlags64': WHATEVER THE INPUT: true; the input reads as it did. -/
def fnSubFlags64Spec : ChangeSpec := { name := "fnSubFlags64", fn := fun _ => fun
  | [d1, d2] => { results := [.lit (.bool true)], args := [d1, d2] }
  | _ => none }
def fnSubFlags64Row : OpenClaim := { program := "ytdlhgddagnikdaa", sum := "3a39f68511cc9502f240310427cb4cea353f2a3782d3ff4c17798c951393c6fe", func := "loop.example/pub-g01459/laws.FnSubFlags64", spec := "fnSubFlags64", apart := false }
def FnSubFlags64Said : Prop := fnSubFlags64Row.holds Try.pinned (OpenSpec.ofChange fnSubFlags64Spec)

/-- ITS FALSE NEIGHBOUR: 'it returns false'. Refute it at one input. -/
def fnSubFlags64Wrong : ChangeSpec := { name := "fnSubFlags64", fn := fun _ => fun
  | [d1, d2] => { results := [.lit (.bool false)], args := [d1, d2] }
  | _ => none }
def FnSubFlags64WrongFalsely : Prop := fnSubFlags64Row.holds Try.pinned (OpenSpec.ofChange fnSubFlags64Wrong)

/-- 'laws.FnLogicBits': WHATEVER THE INPUT: true; the input reads as it did. -/
def fnLogicBitsSpec : ChangeSpec := { name := "fnLogicBits", fn := fun _ => fun
  | [d] => { results := [.lit (.bool true)], args := [d] }
  | _ => none }
def fnLogicBitsRow : OpenClaim := { program := "ytdlhgddagnikdaa", sum := "3a39f68511cc9502f240310427cb4cea353f2a3782d3ff4c17798c951393c6fe", func := "loop.example/pub-g01459/laws.FnLogicBits", spec := "fnLogicBits", apart := false }
def FnLogicBitsSaid : Prop := fnLogicBitsRow.holds Try.pinned (OpenSpec.ofChange fnLogicBitsSpec)

/-- ITS FALSE NEIGHBOUR: 'it returns false'. Refute it at one input. -/
def fnLogicBitsWrong : ChangeSpec := { name := "fnLogicBits", fn := fun _ => fun
  | [d] => { results := [.lit (.bool false)], args := [d] }
  | _ => none }
def FnLogicBitsWrongFalsely : Prop := fnLogicBitsRow.holds Try.pinned (OpenSpec.ofChange fnLogicBitsWrong)

/-- 'laws.FnFlagsNarrow': WHATEVER THE INPUT: true; the input reads as it did. -/
def fnFlagsNarrowSpec : ChangeSpec := { name := "fnFlagsNarrow", fn := fun _ => fun
  | [d1, d2] => { results := [.lit (.bool true)], args := [d1, d2] }
  | _ => none }
def fnFlagsNarrowRow : OpenClaim := { program := "ytdlhgddagnikdaa", sum := "3a39f68511cc9502f240310427cb4cea353f2a3782d3ff4c17798c951393c6fe", func := "loop.example/pub-g01459/laws.FnFlagsNarrow", spec := "fnFlagsNarrow", apart := false }
def FnFlagsNarrowSaid : Prop := fnFlagsNarrowRow.holds Try.pinned (OpenSpec.ofChange fnFlagsNarrowSpec)

/-- ITS FALSE NEIGHBOUR: 'it returns false'. Refute it at one input. -/
def fnFlagsNarrowWrong : ChangeSpec := { name := "fnFlagsNarrow", fn := fun _ => fun
  | [d1, d2] => { results := [.lit (.bool false)], args := [d1, d2] }
  | _ => none }
def FnFlagsNarrowWrongFalsely : Prop := fnFlagsNarrowRow.holds Try.pinned (OpenSpec.ofChange fnFlagsNarrowWrong)

/- THE SECOND FORM. 'bulk': how many values and letters a reading holds, each counted each time it is reached (what is shared counts as often as it is met; a slice's spare places count too). A statement '..UptoSaid' is the law's where the arguments, and the package variables that the reading takes, are together of bulk at most 1048576: NARROWER than '..Said'. Prove '..Said' where nothing that the law and all that it calls make is longer than what came in: it says more and counts as full. Else prove '..UptoSaid'. A law counts once. -/
mutual
def uptoBulk {H : Type} : DataW H → Nat
  | .lit (.string bytes) => bytes.length + 1
  | .lit _ => 1
  | .nil => 1
  | .ptr d => uptoBulk d + 1
  | .slice elems spare => uptoBulkAll elems + uptoBulkAll spare + 1
  | .agg parts => uptoBulkAll parts + 1
  | .iface _ d => uptoBulk d + 1
  | .map entries => uptoBulkEntries entries + 1
  | .held _ => 1
def uptoBulkAll {H : Type} : List (DataW H) → Nat
  | [] => 0
  | d :: r => uptoBulk d + uptoBulkAll r
def uptoBulkEntries {H : Type} : List (Lit × DataW H) → Nat
  | [] => 0
  | x :: r => uptoBulkEntry x + uptoBulkEntries r
def uptoBulkEntry {H : Type} : Lit × DataW H → Nat
  | (.string bytes, d) => bytes.length + uptoBulk d + 1
  | (_, d) => uptoBulk d + 1
 end
def uptoSmall : (H : Type) → List (DataW H) → Bool := fun _ ds => decide (uptoBulkAll ds ≤ 1048576)
def OpenSpec.upto (s : _root_.Go.ChangeSpec) : _root_.Go.OpenSpec := { _root_.Go.OpenSpec.ofChange s with cond := some uptoSmall }

/-- 'laws.FnAddBits32', WHERE WHAT IT READS IS OF BULK AT MOST 1048576: true; the input reads as it did. -/
def fnAddBits32UptoRow : OpenClaim := { program := "ytdlhgddagnikdaa", sum := "3a39f68511cc9502f240310427cb4cea353f2a3782d3ff4c17798c951393c6fe", func := "loop.example/pub-g01459/laws.FnAddBits32", spec := "fnAddBits32", apart := false, narrowed := true }
def FnAddBits32UptoSaid : Prop := fnAddBits32UptoRow.holds Try.pinned (OpenSpec.upto fnAddBits32Spec)

/-- 'laws.FnNoovAgree', WHERE WHAT IT READS IS OF BULK AT MOST 1048576: true; the input reads as it did. -/
def fnNoovAgreeUptoRow : OpenClaim := { program := "ytdlhgddagnikdaa", sum := "3a39f68511cc9502f240310427cb4cea353f2a3782d3ff4c17798c951393c6fe", func := "loop.example/pub-g01459/laws.FnNoovAgree", spec := "fnNoovAgree", apart := false, narrowed := true }
def FnNoovAgreeUptoSaid : Prop := fnNoovAgreeUptoRow.holds Try.pinned (OpenSpec.upto fnNoovAgreeSpec)

/-- 'laws.FnSubBits64', WHERE WHAT IT READS IS OF BULK AT MOST 1048576: true; the input reads as it did. -/
def fnSubBits64UptoRow : OpenClaim := { program := "ytdlhgddagnikdaa", sum := "3a39f68511cc9502f240310427cb4cea353f2a3782d3ff4c17798c951393c6fe", func := "loop.example/pub-g01459/laws.FnSubBits64", spec := "fnSubBits64", apart := false, narrowed := true }
def FnSubBits64UptoSaid : Prop := fnSubBits64UptoRow.holds Try.pinned (OpenSpec.upto fnSubBits64Spec)

/-- 'laws.FnSubFlags64', WHERE WHAT IT READS IS OF BULK AT MOST 1048576: true; the input reads as it did. -/
def fnSubFlags64UptoRow : OpenClaim := { program := "ytdlhgddagnikdaa", sum := "3a39f68511cc9502f240310427cb4cea353f2a3782d3ff4c17798c951393c6fe", func := "loop.example/pub-g01459/laws.FnSubFlags64", spec := "fnSubFlags64", apart := false, narrowed := true }
def FnSubFlags64UptoSaid : Prop := fnSubFlags64UptoRow.holds Try.pinned (OpenSpec.upto fnSubFlags64Spec)

/-- 'laws.FnLogicBits', WHERE WHAT IT READS IS OF BULK AT MOST 1048576: true; the input reads as it did. -/
def fnLogicBitsUptoRow : OpenClaim := { program := "ytdlhgddagnikdaa", sum := "3a39f68511cc9502f240310427cb4cea353f2a3782d3ff4c17798c951393c6fe", func := "loop.example/pub-g01459/laws.FnLogicBits", spec := "fnLogicBits", apart := false, narrowed := true }
def FnLogicBitsUptoSaid : Prop := fnLogicBitsUptoRow.holds Try.pinned (OpenSpec.upto fnLogicBitsSpec)

/-- 'laws.FnFlagsNarrow', WHERE WHAT IT READS IS OF BULK AT MOST 1048576: true; the input reads as it did. -/
def fnFlagsNarrowUptoRow : OpenClaim := { program := "ytdlhgddagnikdaa", sum := "3a39f68511cc9502f240310427cb4cea353f2a3782d3ff4c17798c951393c6fe", func := "loop.example/pub-g01459/laws.FnFlagsNarrow", spec := "fnFlagsNarrow", apart := false, narrowed := true }
def FnFlagsNarrowUptoSaid : Prop := fnFlagsNarrowUptoRow.holds Try.pinned (OpenSpec.upto fnFlagsNarrowSpec)

end Rows
end Go.Proofs.Ytdlhgddagnikdaa
