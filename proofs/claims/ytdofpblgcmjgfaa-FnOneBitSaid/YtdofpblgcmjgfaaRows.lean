/-
  No cell of these rows narrows 'for every input' (looked for: loops, veiled, ifaces, maps, wideKeys, modest, calm, conditions, laid).
  DERIVED. THE GIVEN ROWS OF THIS SEAT. 8 by the template 'for every input the law returns true; each argument reads behind the call as it read before'; 0 by the template 'total and deterministic' (their statements: YtdofpblgcmjgfaaTotals.lean).
  GIVEN WITH THE SEED: the statements are not yours to turn. If you find one false, say at which input.
  Laid BY PROGRAM, IN A SANDBOX (cutbox-rows.mjs): the forced cells as the released guide's own fill.sh prints them over the translation 8ad1f6ec853e0563… (all of the seat's roots in one cut). By AI agents, Wed Nov 11 2026. No macro, syntax, notation, axiom, sorry.
-/
import Derived.Test.YtdofpblgcmjgfaaChecked
import GoSem.Claim
import GoSem.ClaimJoined
import GoSem.ClaimMapViews
import Derived.JoinedTies
import Derived.KernelRfl
namespace Go.Proofs.Ytdofpblgcmjgfaa
/- THE CELL 'sum', in the pinned program and in every row, IS THE sha256 OF THE DUMP (.gsa) THAT YtdofpblgcmjgfaaProg.lean LOADS. Nothing in Lean hashes anything: it is a label: what it is worth is what the hold of that sum in a sandbox is worth. -/
noncomputable def Try.pinned : Pinned := { name := "ytdofpblgcmjgfaa", sum := "8ad1f6ec853e05630df5d206d97ad930a03e647a31c2de3a75581967e0b4ccb4", checked := Try.checked }
namespace Rows
def none {H : Type} : Left H := { results := [], args := [] }

/-- 'laws.FnUaddOvf': WHATEVER THE INPUT: true; the input reads as it did. -/
def fnUaddOvfSpec : ChangeSpec := { name := "fnUaddOvf", fn := fun _ => fun
  | [d1, d2] => { results := [.lit (.bool true)], args := [d1, d2] }
  | _ => none }
def fnUaddOvfRow : OpenClaim := { program := "ytdofpblgcmjgfaa", sum := "8ad1f6ec853e05630df5d206d97ad930a03e647a31c2de3a75581967e0b4ccb4", func := "loop.example/pub-g01459/laws.FnUaddOvf", spec := "fnUaddOvf", apart := false }
def FnUaddOvfSaid : Prop := fnUaddOvfRow.holds Try.pinned (OpenSpec.ofChange fnUaddOvfSpec)

/-- ITS FALSE NEIGHBOUR: 'it returns false'. Refute it at one input. -/
def fnUaddOvfWrong : ChangeSpec := { name := "fnUaddOvf", fn := fun _ => fun
  | [d1, d2] => { results := [.lit (.bool false)], args := [d1, d2] }
  | _ => none }
def FnUaddOvfWrongFalsely : Prop := fnUaddOvfRow.holds Try.pinned (OpenSpec.ofChange fnUaddOvfWrong)

/-- 'laws.FnSequenceMade': WHATEVER THE INPUT: true; the input reads as it did. -/
def fnSequenceMadeSpec : ChangeSpec := { name := "fnSequenceMade", fn := fun _ => fun
  | [d1, d2, d3] => { results := [.lit (.bool true)], args := [d1, d2, d3] }
  | _ => none }
def fnSequenceMadeRow : OpenClaim := { program := "ytdofpblgcmjgfaa", sum := "8ad1f6ec853e05630df5d206d97ad930a03e647a31c2de3a75581967e0b4ccb4", func := "loop.example/pub-g01459/laws.FnSequenceMade", spec := "fnSequenceMade", apart := false }
def FnSequenceMadeSaid : Prop := fnSequenceMadeRow.holds Try.pinned (OpenSpec.ofChange fnSequenceMadeSpec)

/-- ITS FALSE NEIGHBOUR: 'it returns false'. Refute it at one input. -/
def fnSequenceMadeWrong : ChangeSpec := { name := "fnSequenceMade", fn := fun _ => fun
  | [d1, d2, d3] => { results := [.lit (.bool false)], args := [d1, d2, d3] }
  | _ => none }
def FnSequenceMadeWrongFalsely : Prop := fnSequenceMadeRow.holds Try.pinned (OpenSpec.ofChange fnSequenceMadeWrong)

/-- 'laws.FnPowers32': WHATEVER THE INPUT: true; the input reads as it did. -/
def fnPowers32Spec : ChangeSpec := { name := "fnPowers32", fn := fun _ => fun
  | [d] => { results := [.lit (.bool true)], args := [d] }
  | _ => none }
def fnPowers32Row : OpenClaim := { program := "ytdofpblgcmjgfaa", sum := "8ad1f6ec853e05630df5d206d97ad930a03e647a31c2de3a75581967e0b4ccb4", func := "loop.example/pub-g01459/laws.FnPowers32", spec := "fnPowers32", apart := false }
def FnPowers32Said : Prop := fnPowers32Row.holds Try.pinned (OpenSpec.ofChange fnPowers32Spec)

/-- ITS FALSE NEIGHBOUR: 'it returns false'. Refute it at one input. -/
def fnPowers32Wrong : ChangeSpec := { name := "fnPowers32", fn := fun _ => fun
  | [d] => { results := [.lit (.bool false)], args := [d] }
  | _ => none }
def FnPowers32WrongFalsely : Prop := fnPowers32Row.holds Try.pinned (OpenSpec.ofChange fnPowers32Wrong)

/-- 'laws.FnPowers8': WHATEVER THE INPUT: true; the input reads as it did. -/
def fnPowers8Spec : ChangeSpec := { name := "fnPowers8", fn := fun _ => fun
  | [d] => { results := [.lit (.bool true)], args := [d] }
  | _ => none }
def fnPowers8Row : OpenClaim := { program := "ytdofpblgcmjgfaa", sum := "8ad1f6ec853e05630df5d206d97ad930a03e647a31c2de3a75581967e0b4ccb4", func := "loop.example/pub-g01459/laws.FnPowers8", spec := "fnPowers8", apart := false }
def FnPowers8Said : Prop := fnPowers8Row.holds Try.pinned (OpenSpec.ofChange fnPowers8Spec)

/-- ITS FALSE NEIGHBOUR: 'it returns false'. Refute it at one input. -/
def fnPowers8Wrong : ChangeSpec := { name := "fnPowers8", fn := fun _ => fun
  | [d] => { results := [.lit (.bool false)], args := [d] }
  | _ => none }
def FnPowers8WrongFalsely : Prop := fnPowers8Row.holds Try.pinned (OpenSpec.ofChange fnPowers8Wrong)

/-- 'laws.FnRotateLeft32': WHATEVER THE INPUT: true; the input reads as it did. -/
def fnRotateLeft32Spec : ChangeSpec := { name := "fnRotateLeft32", fn := fun _ => fun
  | [d1, d2] => { results := [.lit (.bool true)], args := [d1, d2] }
  | _ => none }
def fnRotateLeft32Row : OpenClaim := { program := "ytdofpblgcmjgfaa", sum := "8ad1f6ec853e05630df5d206d97ad930a03e647a31c2de3a75581967e0b4ccb4", func := "loop.example/pub-g01459/laws.FnRotateLeft32", spec := "fnRotateLeft32", apart := false }
def FnRotateLeft32Said : Prop := fnRotateLeft32Row.holds Try.pinned (OpenSpec.ofChange fnRotateLeft32Spec)

/-- ITS FALSE NEIGHBOUR: 'it returns false'. Refute it at one input. -/
def fnRotateLeft32Wrong : ChangeSpec := { name := "fnRotateLeft32", fn := fun _ => fun
  | [d1, d2] => { results := [.lit (.bool false)], args := [d1, d2] }
  | _ => none }
def FnRotateLeft32WrongFalsely : Prop := fnRotateLeft32Row.holds Try.pinned (OpenSpec.ofChange fnRotateLeft32Wrong)

/-- 'laws.FnImmRotMade': WHATEVER THE INPUT: true; the input reads as it did. -/
def fnImmRotMadeSpec : ChangeSpec := { name := "fnImmRotMade", fn := fun _ => fun
  | [d1, d2] => { results := [.lit (.bool true)], args := [d1, d2] }
  | _ => none }
def fnImmRotMadeRow : OpenClaim := { program := "ytdofpblgcmjgfaa", sum := "8ad1f6ec853e05630df5d206d97ad930a03e647a31c2de3a75581967e0b4ccb4", func := "loop.example/pub-g01459/laws.FnImmRotMade", spec := "fnImmRotMade", apart := false }
def FnImmRotMadeSaid : Prop := fnImmRotMadeRow.holds Try.pinned (OpenSpec.ofChange fnImmRotMadeSpec)

/-- ITS FALSE NEIGHBOUR: 'it returns false'. Refute it at one input. -/
def fnImmRotMadeWrong : ChangeSpec := { name := "fnImmRotMade", fn := fun _ => fun
  | [d1, d2] => { results := [.lit (.bool false)], args := [d1, d2] }
  | _ => none }
def FnImmRotMadeWrongFalsely : Prop := fnImmRotMadeRow.holds Try.pinned (OpenSpec.ofChange fnImmRotMadeWrong)

/-- 'laws.FnOneBit': WHATEVER THE INPUT: true; the input reads as it did. -/
def fnOneBitSpec : ChangeSpec := { name := "fnOneBit", fn := fun _ => fun
  | [d] => { results := [.lit (.bool true)], args := [d] }
  | _ => none }
def fnOneBitRow : OpenClaim := { program := "ytdofpblgcmjgfaa", sum := "8ad1f6ec853e05630df5d206d97ad930a03e647a31c2de3a75581967e0b4ccb4", func := "loop.example/pub-g01459/laws.FnOneBit", spec := "fnOneBit", apart := false }
def FnOneBitSaid : Prop := fnOneBitRow.holds Try.pinned (OpenSpec.ofChange fnOneBitSpec)

/-- ITS FALSE NEIGHBOUR: 'it returns false'. Refute it at one input. -/
def fnOneBitWrong : ChangeSpec := { name := "fnOneBit", fn := fun _ => fun
  | [d] => { results := [.lit (.bool false)], args := [d] }
  | _ => none }
def FnOneBitWrongFalsely : Prop := fnOneBitRow.holds Try.pinned (OpenSpec.ofChange fnOneBitWrong)

/-- 'laws.FnInverse': WHATEVER THE INPUT: true; the input reads as it did. -/
def fnInverseSpec : ChangeSpec := { name := "fnInverse", fn := fun _ => fun
  | [d] => { results := [.lit (.bool true)], args := [d] }
  | _ => none }
def fnInverseRow : OpenClaim := { program := "ytdofpblgcmjgfaa", sum := "8ad1f6ec853e05630df5d206d97ad930a03e647a31c2de3a75581967e0b4ccb4", func := "loop.example/pub-g01459/laws.FnInverse", spec := "fnInverse", apart := false }
def FnInverseSaid : Prop := fnInverseRow.holds Try.pinned (OpenSpec.ofChange fnInverseSpec)

/-- ITS FALSE NEIGHBOUR: 'it returns false'. Refute it at one input. -/
def fnInverseWrong : ChangeSpec := { name := "fnInverse", fn := fun _ => fun
  | [d] => { results := [.lit (.bool false)], args := [d] }
  | _ => none }
def FnInverseWrongFalsely : Prop := fnInverseRow.holds Try.pinned (OpenSpec.ofChange fnInverseWrong)

/- THE SECOND FORM. 'bulk': how many values and letters a reading holds, each counted each time it is reached (what is shared counts as often as it is met; a slice's spare places count too). A statement '..UptoSaid' is the law's where the arguments, and the package variables that the reading takes, are together of bulk at most 1048576: NARROWER than '..Said'. Prove '..Said' where nothing that the law and all that it calls make is longer than what came in: it says more and counts as full. Else prove '..UptoSaid'. A law counts once. -/
mutual
def uptoBulk {H : Type} : DataW H → Nat
  | .lit (.string bytes) => bytes.length + 1
  | .lit _ => 1
  | .nil => 1
  | .ptr d => uptoBulk d + 1
  | .slice elems spare => uptoBulkAll elems + uptoBulkAll spare + 1
  | .agg parts => uptoBulkAll parts + 1
  | .iface _ d => uptoBulk d + 1
  | .map entries => uptoBulkEntries entries + 1
  | .held _ => 1
def uptoBulkAll {H : Type} : List (DataW H) → Nat
  | [] => 0
  | d :: r => uptoBulk d + uptoBulkAll r
def uptoBulkEntries {H : Type} : List (Lit × DataW H) → Nat
  | [] => 0
  | x :: r => uptoBulkEntry x + uptoBulkEntries r
def uptoBulkEntry {H : Type} : Lit × DataW H → Nat
  | (.string bytes, d) => bytes.length + uptoBulk d + 1
  | (_, d) => uptoBulk d + 1
 end
def uptoSmall : (H : Type) → List (DataW H) → Bool := fun _ ds => decide (uptoBulkAll ds ≤ 1048576)
def OpenSpec.upto (s : _root_.Go.ChangeSpec) : _root_.Go.OpenSpec := { _root_.Go.OpenSpec.ofChange s with cond := some uptoSmall }

/-- 'laws.FnUaddOvf', WHERE WHAT IT READS IS OF BULK AT MOST 1048576: true; the input reads as it did. -/
def fnUaddOvfUptoRow : OpenClaim := { program := "ytdofpblgcmjgfaa", sum := "8ad1f6ec853e05630df5d206d97ad930a03e647a31c2de3a75581967e0b4ccb4", func := "loop.example/pub-g01459/laws.FnUaddOvf", spec := "fnUaddOvf", apart := false, narrowed := true }
def FnUaddOvfUptoSaid : Prop := fnUaddOvfUptoRow.holds Try.pinned (OpenSpec.upto fnUaddOvfSpec)

/-- 'laws.FnSequenceMade', WHERE WHAT IT READS IS OF BULK AT MOST 1048576: true; the input reads as it did. -/
def fnSequenceMadeUptoRow : OpenClaim := { program := "ytdofpblgcmjgfaa", sum := "8ad1f6ec853e05630df5d206d97ad930a03e647a31c2de3a75581967e0b4ccb4", func := "loop.example/pub-g01459/laws.FnSequenceMade", spec := "fnSequenceMade", apart := false, narrowed := true }
def FnSequenceMadeUptoSaid : Prop := fnSequenceMadeUptoRow.holds Try.pinned (OpenSpec.upto fnSequenceMadeSpec)

/-- 'laws.FnPowers32', WHERE WHAT IT READS IS OF BULK AT MOST 1048576: true; the input reads as it did. -/
def fnPowers32UptoRow : OpenClaim := { program := "ytdofpblgcmjgfaa", sum := "8ad1f6ec853e05630df5d206d97ad930a03e647a31c2de3a75581967e0b4ccb4", func := "loop.example/pub-g01459/laws.FnPowers32", spec := "fnPowers32", apart := false, narrowed := true }
def FnPowers32UptoSaid : Prop := fnPowers32UptoRow.holds Try.pinned (OpenSpec.upto fnPowers32Spec)

/-- 'laws.FnPowers8', WHERE WHAT IT READS IS OF BULK AT MOST 1048576: true; the input reads as it did. -/
def fnPowers8UptoRow : OpenClaim := { program := "ytdofpblgcmjgfaa", sum := "8ad1f6ec853e05630df5d206d97ad930a03e647a31c2de3a75581967e0b4ccb4", func := "loop.example/pub-g01459/laws.FnPowers8", spec := "fnPowers8", apart := false, narrowed := true }
def FnPowers8UptoSaid : Prop := fnPowers8UptoRow.holds Try.pinned (OpenSpec.upto fnPowers8Spec)

/-- 'laws.FnRotateLeft32', WHERE WHAT IT READS IS OF BULK AT MOST 1048576: true; the input reads as it did. -/
def fnRotateLeft32UptoRow : OpenClaim := { program := "ytdofpblgcmjgfaa", sum := "8ad1f6ec853e05630df5d206d97ad930a03e647a31c2de3a75581967e0b4ccb4", func := "loop.example/pub-g01459/laws.FnRotateLeft32", spec := "fnRotateLeft32", apart := false, narrowed := true }
def FnRotateLeft32UptoSaid : Prop := fnRotateLeft32UptoRow.holds Try.pinned (OpenSpec.upto fnRotateLeft32Spec)

/-- 'laws.FnImmRotMade', WHERE WHAT IT READS IS OF BULK AT MOST 1048576: true; the input reads as it did. -/
def fnImmRotMadeUptoRow : OpenClaim := { program := "ytdofpblgcmjgfaa", sum := "8ad1f6ec853e05630df5d206d97ad930a03e647a31c2de3a75581967e0b4ccb4", func := "loop.example/pub-g01459/laws.FnImmRotMade", spec := "fnImmRotMade", apart := false, narrowed := true }
def FnImmRotMadeUptoSaid : Prop := fnImmRotMadeUptoRow.holds Try.pinned (OpenSpec.upto fnImmRotMadeSpec)

/-- 'laws.FnOneBit', WHERE WHAT IT READS IS OF BULK AT MOST 1048576: true; the input reads as it did. -/
def fnOneBitUptoRow : OpenClaim := { program := "ytdofpblgcmjgfaa", sum := "8ad1f6ec853e05630df5d206d97ad930a03e647a31c2de3a75581967e0b4ccb4", func := "loop.example/pub-g01459/laws.FnOneBit", spec := "fnOneBit", apart := false, narrowed := true }
def FnOneBitUptoSaid : Prop := fnOneBitUptoRow.holds Try.pinned (OpenSpec.upto fnOneBitSpec)

/-- 'laws.FnInverse', WHERE WHAT IT READS IS OF BULK AT MOST 1048576: true; the input reads as it did. -/
def fnInverseUptoRow : OpenClaim := { program := "ytdofpblgcmjgfaa", sum := "8ad1f6ec853e05630df5d206d97ad930a03e647a31c2de3a75581967e0b4ccb4", func := "loop.example/pub-g01459/laws.FnInverse", spec := "fnInverse", apart := false, narrowed := true }
def FnInverseUptoSaid : Prop := fnInverseUptoRow.holds Try.pinned (OpenSpec.upto fnInverseSpec)

end Rows
end Go.Proofs.Ytdofpblgcmjgfaa
