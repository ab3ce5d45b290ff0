/-
  NARROWER THAN 'FOR EVERY INPUT', by the rows' own cells (each row's printed sentence says how): FnEncodeForm: laid · FnEncodeDecode32: laid · FnRldiclSrd: laid · FnClrlsldiSrw: laid · FnClrlsldiRlwinm: laid · FnAndSrwi: laid · FnAndRlwinm: laid · FnSldiRlwinm: laid · FnAndSldi: laid.
  DERIVED. THE GIVEN ROWS OF THIS SEAT. 9 by the template 'for every input the law returns true; each argument reads behind the call as it read before'; 0 by the template 'total and deterministic' (their statements: YtlcaejikcelgoaaDoorTotals.lean).
  GIVEN WITH THE SEED: the statements are not yours to turn. If you find one false, say at which input.
  Laid BY PROGRAM, IN A SANDBOX (cutbox-rows.mjs): the forced cells as the released guide's own fill.sh prints them over the translation ea9871b67b3d3b8f… (all of the seat's roots in one cut). By AI agents, Wed Nov 11 2026. No macro, syntax, notation, axiom, sorry.
-/
import Derived.Test.YtlcaejikcelgoaaDoorChecked
import GoSem.Claim
import GoSem.ClaimJoined
import GoSem.ClaimMapViews
import Derived.JoinedTies
import Derived.KernelRfl
namespace Go.Proofs.YtlcaejikcelgoaaDoor
/- THE CELL 'sum', in the pinned program and in every row, IS THE sha256 OF THE DUMP (.gsa) THAT YtlcaejikcelgoaaDoorProg.lean LOADS. Nothing in Lean hashes anything: it is a label: what it is worth is what the hold of that sum in a sandbox is worth. -/
noncomputable def Tryd.pinned : Pinned := { name := "ytlcaejikcelgoaadoor", sum := "ea9871b67b3d3b8f1dd8b6053d7433b224f4b1a18397da3388eeb4989f30e657", checked := Tryd.checked }
namespace Rows
def none {H : Type} : Left H := { results := [], args := [] }

/- WHAT THE LISTED PACKAGE-LEVEL VARIABLES READ AS WHEN THE CALL BEGINS. Each datum BY PROGRAM (the guide's laid-datum.mjs) off the statement by which the dump's own 'gosem.cut.vars' lays the variable. In a bare row this is a premise. The card (YtlcaejikcelgoaaDoorCards.lean) ties it to the program's text. -/
def laid_math_bits_deBruijn32tab {H : Type} : DataW H := .agg [.lit (.int .u8 0), .lit (.int .u8 1), .lit (.int .u8 28), .lit (.int .u8 2), .lit (.int .u8 29), .lit (.int .u8 14), .lit (.int .u8 24), .lit (.int .u8 3), .lit (.int .u8 30), .lit (.int .u8 22), .lit (.int .u8 20), .lit (.int .u8 15), .lit (.int .u8 25), .lit (.int .u8 17), .lit (.int .u8 4), .lit (.int .u8 8), .lit (.int .u8 31), .lit (.int .u8 27), .lit (.int .u8 13), .lit (.int .u8 23), .lit (.int .u8 21), .lit (.int .u8 19), .lit (.int .u8 16), .lit (.int .u8 7), .lit (.int .u8 26), .lit (.int .u8 12), .lit (.int .u8 18), .lit (.int .u8 6), .lit (.int .u8 11), .lit (.int .u8 5), .lit (.int .u8 10), .lit (.int .u8 9)]
def laid_math_bits_deBruijn64tab {H : Type} : DataW H := .agg [.lit (.int .u8 0), .lit (.int .u8 1), .lit (.int .u8 56), .lit (.int .u8 2), .lit (.int .u8 57), .lit (.int .u8 49), .lit (.int .u8 28), .lit (.int .u8 3), .lit (.int .u8 61), .lit (.int .u8 58), .lit (.int .u8 42), .lit (.int .u8 50), .lit (.int .u8 38), .lit (.int .u8 29), .lit (.int .u8 17), .lit (.int .u8 4), .lit (.int .u8 62), .lit (.int .u8 47), .lit (.int .u8 59), .lit (.int .u8 36), .lit (.int .u8 45), .lit (.int .u8 43), .lit (.int .u8 51), .lit (.int .u8 22), .lit (.int .u8 53), .lit (.int .u8 39), .lit (.int .u8 33), .lit (.int .u8 30), .lit (.int .u8 24), .lit (.int .u8 18), .lit (.int .u8 12), .lit (.int .u8 5), .lit (.int .u8 63), .lit (.int .u8 55), .lit (.int .u8 48), .lit (.int .u8 27), .lit (.int .u8 60), .lit (.int .u8 41), .lit (.int .u8 37), .lit (.int .u8 16), .lit (.int .u8 46), .lit (.int .u8 35), .lit (.int .u8 44), .lit (.int .u8 21), .lit (.int .u8 52), .lit (.int .u8 32), .lit (.int .u8 23), .lit (.int .u8 11), .lit (.int .u8 54), .lit (.int .u8 26), .lit (.int .u8 40), .lit (.int .u8 15), .lit (.int .u8 34), .lit (.int .u8 20), .lit (.int .u8 31), .lit (.int .u8 10), .lit (.int .u8 25), .lit (.int .u8 14), .lit (.int .u8 19), .lit (.int .u8 9), .lit (.int .u8 13), .lit (.int .u8 8), .lit (.int .u8 7), .lit (.int .u8 6)]

/-- 'laws.FnEncodeForm': WHATEVER THE INPUT: true; the input reads as it did. -/
def fnEncodeFormSpec : ChangeSpec := { name := "fnEncodeForm", fn := fun _ => fun
  | [d1, d2, d3, d4] => { results := [.lit (.bool true)], args := [d1, d2, d3, d4] }
  | _ => none }
def fnEncodeFormRow : OpenClaim := { program := "ytlcaejikcelgoaadoor", sum := "ea9871b67b3d3b8f1dd8b6053d7433b224f4b1a18397da3388eeb4989f30e657", func := "loop.example/pub-g01459/laws.FnEncodeForm", spec := "fnEncodeForm", named := ["math/bits.deBruijn32tab", "math/bits.deBruijn64tab"], apart := false, laid := [("math/bits.deBruijn32tab", laid_math_bits_deBruijn32tab), ("math/bits.deBruijn64tab", laid_math_bits_deBruijn64tab)] }
def FnEncodeFormSaid : Prop := fnEncodeFormRow.holds Tryd.pinned (OpenSpec.ofChange fnEncodeFormSpec)

/-- ITS FALSE NEIGHBOUR: 'it returns false'. Refute it at one input. -/
def fnEncodeFormWrong : ChangeSpec := { name := "fnEncodeForm", fn := fun _ => fun
  | [d1, d2, d3, d4] => { results := [.lit (.bool false)], args := [d1, d2, d3, d4] }
  | _ => none }
def FnEncodeFormWrongFalsely : Prop := fnEncodeFormRow.holds Tryd.pinned (OpenSpec.ofChange fnEncodeFormWrong)

/-- 'laws.FnEncodeDecode32': WHATEVER THE INPUT: true; the input reads as it did. -/
def fnEncodeDecode32Spec : ChangeSpec := { name := "fnEncodeDecode32", fn := fun _ => fun
  | [d1, d2, d3] => { results := [.lit (.bool true)], args := [d1, d2, d3] }
  | _ => none }
def fnEncodeDecode32Row : OpenClaim := { program := "ytlcaejikcelgoaadoor", sum := "ea9871b67b3d3b8f1dd8b6053d7433b224f4b1a18397da3388eeb4989f30e657", func := "loop.example/pub-g01459/laws.FnEncodeDecode32", spec := "fnEncodeDecode32", named := ["math/bits.deBruijn32tab", "math/bits.deBruijn64tab"], apart := false, laid := [("math/bits.deBruijn32tab", laid_math_bits_deBruijn32tab), ("math/bits.deBruijn64tab", laid_math_bits_deBruijn64tab)] }
def FnEncodeDecode32Said : Prop := fnEncodeDecode32Row.holds Tryd.pinned (OpenSpec.ofChange fnEncodeDecode32Spec)

/-- ITS FALSE NEIGHBOUR: 'it returns false'. Refute it at one input. -/
def fnEncodeDecode32Wrong : ChangeSpec := { name := "fnEncodeDecode32", fn := fun _ => fun
  | [d1, d2, d3] => { results := [.lit (.bool false)], args := [d1, d2, d3] }
  | _ => none }
def FnEncodeDecode32WrongFalsely : Prop := fnEncodeDecode32Row.holds Tryd.pinned (OpenSpec.ofChange fnEncodeDecode32Wrong)

/-- 'laws.FnRldiclSrd': WHATEVER THE INPUT: true; the input reads as it did. -/
def fnRldiclSrdSpec : ChangeSpec := { name := "fnRldiclSrd", fn := fun _ => fun
  | [d1, d2, d3] => { results := [.lit (.bool true)], args := [d1, d2, d3] }
  | _ => none }
def fnRldiclSrdRow : OpenClaim := { program := "ytlcaejikcelgoaadoor", sum := "ea9871b67b3d3b8f1dd8b6053d7433b224f4b1a18397da3388eeb4989f30e657", func := "loop.example/pub-g01459/laws.FnRldiclSrd", spec := "fnRldiclSrd", named := ["math/bits.deBruijn32tab", "math/bits.deBruijn64tab"], apart := false, laid := [("math/bits.deBruijn32tab", laid_math_bits_deBruijn32tab), ("math/bits.deBruijn64tab", laid_math_bits_deBruijn64tab)] }
def FnRldiclSrdSaid : Prop := fnRldiclSrdRow.holds Tryd.pinned (OpenSpec.ofChange fnRldiclSrdSpec)

/-- ITS FALSE NEIGHBOUR: 'it returns false'. Refute it at one input. -/
def fnRldiclSrdWrong : ChangeSpec := { name := "fnRldiclSrd", fn := fun _ => fun
  | [d1, d2, d3] => { results := [.lit (.bool false)], args := [d1, d2, d3] }
  | _ => none }
def FnRldiclSrdWrongFalsely : Prop := fnRldiclSrdRow.holds Tryd.pinned (OpenSpec.ofChange fnRldiclSrdWrong)

/-- 'laws.FnClrlsldiSrw': WHATEVER THE INPUT: true; the input reads as it did. -/
def fnClrlsldiSrwSpec : ChangeSpec := { name := "fnClrlsldiSrw", fn := fun _ => fun
  | [d1, d2, d3, d4] => { results := [.lit (.bool true)], args := [d1, d2, d3, d4] }
  | _ => none }
def fnClrlsldiSrwRow : OpenClaim := { program := "ytlcaejikcelgoaadoor", sum := "ea9871b67b3d3b8f1dd8b6053d7433b224f4b1a18397da3388eeb4989f30e657", func := "loop.example/pub-g01459/laws.FnClrlsldiSrw", spec := "fnClrlsldiSrw", unfollowed := true, recurses := true, named := ["math/bits.deBruijn32tab", "math/bits.deBruijn64tab"], apart := false, laid := [("math/bits.deBruijn32tab", laid_math_bits_deBruijn32tab), ("math/bits.deBruijn64tab", laid_math_bits_deBruijn64tab)] }
def FnClrlsldiSrwSaid : Prop := fnClrlsldiSrwRow.holds Tryd.pinned (OpenSpec.ofChange fnClrlsldiSrwSpec)

/-- ITS FALSE NEIGHBOUR: 'it returns false'. Refute it at one input. -/
def fnClrlsldiSrwWrong : ChangeSpec := { name := "fnClrlsldiSrw", fn := fun _ => fun
  | [d1, d2, d3, d4] => { results := [.lit (.bool false)], args := [d1, d2, d3, d4] }
  | _ => none }
def FnClrlsldiSrwWrongFalsely : Prop := fnClrlsldiSrwRow.holds Tryd.pinned (OpenSpec.ofChange fnClrlsldiSrwWrong)

/-- 'laws.FnClrlsldiRlwinm': WHATEVER THE INPUT: true; the input reads as it did. -/
def fnClrlsldiRlwinmSpec : ChangeSpec := { name := "fnClrlsldiRlwinm", fn := fun _ => fun
  | [d1, d2, d3, d4, d5, d6] => { results := [.lit (.bool true)], args := [d1, d2, d3, d4, d5, d6] }
  | _ => none }
def fnClrlsldiRlwinmRow : OpenClaim := { program := "ytlcaejikcelgoaadoor", sum := "ea9871b67b3d3b8f1dd8b6053d7433b224f4b1a18397da3388eeb4989f30e657", func := "loop.example/pub-g01459/laws.FnClrlsldiRlwinm", spec := "fnClrlsldiRlwinm", unfollowed := true, recurses := true, named := ["math/bits.deBruijn32tab", "math/bits.deBruijn64tab"], apart := false, laid := [("math/bits.deBruijn32tab", laid_math_bits_deBruijn32tab), ("math/bits.deBruijn64tab", laid_math_bits_deBruijn64tab)] }
def FnClrlsldiRlwinmSaid : Prop := fnClrlsldiRlwinmRow.holds Tryd.pinned (OpenSpec.ofChange fnClrlsldiRlwinmSpec)

/-- ITS FALSE NEIGHBOUR: 'it returns false'. Refute it at one input. -/
def fnClrlsldiRlwinmWrong : ChangeSpec := { name := "fnClrlsldiRlwinm", fn := fun _ => fun
  | [d1, d2, d3, d4, d5, d6] => { results := [.lit (.bool false)], args := [d1, d2, d3, d4, d5, d6] }
  | _ => none }
def FnClrlsldiRlwinmWrongFalsely : Prop := fnClrlsldiRlwinmRow.holds Tryd.pinned (OpenSpec.ofChange fnClrlsldiRlwinmWrong)

/-- 'laws.FnAndSrwi': WHATEVER THE INPUT: true; the input reads as it did. -/
def fnAndSrwiSpec : ChangeSpec := { name := "fnAndSrwi", fn := fun _ => fun
  | [d1, d2, d3] => { results := [.lit (.bool true)], args := [d1, d2, d3] }
  | _ => none }
def fnAndSrwiRow : OpenClaim := { program := "ytlcaejikcelgoaadoor", sum := "ea9871b67b3d3b8f1dd8b6053d7433b224f4b1a18397da3388eeb4989f30e657", func := "loop.example/pub-g01459/laws.FnAndSrwi", spec := "fnAndSrwi", named := ["math/bits.deBruijn32tab", "math/bits.deBruijn64tab"], apart := false, laid := [("math/bits.deBruijn32tab", laid_math_bits_deBruijn32tab), ("math/bits.deBruijn64tab", laid_math_bits_deBruijn64tab)] }
def FnAndSrwiSaid : Prop := fnAndSrwiRow.holds Tryd.pinned (OpenSpec.ofChange fnAndSrwiSpec)

/-- ITS FALSE NEIGHBOUR: 'it returns false'. Refute it at one input. -/
def fnAndSrwiWrong : ChangeSpec := { name := "fnAndSrwi", fn := fun _ => fun
  | [d1, d2, d3] => { results := [.lit (.bool false)], args := [d1, d2, d3] }
  | _ => none }
def FnAndSrwiWrongFalsely : Prop := fnAndSrwiRow.holds Tryd.pinned (OpenSpec.ofChange fnAndSrwiWrong)

/-- 'laws.FnAndRlwinm': WHATEVER THE INPUT: true; the input reads as it did. -/
def fnAndRlwinmSpec : ChangeSpec := { name := "fnAndRlwinm", fn := fun _ => fun
  | [d1, d2, d3, d4, d5] => { results := [.lit (.bool true)], args := [d1, d2, d3, d4, d5] }
  | _ => none }
def fnAndRlwinmRow : OpenClaim := { program := "ytlcaejikcelgoaadoor", sum := "ea9871b67b3d3b8f1dd8b6053d7433b224f4b1a18397da3388eeb4989f30e657", func := "loop.example/pub-g01459/laws.FnAndRlwinm", spec := "fnAndRlwinm", named := ["math/bits.deBruijn32tab", "math/bits.deBruijn64tab"], apart := false, laid := [("math/bits.deBruijn32tab", laid_math_bits_deBruijn32tab), ("math/bits.deBruijn64tab", laid_math_bits_deBruijn64tab)] }
def FnAndRlwinmSaid : Prop := fnAndRlwinmRow.holds Tryd.pinned (OpenSpec.ofChange fnAndRlwinmSpec)

/-- ITS FALSE NEIGHBOUR: 'it returns false'. Refute it at one input. -/
def fnAndRlwinmWrong : ChangeSpec := { name := "fnAndRlwinm", fn := fun _ => fun
  | [d1, d2, d3, d4, d5] => { results := [.lit (.bool false)], args := [d1, d2, d3, d4, d5] }
  | _ => none }
def FnAndRlwinmWrongFalsely : Prop := fnAndRlwinmRow.holds Tryd.pinned (OpenSpec.ofChange fnAndRlwinmWrong)

/-- 'laws.FnSldiRlwinm': WHATEVER THE INPUT: true; the input reads as it did. -/
def fnSldiRlwinmSpec : ChangeSpec := { name := "fnSldiRlwinm", fn := fun _ => fun
  | [d1, d2, d3, d4, d5] => { results := [.lit (.bool true)], args := [d1, d2, d3, d4, d5] }
  | _ => none }
def fnSldiRlwinmRow : OpenClaim := { program := "ytlcaejikcelgoaadoor", sum := "ea9871b67b3d3b8f1dd8b6053d7433b224f4b1a18397da3388eeb4989f30e657", func := "loop.example/pub-g01459/laws.FnSldiRlwinm", spec := "fnSldiRlwinm", named := ["math/bits.deBruijn32tab", "math/bits.deBruijn64tab"], apart := false, laid := [("math/bits.deBruijn32tab", laid_math_bits_deBruijn32tab), ("math/bits.deBruijn64tab", laid_math_bits_deBruijn64tab)] }
def FnSldiRlwinmSaid : Prop := fnSldiRlwinmRow.holds Tryd.pinned (OpenSpec.ofChange fnSldiRlwinmSpec)

/-- ITS FALSE NEIGHBOUR: 'it returns false'. Refute it at one input. -/
def fnSldiRlwinmWrong : ChangeSpec := { name := "fnSldiRlwinm", fn := fun _ => fun
  | [d1, d2, d3, d4, d5] => { results := [.lit (.bool false)], args := [d1, d2, d3, d4, d5] }
  | _ => none }
def FnSldiRlwinmWrongFalsely : Prop := fnSldiRlwinmRow.holds Tryd.pinned (OpenSpec.ofChange fnSldiRlwinmWrong)

/-- 'laws.FnAndSldi': WHATEVER THE INPUT: true; the input reads as it did. -/
def fnAndSldiSpec : ChangeSpec := { name := "fnAndSldi", fn := fun _ => fun
  | [d1, d2, d3] => { results := [.lit (.bool true)], args := [d1, d2, d3] }
  | _ => none }
def fnAndSldiRow : OpenClaim := { program := "ytlcaejikcelgoaadoor", sum := "ea9871b67b3d3b8f1dd8b6053d7433b224f4b1a18397da3388eeb4989f30e657", func := "loop.example/pub-g01459/laws.FnAndSldi", spec := "fnAndSldi", named := ["math/bits.deBruijn32tab", "math/bits.deBruijn64tab"], apart := false, laid := [("math/bits.deBruijn32tab", laid_math_bits_deBruijn32tab), ("math/bits.deBruijn64tab", laid_math_bits_deBruijn64tab)] }
def FnAndSldiSaid : Prop := fnAndSldiRow.holds Tryd.pinned (OpenSpec.ofChange fnAndSldiSpec)

/-- ITS FALSE NEIGHBOUR: 'it returns false'. Refute it at one input. -/
def fnAndSldiWrong : ChangeSpec := { name := "fnAndSldi", fn := fun _ => fun
  | [d1, d2, d3] => { results := [.lit (.bool false)], args := [d1, d2, d3] }
  | _ => none }
def FnAndSldiWrongFalsely : Prop := fnAndSldiRow.holds Tryd.pinned (OpenSpec.ofChange fnAndSldiWrong)

/- THE SECOND FORM. 'bulk': how many values and letters a reading holds, each counted each time it is reached (what is shared counts as often as it is met; a slice's spare places count too). A statement '..UptoSaid' is the law's where the arguments, and the package variables that the reading takes, are together of bulk at most 1048576: NARROWER than '..Said'. Prove '..Said' where nothing that the law and all that it calls make is longer than what came in: it says more and counts as full. Else prove '..UptoSaid'. A law counts once. -/
mutual
def uptoBulk {H : Type} : DataW H → Nat
  | .lit (.string bytes) => bytes.length + 1
  | .lit _ => 1
  | .nil => 1
  | .ptr d => uptoBulk d + 1
  | .slice elems spare => uptoBulkAll elems + uptoBulkAll spare + 1
  | .agg parts => uptoBulkAll parts + 1
  | .iface _ d => uptoBulk d + 1
  | .map entries => uptoBulkEntries entries + 1
  | .held _ => 1
def uptoBulkAll {H : Type} : List (DataW H) → Nat
  | [] => 0
  | d :: r => uptoBulk d + uptoBulkAll r
def uptoBulkEntries {H : Type} : List (Lit × DataW H) → Nat
  | [] => 0
  | x :: r => uptoBulkEntry x + uptoBulkEntries r
def uptoBulkEntry {H : Type} : Lit × DataW H → Nat
  | (.string bytes, d) => bytes.length + uptoBulk d + 1
  | (_, d) => uptoBulk d + 1
 end
def uptoSmall : (H : Type) → List (DataW H) → Bool := fun _ ds => decide (uptoBulkAll ds ≤ 1048576)
def OpenSpec.upto (s : _root_.Go.ChangeSpec) : _root_.Go.OpenSpec := { _root_.Go.OpenSpec.ofChange s with cond := some uptoSmall }

/-- 'laws.FnEncodeForm', WHERE WHAT IT READS IS OF BULK AT MOST 1048576: true; the input reads as it did. -/
def fnEncodeFormUptoRow : OpenClaim := { program := "ytlcaejikcelgoaadoor", sum := "ea9871b67b3d3b8f1dd8b6053d7433b224f4b1a18397da3388eeb4989f30e657", func := "loop.example/pub-g01459/laws.FnEncodeForm", spec := "fnEncodeForm", named := ["math/bits.deBruijn32tab", "math/bits.deBruijn64tab"], apart := false, laid := [("math/bits.deBruijn32tab", laid_math_bits_deBruijn32tab), ("math/bits.deBruijn64tab", laid_math_bits_deBruijn64tab)], narrowed := true }
def FnEncodeFormUptoSaid : Prop := fnEncodeFormUptoRow.holds Tryd.pinned (OpenSpec.upto fnEncodeFormSpec)

/-- 'laws.FnEncodeDecode32', WHERE WHAT IT READS IS OF BULK AT MOST 1048576: true; the input reads as it did. -/
def fnEncodeDecode32UptoRow : OpenClaim := { program := "ytlcaejikcelgoaadoor", sum := "ea9871b67b3d3b8f1dd8b6053d7433b224f4b1a18397da3388eeb4989f30e657", func := "loop.example/pub-g01459/laws.FnEncodeDecode32", spec := "fnEncodeDecode32", named := ["math/bits.deBruijn32tab", "math/bits.deBruijn64tab"], apart := false, laid := [("math/bits.deBruijn32tab", laid_math_bits_deBruijn32tab), ("math/bits.deBruijn64tab", laid_math_bits_deBruijn64tab)], narrowed := true }
def FnEncodeDecode32UptoSaid : Prop := fnEncodeDecode32UptoRow.holds Tryd.pinned (OpenSpec.upto fnEncodeDecode32Spec)

/-- 'laws.FnRldiclSrd', WHERE WHAT IT READS IS OF BULK AT MOST 1048576: true; the input reads as it did. -/
def fnRldiclSrdUptoRow : OpenClaim := { program := "ytlcaejikcelgoaadoor", sum := "ea9871b67b3d3b8f1dd8b6053d7433b224f4b1a18397da3388eeb4989f30e657", func := "loop.example/pub-g01459/laws.FnRldiclSrd", spec := "fnRldiclSrd", named := ["math/bits.deBruijn32tab", "math/bits.deBruijn64tab"], apart := false, laid := [("math/bits.deBruijn32tab", laid_math_bits_deBruijn32tab), ("math/bits.deBruijn64tab", laid_math_bits_deBruijn64tab)], narrowed := true }
def FnRldiclSrdUptoSaid : Prop := fnRldiclSrdUptoRow.holds Tryd.pinned (OpenSpec.upto fnRldiclSrdSpec)

/-- 'laws.FnClrlsldiSrw', WHERE WHAT IT READS IS OF BULK AT MOST 1048576: true; the input reads as it did. -/
def fnClrlsldiSrwUptoRow : OpenClaim := { program := "ytlcaejikcelgoaadoor", sum := "ea9871b67b3d3b8f1dd8b6053d7433b224f4b1a18397da3388eeb4989f30e657", func := "loop.example/pub-g01459/laws.FnClrlsldiSrw", spec := "fnClrlsldiSrw", unfollowed := true, recurses := true, named := ["math/bits.deBruijn32tab", "math/bits.deBruijn64tab"], apart := false, laid := [("math/bits.deBruijn32tab", laid_math_bits_deBruijn32tab), ("math/bits.deBruijn64tab", laid_math_bits_deBruijn64tab)], narrowed := true }
def FnClrlsldiSrwUptoSaid : Prop := fnClrlsldiSrwUptoRow.holds Tryd.pinned (OpenSpec.upto fnClrlsldiSrwSpec)

/-- 'laws.FnClrlsldiRlwinm', WHERE WHAT IT READS IS OF BULK AT MOST 1048576: true; the input reads as it did. -/
def fnClrlsldiRlwinmUptoRow : OpenClaim := { program := "ytlcaejikcelgoaadoor", sum := "ea9871b67b3d3b8f1dd8b6053d7433b224f4b1a18397da3388eeb4989f30e657", func := "loop.example/pub-g01459/laws.FnClrlsldiRlwinm", spec := "fnClrlsldiRlwinm", unfollowed := true, recurses := true, named := ["math/bits.deBruijn32tab", "math/bits.deBruijn64tab"], apart := false, laid := [("math/bits.deBruijn32tab", laid_math_bits_deBruijn32tab), ("math/bits.deBruijn64tab", laid_math_bits_deBruijn64tab)], narrowed := true }
def FnClrlsldiRlwinmUptoSaid : Prop := fnClrlsldiRlwinmUptoRow.holds Tryd.pinned (OpenSpec.upto fnClrlsldiRlwinmSpec)

/-- 'laws.FnAndSrwi', WHERE WHAT IT READS IS OF BULK AT MOST 1048576: true; the input reads as it did. -/
def fnAndSrwiUptoRow : OpenClaim := { program := "ytlcaejikcelgoaadoor", sum := "ea9871b67b3d3b8f1dd8b6053d7433b224f4b1a18397da3388eeb4989f30e657", func := "loop.example/pub-g01459/laws.FnAndSrwi", spec := "fnAndSrwi", named := ["math/bits.deBruijn32tab", "math/bits.deBruijn64tab"], apart := false, laid := [("math/bits.deBruijn32tab", laid_math_bits_deBruijn32tab), ("math/bits.deBruijn64tab", laid_math_bits_deBruijn64tab)], narrowed := true }
def FnAndSrwiUptoSaid : Prop := fnAndSrwiUptoRow.holds Tryd.pinned (OpenSpec.upto fnAndSrwiSpec)

/-- 'laws.FnAndRlwinm', WHERE WHAT IT READS IS OF BULK AT MOST 1048576: true; the input reads as it did. -/
def fnAndRlwinmUptoRow : OpenClaim := { program := "ytlcaejikcelgoaadoor", sum := "ea9871b67b3d3b8f1dd8b6053d7433b224f4b1a18397da3388eeb4989f30e657", func := "loop.example/pub-g01459/laws.FnAndRlwinm", spec := "fnAndRlwinm", named := ["math/bits.deBruijn32tab", "math/bits.deBruijn64tab"], apart := false, laid := [("math/bits.deBruijn32tab", laid_math_bits_deBruijn32tab), ("math/bits.deBruijn64tab", laid_math_bits_deBruijn64tab)], narrowed := true }
def FnAndRlwinmUptoSaid : Prop := fnAndRlwinmUptoRow.holds Tryd.pinned (OpenSpec.upto fnAndRlwinmSpec)

/-- 'laws.FnSldiRlwinm', WHERE WHAT IT READS IS OF BULK AT MOST 1048576: true; the input reads as it did. -/
def fnSldiRlwinmUptoRow : OpenClaim := { program := "ytlcaejikcelgoaadoor", sum := "ea9871b67b3d3b8f1dd8b6053d7433b224f4b1a18397da3388eeb4989f30e657", func := "loop.example/pub-g01459/laws.FnSldiRlwinm", spec := "fnSldiRlwinm", named := ["math/bits.deBruijn32tab", "math/bits.deBruijn64tab"], apart := false, laid := [("math/bits.deBruijn32tab", laid_math_bits_deBruijn32tab), ("math/bits.deBruijn64tab", laid_math_bits_deBruijn64tab)], narrowed := true }
def FnSldiRlwinmUptoSaid : Prop := fnSldiRlwinmUptoRow.holds Tryd.pinned (OpenSpec.upto fnSldiRlwinmSpec)

/-- 'laws.FnAndSldi', WHERE WHAT IT READS IS OF BULK AT MOST 1048576: true; the input reads as it did. -/
def fnAndSldiUptoRow : OpenClaim := { program := "ytlcaejikcelgoaadoor", sum := "ea9871b67b3d3b8f1dd8b6053d7433b224f4b1a18397da3388eeb4989f30e657", func := "loop.example/pub-g01459/laws.FnAndSldi", spec := "fnAndSldi", named := ["math/bits.deBruijn32tab", "math/bits.deBruijn64tab"], apart := false, laid := [("math/bits.deBruijn32tab", laid_math_bits_deBruijn32tab), ("math/bits.deBruijn64tab", laid_math_bits_deBruijn64tab)], narrowed := true }
def FnAndSldiUptoSaid : Prop := fnAndSldiUptoRow.holds Tryd.pinned (OpenSpec.upto fnAndSldiSpec)

end Rows
end Go.Proofs.YtlcaejikcelgoaaDoor
