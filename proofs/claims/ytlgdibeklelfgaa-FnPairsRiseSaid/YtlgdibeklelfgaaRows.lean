/-
  No cell of these rows narrows 'for every input' (looked for: loops, veiled, ifaces, maps, wideKeys, modest, calm, conditions, laid).
  DERIVED. THE GIVEN ROWS OF THIS SEAT. 12 by the template 'for every input the law returns true; each argument reads behind the call as it read before'; 0 by the template 'total and deterministic' (their statements: YtlgdibeklelfgaaTotals.lean).
  GIVEN WITH THE SEED: the statements are not yours to turn. If you find one false, say at which input.
  Laid BY PROGRAM, IN A SANDBOX (cutbox-rows.mjs): the forced cells as the released guide's own fill.sh prints them over the translation ba8180c51a7d6060… (all of the seat's roots in one cut). By AI agents, Wed Nov 11 2026. No macro, syntax, notation, axiom, sorry.
-/
import Derived.Test.YtlgdibeklelfgaaChecked
import GoSem.Claim
import GoSem.ClaimJoined
import GoSem.ClaimMapViews
import Derived.JoinedTies
import Derived.KernelRfl
namespace Go.Proofs.Ytlgdibeklelfgaa
/- THE CELL 'sum', in the pinned program and in every row, IS THE sha256 OF THE DUMP (.gsa) THAT YtlgdibeklelfgaaProg.lean LOADS. Nothing in Lean hashes anything: it is a label: what it is worth is what the hold of that sum in a sandbox is worth. -/
noncomputable def Try.pinned : Pinned := { name := "ytlgdibeklelfgaa", sum := "ba8180c51a7d60600a4ed54334eebdc3d3b819ee84346dbc351bf2ce65a0af67", checked := Try.checked }
namespace Rows
def none {H : Type} : Left H := { results := [], args := [] }

/-- 'laws.FnMergeIntoPlaces': WHATEVER THE INPUT: true; the input reads as it did. -/
def fnMergeIntoPlacesSpec : ChangeSpec := { name := "fnMergeIntoPlaces", fn := fun _ => fun
  | [d1, d2, d3] => { results := [.lit (.bool true)], args := [d1, d2, d3] }
  | _ => none }
def fnMergeIntoPlacesRow : OpenClaim := { program := "ytlgdibeklelfgaa", sum := "ba8180c51a7d60600a4ed54334eebdc3d3b819ee84346dbc351bf2ce65a0af67", func := "loop.example/pub-g01459/laws.FnMergeIntoPlaces", spec := "fnMergeIntoPlaces", apart := false }
def FnMergeIntoPlacesSaid : Prop := fnMergeIntoPlacesRow.holds Try.pinned (OpenSpec.ofChange fnMergeIntoPlacesSpec)

/-- ITS FALSE NEIGHBOUR: 'it returns false'. Refute it at one input. -/
def fnMergeIntoPlacesWrong : ChangeSpec := { name := "fnMergeIntoPlaces", fn := fun _ => fun
  | [d1, d2, d3] => { results := [.lit (.bool false)], args := [d1, d2, d3] }
  | _ => none }
def FnMergeIntoPlacesWrongFalsely : Prop := fnMergeIntoPlacesRow.holds Try.pinned (OpenSpec.ofChange fnMergeIntoPlacesWrong)

/-- 'laws.FnCheckBad': WHATEVER THE INPUT: true; the input reads as it did. -/
def fnCheckBadSpec : ChangeSpec := { name := "fnCheckBad", fn := fun _ => fun
  | [d1, d2] => { results := [.lit (.bool true)], args := [d1, d2] }
  | _ => none }
def fnCheckBadRow : OpenClaim := { program := "ytlgdibeklelfgaa", sum := "ba8180c51a7d60600a4ed54334eebdc3d3b819ee84346dbc351bf2ce65a0af67", func := "loop.example/pub-g01459/laws.FnCheckBad", spec := "fnCheckBad", apart := false }
def FnCheckBadSaid : Prop := fnCheckBadRow.holds Try.pinned (OpenSpec.ofChange fnCheckBadSpec)

/-- ITS FALSE NEIGHBOUR: 'it returns false'. Refute it at one input. -/
def fnCheckBadWrong : ChangeSpec := { name := "fnCheckBad", fn := fun _ => fun
  | [d1, d2] => { results := [.lit (.bool false)], args := [d1, d2] }
  | _ => none }
def FnCheckBadWrongFalsely : Prop := fnCheckBadRow.holds Try.pinned (OpenSpec.ofChange fnCheckBadWrong)

/-- 'laws.FnPairsRise': WHATEVER THE INPUT: true; the input reads as it did. -/
def fnPairsRiseSpec : ChangeSpec := { name := "fnPairsRise", fn := fun _ => fun
  | [d1, d2] => { results := [.lit (.bool true)], args := [d1, d2] }
  | _ => none }
def fnPairsRiseRow : OpenClaim := { program := "ytlgdibeklelfgaa", sum := "ba8180c51a7d60600a4ed54334eebdc3d3b819ee84346dbc351bf2ce65a0af67", func := "loop.example/pub-g01459/laws.FnPairsRise", spec := "fnPairsRise", apart := false }
def FnPairsRiseSaid : Prop := fnPairsRiseRow.holds Try.pinned (OpenSpec.ofChange fnPairsRiseSpec)

/-- ITS FALSE NEIGHBOUR: 'it returns false'. Refute it at one input. -/
def fnPairsRiseWrong : ChangeSpec := { name := "fnPairsRise", fn := fun _ => fun
  | [d1, d2] => { results := [.lit (.bool false)], args := [d1, d2] }
  | _ => none }
def FnPairsRiseWrongFalsely : Prop := fnPairsRiseRow.holds Try.pinned (OpenSpec.ofChange fnPairsRiseWrong)

/-- 'laws.FnSetsOverlapIs': WHATEVER THE INPUT: true; the input reads as it did. -/
def fnSetsOverlapIsSpec : ChangeSpec := { name := "fnSetsOverlapIs", fn := fun _ => fun
  | [d1, d2] => { results := [.lit (.bool true)], args := [d1, d2] }
  | _ => none }
def fnSetsOverlapIsRow : OpenClaim := { program := "ytlgdibeklelfgaa", sum := "ba8180c51a7d60600a4ed54334eebdc3d3b819ee84346dbc351bf2ce65a0af67", func := "loop.example/pub-g01459/laws.FnSetsOverlapIs", spec := "fnSetsOverlapIs", apart := false }
def FnSetsOverlapIsSaid : Prop := fnSetsOverlapIsRow.holds Try.pinned (OpenSpec.ofChange fnSetsOverlapIsSpec)

/-- ITS FALSE NEIGHBOUR: 'it returns false'. Refute it at one input. -/
def fnSetsOverlapIsWrong : ChangeSpec := { name := "fnSetsOverlapIs", fn := fun _ => fun
  | [d1, d2] => { results := [.lit (.bool false)], args := [d1, d2] }
  | _ => none }
def FnSetsOverlapIsWrongFalsely : Prop := fnSetsOverlapIsRow.holds Try.pinned (OpenSpec.ofChange fnSetsOverlapIsWrong)

/-- 'laws.FnSetsOverlapOrder': WHATEVER THE INPUT: true; the input reads as it did. -/
def fnSetsOverlapOrderSpec : ChangeSpec := { name := "fnSetsOverlapOrder", fn := fun _ => fun
  | [d1, d2] => { results := [.lit (.bool true)], args := [d1, d2] }
  | _ => none }
def fnSetsOverlapOrderRow : OpenClaim := { program := "ytlgdibeklelfgaa", sum := "ba8180c51a7d60600a4ed54334eebdc3d3b819ee84346dbc351bf2ce65a0af67", func := "loop.example/pub-g01459/laws.FnSetsOverlapOrder", spec := "fnSetsOverlapOrder", apart := false }
def FnSetsOverlapOrderSaid : Prop := fnSetsOverlapOrderRow.holds Try.pinned (OpenSpec.ofChange fnSetsOverlapOrderSpec)

/-- ITS FALSE NEIGHBOUR: 'it returns false'. Refute it at one input. -/
def fnSetsOverlapOrderWrong : ChangeSpec := { name := "fnSetsOverlapOrder", fn := fun _ => fun
  | [d1, d2] => { results := [.lit (.bool false)], args := [d1, d2] }
  | _ => none }
def FnSetsOverlapOrderWrongFalsely : Prop := fnSetsOverlapOrderRow.holds Try.pinned (OpenSpec.ofChange fnSetsOverlapOrderWrong)

/-- 'laws.FnMergePlaces': WHATEVER THE INPUT: true; the input reads as it did. -/
def fnMergePlacesSpec : ChangeSpec := { name := "fnMergePlaces", fn := fun _ => fun
  | [d1, d2, d3] => { results := [.lit (.bool true)], args := [d1, d2, d3] }
  | _ => none }
def fnMergePlacesRow : OpenClaim := { program := "ytlgdibeklelfgaa", sum := "ba8180c51a7d60600a4ed54334eebdc3d3b819ee84346dbc351bf2ce65a0af67", func := "loop.example/pub-g01459/laws.FnMergePlaces", spec := "fnMergePlaces", apart := false }
def FnMergePlacesSaid : Prop := fnMergePlacesRow.holds Try.pinned (OpenSpec.ofChange fnMergePlacesSpec)

/-- ITS FALSE NEIGHBOUR: 'it returns false'. Refute it at one input. -/
def fnMergePlacesWrong : ChangeSpec := { name := "fnMergePlaces", fn := fun _ => fun
  | [d1, d2, d3] => { results := [.lit (.bool false)], args := [d1, d2, d3] }
  | _ => none }
def FnMergePlacesWrongFalsely : Prop := fnMergePlacesRow.holds Try.pinned (OpenSpec.ofChange fnMergePlacesWrong)

/-- 'laws.FnMergeProper': WHATEVER THE INPUT: true; the input reads as it did. -/
def fnMergeProperSpec : ChangeSpec := { name := "fnMergeProper", fn := fun _ => fun
  | [d1, d2] => { results := [.lit (.bool true)], args := [d1, d2] }
  | _ => none }
def fnMergeProperRow : OpenClaim := { program := "ytlgdibeklelfgaa", sum := "ba8180c51a7d60600a4ed54334eebdc3d3b819ee84346dbc351bf2ce65a0af67", func := "loop.example/pub-g01459/laws.FnMergeProper", spec := "fnMergeProper", apart := false }
def FnMergeProperSaid : Prop := fnMergeProperRow.holds Try.pinned (OpenSpec.ofChange fnMergeProperSpec)

/-- ITS FALSE NEIGHBOUR: 'it returns false'. Refute it at one input. -/
def fnMergeProperWrong : ChangeSpec := { name := "fnMergeProper", fn := fun _ => fun
  | [d1, d2] => { results := [.lit (.bool false)], args := [d1, d2] }
  | _ => none }
def FnMergeProperWrongFalsely : Prop := fnMergeProperRow.holds Try.pinned (OpenSpec.ofChange fnMergeProperWrong)

/-- 'laws.FnMergeSelf': WHATEVER THE INPUT: true; the input reads as it did. -/
def fnMergeSelfSpec : ChangeSpec := { name := "fnMergeSelf", fn := fun _ => fun
  | [d] => { results := [.lit (.bool true)], args := [d] }
  | _ => none }
def fnMergeSelfRow : OpenClaim := { program := "ytlgdibeklelfgaa", sum := "ba8180c51a7d60600a4ed54334eebdc3d3b819ee84346dbc351bf2ce65a0af67", func := "loop.example/pub-g01459/laws.FnMergeSelf", spec := "fnMergeSelf", apart := false }
def FnMergeSelfSaid : Prop := fnMergeSelfRow.holds Try.pinned (OpenSpec.ofChange fnMergeSelfSpec)

/-- ITS FALSE NEIGHBOUR: 'it returns false'. Refute it at one input. -/
def fnMergeSelfWrong : ChangeSpec := { name := "fnMergeSelf", fn := fun _ => fun
  | [d] => { results := [.lit (.bool false)], args := [d] }
  | _ => none }
def FnMergeSelfWrongFalsely : Prop := fnMergeSelfRow.holds Try.pinned (OpenSpec.ofChange fnMergeSelfWrong)

/-- 'laws.FnMergeOverlap': WHATEVER THE INPUT: true; the input reads as it did. -/
def fnMergeOverlapSpec : ChangeSpec := { name := "fnMergeOverlap", fn := fun _ => fun
  | [d1, d2, d3] => { results := [.lit (.bool true)], args := [d1, d2, d3] }
  | _ => none }
def fnMergeOverlapRow : OpenClaim := { program := "ytlgdibeklelfgaa", sum := "ba8180c51a7d60600a4ed54334eebdc3d3b819ee84346dbc351bf2ce65a0af67", func := "loop.example/pub-g01459/laws.FnMergeOverlap", spec := "fnMergeOverlap", apart := false }
def FnMergeOverlapSaid : Prop := fnMergeOverlapRow.holds Try.pinned (OpenSpec.ofChange fnMergeOverlapSpec)

/-- ITS FALSE NEIGHBOUR: 'it returns false'. Refute it at one input. -/
def fnMergeOverlapWrong : ChangeSpec := { name := "fnMergeOverlap", fn := fun _ => fun
  | [d1, d2, d3] => { results := [.lit (.bool false)], args := [d1, d2, d3] }
  | _ => none }
def FnMergeOverlapWrongFalsely : Prop := fnMergeOverlapRow.holds Try.pinned (OpenSpec.ofChange fnMergeOverlapWrong)

/-- 'laws.FnBuildIs': WHATEVER THE INPUT: true; the input reads as it did. -/
def fnBuildIsSpec : ChangeSpec := { name := "fnBuildIs", fn := fun _ => fun
  | [d] => { results := [.lit (.bool true)], args := [d] }
  | _ => none }
def fnBuildIsRow : OpenClaim := { program := "ytlgdibeklelfgaa", sum := "ba8180c51a7d60600a4ed54334eebdc3d3b819ee84346dbc351bf2ce65a0af67", func := "loop.example/pub-g01459/laws.FnBuildIs", spec := "fnBuildIs", apart := false }
def FnBuildIsSaid : Prop := fnBuildIsRow.holds Try.pinned (OpenSpec.ofChange fnBuildIsSpec)

/-- ITS FALSE NEIGHBOUR: 'it returns false'. Refute it at one input. -/
def fnBuildIsWrong : ChangeSpec := { name := "fnBuildIs", fn := fun _ => fun
  | [d] => { results := [.lit (.bool false)], args := [d] }
  | _ => none }
def FnBuildIsWrongFalsely : Prop := fnBuildIsRow.holds Try.pinned (OpenSpec.ofChange fnBuildIsWrong)

/-- 'laws.FnBuildKill': WHATEVER THE INPUT: true; the input reads as it did. -/
def fnBuildKillSpec : ChangeSpec := { name := "fnBuildKill", fn := fun _ => fun
  | [d1, d2] => { results := [.lit (.bool true)], args := [d1, d2] }
  | _ => none }
def fnBuildKillRow : OpenClaim := { program := "ytlgdibeklelfgaa", sum := "ba8180c51a7d60600a4ed54334eebdc3d3b819ee84346dbc351bf2ce65a0af67", func := "loop.example/pub-g01459/laws.FnBuildKill", spec := "fnBuildKill", apart := false }
def FnBuildKillSaid : Prop := fnBuildKillRow.holds Try.pinned (OpenSpec.ofChange fnBuildKillSpec)

/-- ITS FALSE NEIGHBOUR: 'it returns false'. Refute it at one input. -/
def fnBuildKillWrong : ChangeSpec := { name := "fnBuildKill", fn := fun _ => fun
  | [d1, d2] => { results := [.lit (.bool false)], args := [d1, d2] }
  | _ => none }
def FnBuildKillWrongFalsely : Prop := fnBuildKillRow.holds Try.pinned (OpenSpec.ofChange fnBuildKillWrong)

/-- 'laws.FnBuildMerge': WHATEVER THE INPUT: true; the input reads as it did. -/
def fnBuildMergeSpec : ChangeSpec := { name := "fnBuildMerge", fn := fun _ => fun
  | [d1, d2, d3] => { results := [.lit (.bool true)], args := [d1, d2, d3] }
  | _ => none }
def fnBuildMergeRow : OpenClaim := { program := "ytlgdibeklelfgaa", sum := "ba8180c51a7d60600a4ed54334eebdc3d3b819ee84346dbc351bf2ce65a0af67", func := "loop.example/pub-g01459/laws.FnBuildMerge", spec := "fnBuildMerge", apart := false }
def FnBuildMergeSaid : Prop := fnBuildMergeRow.holds Try.pinned (OpenSpec.ofChange fnBuildMergeSpec)

/-- ITS FALSE NEIGHBOUR: 'it returns false'. Refute it at one input. -/
def fnBuildMergeWrong : ChangeSpec := { name := "fnBuildMerge", fn := fun _ => fun
  | [d1, d2, d3] => { results := [.lit (.bool false)], args := [d1, d2, d3] }
  | _ => none }
def FnBuildMergeWrongFalsely : Prop := fnBuildMergeRow.holds Try.pinned (OpenSpec.ofChange fnBuildMergeWrong)

/- THE SECOND FORM. 'bulk': how many values and letters a reading holds, each counted each time it is reached (what is shared counts as often as it is met; a slice's spare places count too). A statement '..UptoSaid' is the law's where the arguments, and the package variables that the reading takes, are together of bulk at most 1048576: NARROWER than '..Said'. Prove '..Said' where nothing that the law and all that it calls make is longer than what came in: it says more and counts as full. Else prove '..UptoSaid'. A law counts once. -/
mutual
def uptoBulk {H : Type} : DataW H → Nat
  | .lit (.string bytes) => bytes.length + 1
  | .lit _ => 1
  | .nil => 1
  | .ptr d => uptoBulk d + 1
  | .slice elems spare => uptoBulkAll elems + uptoBulkAll spare + 1
  | .agg parts => uptoBulkAll parts + 1
  | .iface _ d => uptoBulk d + 1
  | .map entries => uptoBulkEntries entries + 1
  | .held _ => 1
def uptoBulkAll {H : Type} : List (DataW H) → Nat
  | [] => 0
  | d :: r => uptoBulk d + uptoBulkAll r
def uptoBulkEntries {H : Type} : List (Lit × DataW H) → Nat
  | [] => 0
  | x :: r => uptoBulkEntry x + uptoBulkEntries r
def uptoBulkEntry {H : Type} : Lit × DataW H → Nat
  | (.string bytes, d) => bytes.length + uptoBulk d + 1
  | (_, d) => uptoBulk d + 1
 end
def uptoSmall : (H : Type) → List (DataW H) → Bool := fun _ ds => decide (uptoBulkAll ds ≤ 1048576)
def OpenSpec.upto (s : _root_.Go.ChangeSpec) : _root_.Go.OpenSpec := { _root_.Go.OpenSpec.ofChange s with cond := some uptoSmall }

/-- 'laws.FnMergeIntoPlaces', WHERE WHAT IT READS IS OF BULK AT MOST 1048576: true; the input reads as it did. -/
def fnMergeIntoPlacesUptoRow : OpenClaim := { program := "ytlgdibeklelfgaa", sum := "ba8180c51a7d60600a4ed54334eebdc3d3b819ee84346dbc351bf2ce65a0af67", func := "loop.example/pub-g01459/laws.FnMergeIntoPlaces", spec := "fnMergeIntoPlaces", apart := false, narrowed := true }
def FnMergeIntoPlacesUptoSaid : Prop := fnMergeIntoPlacesUptoRow.holds Try.pinned (OpenSpec.upto fnMergeIntoPlacesSpec)

/-- 'laws.FnCheckBad', WHERE WHAT IT READS IS OF BULK AT MOST 1048576: true; the input reads as it did. -/
def fnCheckBadUptoRow : OpenClaim := { program := "ytlgdibeklelfgaa", sum := "ba8180c51a7d60600a4ed54334eebdc3d3b819ee84346dbc351bf2ce65a0af67", func := "loop.example/pub-g01459/laws.FnCheckBad", spec := "fnCheckBad", apart := false, narrowed := true }
def FnCheckBadUptoSaid : Prop := fnCheckBadUptoRow.holds Try.pinned (OpenSpec.upto fnCheckBadSpec)

/-- 'laws.FnPairsRise', WHERE WHAT IT READS IS OF BULK AT MOST 1048576: true; the input reads as it did. -/
def fnPairsRiseUptoRow : OpenClaim := { program := "ytlgdibeklelfgaa", sum := "ba8180c51a7d60600a4ed54334eebdc3d3b819ee84346dbc351bf2ce65a0af67", func := "loop.example/pub-g01459/laws.FnPairsRise", spec := "fnPairsRise", apart := false, narrowed := true }
def FnPairsRiseUptoSaid : Prop := fnPairsRiseUptoRow.holds Try.pinned (OpenSpec.upto fnPairsRiseSpec)

/-- 'laws.FnSetsOverlapIs', WHERE WHAT IT READS IS OF BULK AT MOST 1048576: true; the input reads as it did. -/
def fnSetsOverlapIsUptoRow : OpenClaim := { program := "ytlgdibeklelfgaa", sum := "ba8180c51a7d60600a4ed54334eebdc3d3b819ee84346dbc351bf2ce65a0af67", func := "loop.example/pub-g01459/laws.FnSetsOverlapIs", spec := "fnSetsOverlapIs", apart := false, narrowed := true }
def FnSetsOverlapIsUptoSaid : Prop := fnSetsOverlapIsUptoRow.holds Try.pinned (OpenSpec.upto fnSetsOverlapIsSpec)

/-- 'laws.FnSetsOverlapOrder', WHERE WHAT IT READS IS OF BULK AT MOST 1048576: true; the input reads as it did. -/
def fnSetsOverlapOrderUptoRow : OpenClaim := { program := "ytlgdibeklelfgaa", sum := "ba8180c51a7d60600a4ed54334eebdc3d3b819ee84346dbc351bf2ce65a0af67", func := "loop.example/pub-g01459/laws.FnSetsOverlapOrder", spec := "fnSetsOverlapOrder", apart := false, narrowed := true }
def FnSetsOverlapOrderUptoSaid : Prop := fnSetsOverlapOrderUptoRow.holds Try.pinned (OpenSpec.upto fnSetsOverlapOrderSpec)

/-- 'laws.FnMergePlaces', WHERE WHAT IT READS IS OF BULK AT MOST 1048576: true; the input reads as it did. -/
def fnMergePlacesUptoRow : OpenClaim := { program := "ytlgdibeklelfgaa", sum := "ba8180c51a7d60600a4ed54334eebdc3d3b819ee84346dbc351bf2ce65a0af67", func := "loop.example/pub-g01459/laws.FnMergePlaces", spec := "fnMergePlaces", apart := false, narrowed := true }
def FnMergePlacesUptoSaid : Prop := fnMergePlacesUptoRow.holds Try.pinned (OpenSpec.upto fnMergePlacesSpec)

/-- 'laws.FnMergeProper', WHERE WHAT IT READS IS OF BULK AT MOST 1048576: true; the input reads as it did. -/
def fnMergeProperUptoRow : OpenClaim := { program := "ytlgdibeklelfgaa", sum := "ba8180c51a7d60600a4ed54334eebdc3d3b819ee84346dbc351bf2ce65a0af67", func := "loop.example/pub-g01459/laws.FnMergeProper", spec := "fnMergeProper", apart := false, narrowed := true }
def FnMergeProperUptoSaid : Prop := fnMergeProperUptoRow.holds Try.pinned (OpenSpec.upto fnMergeProperSpec)

/-- 'laws.FnMergeSelf', WHERE WHAT IT READS IS OF BULK AT MOST 1048576: true; the input reads as it did. -/
def fnMergeSelfUptoRow : OpenClaim := { program := "ytlgdibeklelfgaa", sum := "ba8180c51a7d60600a4ed54334eebdc3d3b819ee84346dbc351bf2ce65a0af67", func := "loop.example/pub-g01459/laws.FnMergeSelf", spec := "fnMergeSelf", apart := false, narrowed := true }
def FnMergeSelfUptoSaid : Prop := fnMergeSelfUptoRow.holds Try.pinned (OpenSpec.upto fnMergeSelfSpec)

/-- 'laws.FnMergeOverlap', WHERE WHAT IT READS IS OF BULK AT MOST 1048576: true; the input reads as it did. -/
def fnMergeOverlapUptoRow : OpenClaim := { program := "ytlgdibeklelfgaa", sum := "ba8180c51a7d60600a4ed54334eebdc3d3b819ee84346dbc351bf2ce65a0af67", func := "loop.example/pub-g01459/laws.FnMergeOverlap", spec := "fnMergeOverlap", apart := false, narrowed := true }
def FnMergeOverlapUptoSaid : Prop := fnMergeOverlapUptoRow.holds Try.pinned (OpenSpec.upto fnMergeOverlapSpec)

/-- 'laws.FnBuildIs', WHERE WHAT IT READS IS OF BULK AT MOST 1048576: true; the input reads as it did. -/
def fnBuildIsUptoRow : OpenClaim := { program := "ytlgdibeklelfgaa", sum := "ba8180c51a7d60600a4ed54334eebdc3d3b819ee84346dbc351bf2ce65a0af67", func := "loop.example/pub-g01459/laws.FnBuildIs", spec := "fnBuildIs", apart := false, narrowed := true }
def FnBuildIsUptoSaid : Prop := fnBuildIsUptoRow.holds Try.pinned (OpenSpec.upto fnBuildIsSpec)

/-- 'laws.FnBuildKill', WHERE WHAT IT READS IS OF BULK AT MOST 1048576: true; the input reads as it did. -/
def fnBuildKillUptoRow : OpenClaim := { program := "ytlgdibeklelfgaa", sum := "ba8180c51a7d60600a4ed54334eebdc3d3b819ee84346dbc351bf2ce65a0af67", func := "loop.example/pub-g01459/laws.FnBuildKill", spec := "fnBuildKill", apart := false, narrowed := true }
def FnBuildKillUptoSaid : Prop := fnBuildKillUptoRow.holds Try.pinned (OpenSpec.upto fnBuildKillSpec)

/-- 'laws.FnBuildMerge', WHERE WHAT IT READS IS OF BULK AT MOST 1048576: true; the input reads as it did. -/
def fnBuildMergeUptoRow : OpenClaim := { program := "ytlgdibeklelfgaa", sum := "ba8180c51a7d60600a4ed54334eebdc3d3b819ee84346dbc351bf2ce65a0af67", func := "loop.example/pub-g01459/laws.FnBuildMerge", spec := "fnBuildMerge", apart := false, narrowed := true }
def FnBuildMergeUptoSaid : Prop := fnBuildMergeUptoRow.holds Try.pinned (OpenSpec.upto fnBuildMergeSpec)

end Rows
end Go.Proofs.Ytlgdibeklelfgaa
