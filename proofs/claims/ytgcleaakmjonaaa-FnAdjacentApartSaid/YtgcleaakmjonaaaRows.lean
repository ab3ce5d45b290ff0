/-
  No cell of these rows narrows 'for every input' (looked for: loops, veiled, ifaces, maps, wideKeys, modest, calm, conditions, laid).
  DERIVED. THE GIVEN ROWS OF THIS SEAT. 8 by the template 'for every input the law returns true; each argument reads behind the call as it read before'; 0 by the template 'total and deterministic' (their statements: YtgcleaakmjonaaaTotals.lean).
  GIVEN WITH THE SEED: the statements are not yours to turn. If you find one false, say at which input.
  Laid BY PROGRAM, IN A SANDBOX (cutbox-rows.mjs): the forced cells as the released guide's own fill.sh prints them over the translation 829c142ffa5ad952… (all of the seat's roots in one cut). By AI agents, Wed Nov 11 2026. No macro, syntax, notation, axiom, sorry.
-/
import Derived.Test.YtgcleaakmjonaaaChecked
import GoSem.Claim
import GoSem.ClaimJoined
import GoSem.ClaimMapViews
import Derived.JoinedTies
import Derived.KernelRfl
namespace Go.Proofs.Ytgcleaakmjonaaa
/- THE CELL 'sum', in the pinned program and in every row, IS THE sha256 OF THE DUMP (.gsa) THAT YtgcleaakmjonaaaProg.lean LOADS. Nothing in Lean hashes anything: it is a label: what it is worth is what the hold of that sum in a sandbox is worth. -/
noncomputable def Try.pinned : Pinned := { name := "ytgcleaakmjonaaa", sum := "829c142ffa5ad952c8f35af38ba5f0cdf32f3a82273b2ca8000087f9b720b6f2", checked := Try.checked }
namespace Rows
def none {H : Type} : Left H := { results := [], args := [] }

/-- 'laws.FnOverlapIs': WHATEVER THE INPUT: true; the input reads as it did. -/
def fnOverlapIsSpec : ChangeSpec := { name := "fnOverlapIs", fn := fun _ => fun
  | [d1, d2] => { results := [.lit (.bool true)], args := [d1, d2] }
  | _ => none }
def fnOverlapIsRow : OpenClaim := { program := "ytgcleaakmjonaaa", sum := "829c142ffa5ad952c8f35af38ba5f0cdf32f3a82273b2ca8000087f9b720b6f2", func := "loop.example/pub-g01459/laws.FnOverlapIs", spec := "fnOverlapIs", apart := false }
def FnOverlapIsSaid : Prop := fnOverlapIsRow.holds Try.pinned (OpenSpec.ofChange fnOverlapIsSpec)

/-- ITS FALSE NEIGHBOUR: 'it returns false'. Refute it at one input. -/
def fnOverlapIsWrong : ChangeSpec := { name := "fnOverlapIs", fn := fun _ => fun
  | [d1, d2] => { results := [.lit (.bool false)], args := [d1, d2] }
  | _ => none }
def FnOverlapIsWrongFalsely : Prop := fnOverlapIsRow.holds Try.pinned (OpenSpec.ofChange fnOverlapIsWrong)

/-- 'laws.FnOverlapOrder': WHATEVER THE INPUT: true; the input reads as it did. -/
def fnOverlapOrderSpec : ChangeSpec := { name := "fnOverlapOrder", fn := fun _ => fun
  | [d1, d2] => { results := [.lit (.bool true)], args := [d1, d2] }
  | _ => none }
def fnOverlapOrderRow : OpenClaim := { program := "ytgcleaakmjonaaa", sum := "829c142ffa5ad952c8f35af38ba5f0cdf32f3a82273b2ca8000087f9b720b6f2", func := "loop.example/pub-g01459/laws.FnOverlapOrder", spec := "fnOverlapOrder", apart := false }
def FnOverlapOrderSaid : Prop := fnOverlapOrderRow.holds Try.pinned (OpenSpec.ofChange fnOverlapOrderSpec)

/-- ITS FALSE NEIGHBOUR: 'it returns false'. Refute it at one input. -/
def fnOverlapOrderWrong : ChangeSpec := { name := "fnOverlapOrder", fn := fun _ => fun
  | [d1, d2] => { results := [.lit (.bool false)], args := [d1, d2] }
  | _ => none }
def FnOverlapOrderWrongFalsely : Prop := fnOverlapOrderRow.holds Try.pinned (OpenSpec.ofChange fnOverlapOrderWrong)

/-- 'laws.FnAdjacentApart': WHATEVER THE INPUT: true; the input reads as it did. -/
def fnAdjacentApartSpec : ChangeSpec := { name := "fnAdjacentApart", fn := fun _ => fun
  | [d1, d2] => { results := [.lit (.bool true)], args := [d1, d2] }
  | _ => none }
def fnAdjacentApartRow : OpenClaim := { program := "ytgcleaakmjonaaa", sum := "829c142ffa5ad952c8f35af38ba5f0cdf32f3a82273b2ca8000087f9b720b6f2", func := "loop.example/pub-g01459/laws.FnAdjacentApart", spec := "fnAdjacentApart", apart := false }
def FnAdjacentApartSaid : Prop := fnAdjacentApartRow.holds Try.pinned (OpenSpec.ofChange fnAdjacentApartSpec)

/-- ITS FALSE NEIGHBOUR: 'it returns false'. Refute it at one input. -/
def fnAdjacentApartWrong : ChangeSpec := { name := "fnAdjacentApart", fn := fun _ => fun
  | [d1, d2] => { results := [.lit (.bool false)], args := [d1, d2] }
  | _ => none }
def FnAdjacentApartWrongFalsely : Prop := fnAdjacentApartRow.holds Try.pinned (OpenSpec.ofChange fnAdjacentApartWrong)

/-- 'laws.FnMergeIntoPlaces': WHATEVER THE INPUT: true; the input reads as it did. -/
def fnMergeIntoPlacesSpec : ChangeSpec := { name := "fnMergeIntoPlaces", fn := fun _ => fun
  | [d1, d2, d3] => { results := [.lit (.bool true)], args := [d1, d2, d3] }
  | _ => none }
def fnMergeIntoPlacesRow : OpenClaim := { program := "ytgcleaakmjonaaa", sum := "829c142ffa5ad952c8f35af38ba5f0cdf32f3a82273b2ca8000087f9b720b6f2", func := "loop.example/pub-g01459/laws.FnMergeIntoPlaces", spec := "fnMergeIntoPlaces", apart := false }
def FnMergeIntoPlacesSaid : Prop := fnMergeIntoPlacesRow.holds Try.pinned (OpenSpec.ofChange fnMergeIntoPlacesSpec)

/-- ITS FALSE NEIGHBOUR: 'it returns false'. Refute it at one input. -/
def fnMergeIntoPlacesWrong : ChangeSpec := { name := "fnMergeIntoPlaces", fn := fun _ => fun
  | [d1, d2, d3] => { results := [.lit (.bool false)], args := [d1, d2, d3] }
  | _ => none }
def FnMergeIntoPlacesWrongFalsely : Prop := fnMergeIntoPlacesRow.holds Try.pinned (OpenSpec.ofChange fnMergeIntoPlacesWrong)

/-- 'laws.FnCheckBad': WHATEVER THE INPUT: true; the input reads as it did. -/
def fnCheckBadSpec : ChangeSpec := { name := "fnCheckBad", fn := fun _ => fun
  | [d1, d2] => { results := [.lit (.bool true)], args := [d1, d2] }
  | _ => none }
def fnCheckBadRow : OpenClaim := { program := "ytgcleaakmjonaaa", sum := "829c142ffa5ad952c8f35af38ba5f0cdf32f3a82273b2ca8000087f9b720b6f2", func := "loop.example/pub-g01459/laws.FnCheckBad", spec := "fnCheckBad", apart := false }
def FnCheckBadSaid : Prop := fnCheckBadRow.holds Try.pinned (OpenSpec.ofChange fnCheckBadSpec)

/-- ITS FALSE NEIGHBOUR: 'it returns false'. Refute it at one input. -/
def fnCheckBadWrong : ChangeSpec := { name := "fnCheckBad", fn := fun _ => fun
  | [d1, d2] => { results := [.lit (.bool false)], args := [d1, d2] }
  | _ => none }
def FnCheckBadWrongFalsely : Prop := fnCheckBadRow.holds Try.pinned (OpenSpec.ofChange fnCheckBadWrong)

/-- 'laws.FnPairsRise': WHATEVER THE INPUT: true; the input reads as it did. -/
def fnPairsRiseSpec : ChangeSpec := { name := "fnPairsRise", fn := fun _ => fun
  | [d1, d2] => { results := [.lit (.bool true)], args := [d1, d2] }
  | _ => none }
def fnPairsRiseRow : OpenClaim := { program := "ytgcleaakmjonaaa", sum := "829c142ffa5ad952c8f35af38ba5f0cdf32f3a82273b2ca8000087f9b720b6f2", func := "loop.example/pub-g01459/laws.FnPairsRise", spec := "fnPairsRise", apart := false }
def FnPairsRiseSaid : Prop := fnPairsRiseRow.holds Try.pinned (OpenSpec.ofChange fnPairsRiseSpec)

/-- ITS FALSE NEIGHBOUR: 'it returns false'. Refute it at one input. -/
def fnPairsRiseWrong : ChangeSpec := { name := "fnPairsRise", fn := fun _ => fun
  | [d1, d2] => { results := [.lit (.bool false)], args := [d1, d2] }
  | _ => none }
def FnPairsRiseWrongFalsely : Prop := fnPairsRiseRow.holds Try.pinned (OpenSpec.ofChange fnPairsRiseWrong)

/-- 'laws.FnSetsOverlapIs': WHATEVER THE INPUT: true; the input reads as it did. -/
def fnSetsOverlapIsSpec : ChangeSpec := { name := "fnSetsOverlapIs", fn := fun _ => fun
  | [d1, d2] => { results := [.lit (.bool true)], args := [d1, d2] }
  | _ => none }
def fnSetsOverlapIsRow : OpenClaim := { program := "ytgcleaakmjonaaa", sum := "829c142ffa5ad952c8f35af38ba5f0cdf32f3a82273b2ca8000087f9b720b6f2", func := "loop.example/pub-g01459/laws.FnSetsOverlapIs", spec := "fnSetsOverlapIs", apart := false }
def FnSetsOverlapIsSaid : Prop := fnSetsOverlapIsRow.holds Try.pinned (OpenSpec.ofChange fnSetsOverlapIsSpec)

/-- ITS FALSE NEIGHBOUR: 'it returns false'. Refute it at one input. -/
def fnSetsOverlapIsWrong : ChangeSpec := { name := "fnSetsOverlapIs", fn := fun _ => fun
  | [d1, d2] => { results := [.lit (.bool false)], args := [d1, d2] }
  | _ => none }
def FnSetsOverlapIsWrongFalsely : Prop := fnSetsOverlapIsRow.holds Try.pinned (OpenSpec.ofChange fnSetsOverlapIsWrong)

/-- 'laws.FnSetsOverlapOrder': WHATEVER THE INPUT: true; the input reads as it did. -/
def fnSetsOverlapOrderSpec : ChangeSpec := { name := "fnSetsOverlapOrder", fn := fun _ => fun
  | [d1, d2] => { results := [.lit (.bool true)], args := [d1, d2] }
  | _ => none }
def fnSetsOverlapOrderRow : OpenClaim := { program := "ytgcleaakmjonaaa", sum := "829c142ffa5ad952c8f35af38ba5f0cdf32f3a82273b2ca8000087f9b720b6f2", func := "loop.example/pub-g01459/laws.FnSetsOverlapOrder", spec := "fnSetsOverlapOrder", apart := false }
def FnSetsOverlapOrderSaid : Prop := fnSetsOverlapOrderRow.holds Try.pinned (OpenSpec.ofChange fnSetsOverlapOrderSpec)

/-- ITS FALSE NEIGHBOUR: 'it returns false'. Refute it at one input. -/
def fnSetsOverlapOrderWrong : ChangeSpec := { name := "fnSetsOverlapOrder", fn := fun _ => fun
  | [d1, d2] => { results := [.lit (.bool false)], args := [d1, d2] }
  | _ => none }
def FnSetsOverlapOrderWrongFalsely : Prop := fnSetsOverlapOrderRow.holds Try.pinned (OpenSpec.ofChange fnSetsOverlapOrderWrong)

/- THE SECOND FORM. 'bulk': how many values and letters a reading holds, each counted each time it is reached (what is shared counts as often as it is met; a slice's spare places count too). A statement '..UptoSaid' is the law's where the arguments, and the package variables that the reading takes, are together of bulk at most 1048576: NARROWER than '..Said'. Prove '..Said' where nothing that the law and all that it calls make is longer than what came in: it says more and counts as full. Else prove '..UptoSaid'. A law counts once. -/
mutual
def uptoBulk {H : Type} : DataW H → Nat
  | .lit (.string bytes) => bytes.length + 1
  | .lit _ => 1
  | .nil => 1
  | .ptr d => uptoBulk d + 1
  | .slice elems spare => uptoBulkAll elems + uptoBulkAll spare + 1
  | .agg parts => uptoBulkAll parts + 1
  | .iface _ d => uptoBulk d + 1
  | .map entries => uptoBulkEntries entries + 1
  | .held _ => 1
def uptoBulkAll {H : Type} : List (DataW H) → Nat
  | [] => 0
  | d :: r => uptoBulk d + uptoBulkAll r
def uptoBulkEntries {H : Type} : List (Lit × DataW H) → Nat
  | [] => 0
  | x :: r => uptoBulkEntry x + uptoBulkEntries r
def uptoBulkEntry {H : Type} : Lit × DataW H → Nat
  | (.string bytes, d) => bytes.length + uptoBulk d + 1
  | (_, d) => uptoBulk d + 1
 end
def uptoSmall : (H : Type) → List (DataW H) → Bool := fun _ ds => decide (uptoBulkAll ds ≤ 1048576)
def OpenSpec.upto (s : _root_.Go.ChangeSpec) : _root_.Go.OpenSpec := { _root_.Go.OpenSpec.ofChange s with cond := some uptoSmall }

/-- 'laws.FnOverlapIs', WHERE WHAT IT READS IS OF BULK AT MOST 1048576: true; the input reads as it did. -/
def fnOverlapIsUptoRow : OpenClaim := { program := "ytgcleaakmjonaaa", sum := "829c142ffa5ad952c8f35af38ba5f0cdf32f3a82273b2ca8000087f9b720b6f2", func := "loop.example/pub-g01459/laws.FnOverlapIs", spec := "fnOverlapIs", apart := false, narrowed := true }
def FnOverlapIsUptoSaid : Prop := fnOverlapIsUptoRow.holds Try.pinned (OpenSpec.upto fnOverlapIsSpec)

/-- 'laws.FnOverlapOrder', WHERE WHAT IT READS IS OF BULK AT MOST 1048576: true; the input reads as it did. -/
def fnOverlapOrderUptoRow : OpenClaim := { program := "ytgcleaakmjonaaa", sum := "829c142ffa5ad952c8f35af38ba5f0cdf32f3a82273b2ca8000087f9b720b6f2", func := "loop.example/pub-g01459/laws.FnOverlapOrder", spec := "fnOverlapOrder", apart := false, narrowed := true }
def FnOverlapOrderUptoSaid : Prop := fnOverlapOrderUptoRow.holds Try.pinned (OpenSpec.upto fnOverlapOrderSpec)

/-- 'laws.FnAdjacentApart', WHERE WHAT IT READS IS OF BULK AT MOST 1048576: true; the input reads as it did. -/
def fnAdjacentApartUptoRow : OpenClaim := { program := "ytgcleaakmjonaaa", sum := "829c142ffa5ad952c8f35af38ba5f0cdf32f3a82273b2ca8000087f9b720b6f2", func := "loop.example/pub-g01459/laws.FnAdjacentApart", spec := "fnAdjacentApart", apart := false, narrowed := true }
def FnAdjacentApartUptoSaid : Prop := fnAdjacentApartUptoRow.holds Try.pinned (OpenSpec.upto fnAdjacentApartSpec)

/-- 'laws.FnMergeIntoPlaces', WHERE WHAT IT READS IS OF BULK AT MOST 1048576: true; the input reads as it did. -/
def fnMergeIntoPlacesUptoRow : OpenClaim := { program := "ytgcleaakmjonaaa", sum := "829c142ffa5ad952c8f35af38ba5f0cdf32f3a82273b2ca8000087f9b720b6f2", func := "loop.example/pub-g01459/laws.FnMergeIntoPlaces", spec := "fnMergeIntoPlaces", apart := false, narrowed := true }
def FnMergeIntoPlacesUptoSaid : Prop := fnMergeIntoPlacesUptoRow.holds Try.pinned (OpenSpec.upto fnMergeIntoPlacesSpec)

/-- 'laws.FnCheckBad', WHERE WHAT IT READS IS OF BULK AT MOST 1048576: true; the input reads as it did. -/
def fnCheckBadUptoRow : OpenClaim := { program := "ytgcleaakmjonaaa", sum := "829c142ffa5ad952c8f35af38ba5f0cdf32f3a82273b2ca8000087f9b720b6f2", func := "loop.example/pub-g01459/laws.FnCheckBad", spec := "fnCheckBad", apart := false, narrowed := true }
def FnCheckBadUptoSaid : Prop := fnCheckBadUptoRow.holds Try.pinned (OpenSpec.upto fnCheckBadSpec)

/-- 'laws.FnPairsRise', WHERE WHAT IT READS IS OF BULK AT MOST 1048576: true; the input reads as it did. -/
def fnPairsRiseUptoRow : OpenClaim := { program := "ytgcleaakmjonaaa", sum := "829c142ffa5ad952c8f35af38ba5f0cdf32f3a82273b2ca8000087f9b720b6f2", func := "loop.example/pub-g01459/laws.FnPairsRise", spec := "fnPairsRise", apart := false, narrowed := true }
def FnPairsRiseUptoSaid : Prop := fnPairsRiseUptoRow.holds Try.pinned (OpenSpec.upto fnPairsRiseSpec)

/-- 'laws.FnSetsOverlapIs', WHERE WHAT IT READS IS OF BULK AT MOST 1048576: true; the input reads as it did. -/
def fnSetsOverlapIsUptoRow : OpenClaim := { program := "ytgcleaakmjonaaa", sum := "829c142ffa5ad952c8f35af38ba5f0cdf32f3a82273b2ca8000087f9b720b6f2", func := "loop.example/pub-g01459/laws.FnSetsOverlapIs", spec := "fnSetsOverlapIs", apart := false, narrowed := true }
def FnSetsOverlapIsUptoSaid : Prop := fnSetsOverlapIsUptoRow.holds Try.pinned (OpenSpec.upto fnSetsOverlapIsSpec)

/-- 'laws.FnSetsOverlapOrder', WHERE WHAT IT READS IS OF BULK AT MOST 1048576: true; the input reads as it did. -/
def fnSetsOverlapOrderUptoRow : OpenClaim := { program := "ytgcleaakmjonaaa", sum := "829c142ffa5ad952c8f35af38ba5f0cdf32f3a82273b2ca8000087f9b720b6f2", func := "loop.example/pub-g01459/laws.FnSetsOverlapOrder", spec := "fnSetsOverlapOrder", apart := false, narrowed := true }
def FnSetsOverlapOrderUptoSaid : Prop := fnSetsOverlapOrderUptoRow.holds Try.pinned (OpenSpec.upto fnSetsOverlapOrderSpec)

end Rows
end Go.Proofs.Ytgcleaakmjonaaa
