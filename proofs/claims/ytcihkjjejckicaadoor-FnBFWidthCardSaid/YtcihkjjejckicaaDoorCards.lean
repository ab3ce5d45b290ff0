/-
  DERIVED. GIVEN WITH THE SEED: THE CARDS: each row of YtcihkjjejckicaaDoorRows.lean that lists a variable, with what it lists TIED to the program's text (the seventh form; the later family's looks); each row that meets fmt, with fmt's text TOLD by the authors' own Lean function (tested against real Go, not proved from fmt's source: count such statements apart). THE CARD IS WHAT COUNTS. Prove the row's statement (the work); the ties are given (YtcihkjjejckicaaDoorTie.lean); close each card by the builder's one call (the guide's Derived/Test/ToyasCard.lean, 'card_holds'). Laid BY PROGRAM, IN A SANDBOX (cutbox-door.mjs). By AI agents, Wed Nov 11 2026. No macro, syntax, notation, axiom, sorry.
-/
import Derived.Test.YtcihkjjejckicaaDoorRows
import GoSem.ClaimSeven
namespace Go.Proofs.YtcihkjjejckicaaDoor
namespace Rows

/-- THE TIED CARD OF 'laws.FnBFWidth'. -/
def fnBFWidthCard : Claim7 := { stood := { row := fnBFWidthRow, standIns := [], harness := (true, "10af9739d75b27d4366a97e67601d5077ef7bf43c34f54c66c4dfb95c96722a7"), looks := false }, kinds := [], alts := [], laidByText := true, laidKinds := [.data], laidTests := true, laidLooks := .later }
def FnBFWidthCardSaid : Prop := Claim7.holds Tryd.pinned (.plain (OpenSpec.ofChange fnBFWidthSpec)) fnBFWidthCard

/-- THE TIED CARD OF 'laws.FnZerosShift'. -/
def fnZerosShiftCard : Claim7 := { stood := { row := fnZerosShiftRow, standIns := [], harness := (true, "10af9739d75b27d4366a97e67601d5077ef7bf43c34f54c66c4dfb95c96722a7"), looks := false }, kinds := [], alts := [], laidByText := true, laidKinds := [.data], laidTests := true, laidLooks := .later }
def FnZerosShiftCardSaid : Prop := Claim7.holds Tryd.pinned (.plain (OpenSpec.ofChange fnZerosShiftSpec)) fnZerosShiftCard

/-- THE TIED CARD OF 'laws.FnTrailingZeros'. -/
def fnTrailingZerosCard : Claim7 := { stood := { row := fnTrailingZerosRow, standIns := [], harness := (true, "10af9739d75b27d4366a97e67601d5077ef7bf43c34f54c66c4dfb95c96722a7"), looks := false }, kinds := [], alts := [], laidByText := true, laidKinds := [.data, .data], laidTests := true, laidLooks := .later }
def FnTrailingZerosCardSaid : Prop := Claim7.holds Tryd.pinned (.plain (OpenSpec.ofChange fnTrailingZerosSpec)) fnTrailingZerosCard

/-- THE SECOND FORM's CARD OF 'laws.FnBFWidth'. -/
def fnBFWidthUptoCard : Claim7 := { stood := { row := fnBFWidthUptoRow, standIns := [], harness := (true, "10af9739d75b27d4366a97e67601d5077ef7bf43c34f54c66c4dfb95c96722a7"), looks := false }, kinds := [], alts := [], laidByText := true, laidKinds := [.data], laidTests := true, laidLooks := .later }
def FnBFWidthUptoCardSaid : Prop := Claim7.holds Tryd.pinned (.plain (OpenSpec.upto fnBFWidthSpec)) fnBFWidthUptoCard

/-- THE SECOND FORM's CARD OF 'laws.FnZerosShift'. -/
def fnZerosShiftUptoCard : Claim7 := { stood := { row := fnZerosShiftUptoRow, standIns := [], harness := (true, "10af9739d75b27d4366a97e67601d5077ef7bf43c34f54c66c4dfb95c96722a7"), looks := false }, kinds := [], alts := [], laidByText := true, laidKinds := [.data], laidTests := true, laidLooks := .later }
def FnZerosShiftUptoCardSaid : Prop := Claim7.holds Tryd.pinned (.plain (OpenSpec.upto fnZerosShiftSpec)) fnZerosShiftUptoCard

/-- THE SECOND FORM's CARD OF 'laws.FnTrailingZeros'. -/
def fnTrailingZerosUptoCard : Claim7 := { stood := { row := fnTrailingZerosUptoRow, standIns := [], harness := (true, "10af9739d75b27d4366a97e67601d5077ef7bf43c34f54c66c4dfb95c96722a7"), looks := false }, kinds := [], alts := [], laidByText := true, laidKinds := [.data, .data], laidTests := true, laidLooks := .later }
def FnTrailingZerosUptoCardSaid : Prop := Claim7.holds Tryd.pinned (.plain (OpenSpec.upto fnTrailingZerosSpec)) fnTrailingZerosUptoCard
end Rows
end Go.Proofs.YtcihkjjejckicaaDoor
