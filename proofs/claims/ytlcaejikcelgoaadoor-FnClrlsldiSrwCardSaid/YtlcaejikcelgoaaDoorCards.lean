/-
  DERIVED. GIVEN WITH THE SEED: THE CARDS: each row of YtlcaejikcelgoaaDoorRows.lean that lists a variable, with what it lists TIED to the program's text (the seventh form; the later family's looks); each row that meets fmt, with fmt's text TOLD by the authors' own Lean function (tested against real Go, not proved from fmt's source: count such statements apart). THE CARD IS WHAT COUNTS. Prove the row's statement (the work); the ties are given (YtlcaejikcelgoaaDoorTie.lean); close each card by the builder's one call (the guide's Derived/Test/ToyasCard.lean, 'card_holds'). Laid BY PROGRAM, IN A SANDBOX (cutbox-door.mjs). By AI agents, Wed Nov 11 2026. No macro, syntax, notation, axiom, sorry.
-/
import Derived.Test.YtlcaejikcelgoaaDoorRows
import GoSem.ClaimSeven
namespace Go.Proofs.YtlcaejikcelgoaaDoor
namespace Rows

/-- THE TIED CARD OF 'laws.FnEncodeForm'. -/
def fnEncodeFormCard : Claim7 := { stood := { row := fnEncodeFormRow, standIns := [], harness := (true, "e2f7d20919a037ee4c7a1336e6eba418945f5e711b864cdb0a938071beb72a1d"), looks := false }, kinds := [], alts := [], laidByText := true, laidKinds := [.data, .data], laidTests := true, laidLooks := .later }
def FnEncodeFormCardSaid : Prop := Claim7.holds Tryd.pinned (.plain (OpenSpec.ofChange fnEncodeFormSpec)) fnEncodeFormCard

/-- THE TIED CARD OF 'laws.FnEncodeDecode32'. -/
def fnEncodeDecode32Card : Claim7 := { stood := { row := fnEncodeDecode32Row, standIns := [], harness := (true, "e2f7d20919a037ee4c7a1336e6eba418945f5e711b864cdb0a938071beb72a1d"), looks := false }, kinds := [], alts := [], laidByText := true, laidKinds := [.data, .data], laidTests := true, laidLooks := .later }
def FnEncodeDecode32CardSaid : Prop := Claim7.holds Tryd.pinned (.plain (OpenSpec.ofChange fnEncodeDecode32Spec)) fnEncodeDecode32Card

/-- THE TIED CARD OF 'laws.FnRldiclSrd'. -/
def fnRldiclSrdCard : Claim7 := { stood := { row := fnRldiclSrdRow, standIns := [], harness := (true, "e2f7d20919a037ee4c7a1336e6eba418945f5e711b864cdb0a938071beb72a1d"), looks := false }, kinds := [], alts := [], laidByText := true, laidKinds := [.data, .data], laidTests := true, laidLooks := .later }
def FnRldiclSrdCardSaid : Prop := Claim7.holds Tryd.pinned (.plain (OpenSpec.ofChange fnRldiclSrdSpec)) fnRldiclSrdCard

/-- THE TIED CARD OF 'laws.FnClrlsldiSrw'. -/
def fnClrlsldiSrwCard : Claim7 := { stood := { row := fnClrlsldiSrwRow, standIns := [], harness := (true, "e2f7d20919a037ee4c7a1336e6eba418945f5e711b864cdb0a938071beb72a1d"), looks := false }, kinds := [], alts := [], laidByText := true, laidKinds := [.data, .data], laidTests := true, laidLooks := .later }
def FnClrlsldiSrwCardSaid : Prop := Claim7.holds Tryd.pinned (.plain (OpenSpec.ofChange fnClrlsldiSrwSpec)) fnClrlsldiSrwCard

/-- THE TIED CARD OF 'laws.FnClrlsldiRlwinm'. -/
def fnClrlsldiRlwinmCard : Claim7 := { stood := { row := fnClrlsldiRlwinmRow, standIns := [], harness := (true, "e2f7d20919a037ee4c7a1336e6eba418945f5e711b864cdb0a938071beb72a1d"), looks := false }, kinds := [], alts := [], laidByText := true, laidKinds := [.data, .data], laidTests := true, laidLooks := .later }
def FnClrlsldiRlwinmCardSaid : Prop := Claim7.holds Tryd.pinned (.plain (OpenSpec.ofChange fnClrlsldiRlwinmSpec)) fnClrlsldiRlwinmCard

/-- THE TIED CARD OF 'laws.FnAndSrwi'. -/
def fnAndSrwiCard : Claim7 := { stood := { row := fnAndSrwiRow, standIns := [], harness := (true, "e2f7d20919a037ee4c7a1336e6eba418945f5e711b864cdb0a938071beb72a1d"), looks := false }, kinds := [], alts := [], laidByText := true, laidKinds := [.data, .data], laidTests := true, laidLooks := .later }
def FnAndSrwiCardSaid : Prop := Claim7.holds Tryd.pinned (.plain (OpenSpec.ofChange fnAndSrwiSpec)) fnAndSrwiCard

/-- THE TIED CARD OF 'laws.FnAndRlwinm'. -/
def fnAndRlwinmCard : Claim7 := { stood := { row := fnAndRlwinmRow, standIns := [], harness := (true, "e2f7d20919a037ee4c7a1336e6eba418945f5e711b864cdb0a938071beb72a1d"), looks := false }, kinds := [], alts := [], laidByText := true, laidKinds := [.data, .data], laidTests := true, laidLooks := .later }
def FnAndRlwinmCardSaid : Prop := Claim7.holds Tryd.pinned (.plain (OpenSpec.ofChange fnAndRlwinmSpec)) fnAndRlwinmCard

/-- THE TIED CARD OF 'laws.FnSldiRlwinm'. -/
def fnSldiRlwinmCard : Claim7 := { stood := { row := fnSldiRlwinmRow, standIns := [], harness := (true, "e2f7d20919a037ee4c7a1336e6eba418945f5e711b864cdb0a938071beb72a1d"), looks := false }, kinds := [], alts := [], laidByText := true, laidKinds := [.data, .data], laidTests := true, laidLooks := .later }
def FnSldiRlwinmCardSaid : Prop := Claim7.holds Tryd.pinned (.plain (OpenSpec.ofChange fnSldiRlwinmSpec)) fnSldiRlwinmCard

/-- THE TIED CARD OF 'laws.FnAndSldi'. -/
def fnAndSldiCard : Claim7 := { stood := { row := fnAndSldiRow, standIns := [], harness := (true, "e2f7d20919a037ee4c7a1336e6eba418945f5e711b864cdb0a938071beb72a1d"), looks := false }, kinds := [], alts := [], laidByText := true, laidKinds := [.data, .data], laidTests := true, laidLooks := .later }
def FnAndSldiCardSaid : Prop := Claim7.holds Tryd.pinned (.plain (OpenSpec.ofChange fnAndSldiSpec)) fnAndSldiCard

/-- THE SECOND FORM's CARD OF 'laws.FnEncodeForm'. -/
def fnEncodeFormUptoCard : Claim7 := { stood := { row := fnEncodeFormUptoRow, standIns := [], harness := (true, "e2f7d20919a037ee4c7a1336e6eba418945f5e711b864cdb0a938071beb72a1d"), looks := false }, kinds := [], alts := [], laidByText := true, laidKinds := [.data, .data], laidTests := true, laidLooks := .later }
def FnEncodeFormUptoCardSaid : Prop := Claim7.holds Tryd.pinned (.plain (OpenSpec.upto fnEncodeFormSpec)) fnEncodeFormUptoCard

/-- THE SECOND FORM's CARD OF 'laws.FnEncodeDecode32'. -/
def fnEncodeDecode32UptoCard : Claim7 := { stood := { row := fnEncodeDecode32UptoRow, standIns := [], harness := (true, "e2f7d20919a037ee4c7a1336e6eba418945f5e711b864cdb0a938071beb72a1d"), looks := false }, kinds := [], alts := [], laidByText := true, laidKinds := [.data, .data], laidTests := true, laidLooks := .later }
def FnEncodeDecode32UptoCardSaid : Prop := Claim7.holds Tryd.pinned (.plain (OpenSpec.upto fnEncodeDecode32Spec)) fnEncodeDecode32UptoCard

/-- THE SECOND FORM's CARD OF 'laws.FnRldiclSrd'. -/
def fnRldiclSrdUptoCard : Claim7 := { stood := { row := fnRldiclSrdUptoRow, standIns := [], harness := (true, "e2f7d20919a037ee4c7a1336e6eba418945f5e711b864cdb0a938071beb72a1d"), looks := false }, kinds := [], alts := [], laidByText := true, laidKinds := [.data, .data], laidTests := true, laidLooks := .later }
def FnRldiclSrdUptoCardSaid : Prop := Claim7.holds Tryd.pinned (.plain (OpenSpec.upto fnRldiclSrdSpec)) fnRldiclSrdUptoCard

/-- THE SECOND FORM's CARD OF 'laws.FnClrlsldiSrw'. -/
def fnClrlsldiSrwUptoCard : Claim7 := { stood := { row := fnClrlsldiSrwUptoRow, standIns := [], harness := (true, "e2f7d20919a037ee4c7a1336e6eba418945f5e711b864cdb0a938071beb72a1d"), looks := false }, kinds := [], alts := [], laidByText := true, laidKinds := [.data, .data], laidTests := true, laidLooks := .later }
def FnClrlsldiSrwUptoCardSaid : Prop := Claim7.holds Tryd.pinned (.plain (OpenSpec.upto fnClrlsldiSrwSpec)) fnClrlsldiSrwUptoCard

/-- THE SECOND FORM's CARD OF 'laws.FnClrlsldiRlwinm'. -/
def fnClrlsldiRlwinmUptoCard : Claim7 := { stood := { row := fnClrlsldiRlwinmUptoRow, standIns := [], harness := (true, "e2f7d20919a037ee4c7a1336e6eba418945f5e711b864cdb0a938071beb72a1d"), looks := false }, kinds := [], alts := [], laidByText := true, laidKinds := [.data, .data], laidTests := true, laidLooks := .later }
def FnClrlsldiRlwinmUptoCardSaid : Prop := Claim7.holds Tryd.pinned (.plain (OpenSpec.upto fnClrlsldiRlwinmSpec)) fnClrlsldiRlwinmUptoCard

/-- THE SECOND FORM's CARD OF 'laws.FnAndSrwi'. -/
def fnAndSrwiUptoCard : Claim7 := { stood := { row := fnAndSrwiUptoRow, standIns := [], harness := (true, "e2f7d20919a037ee4c7a1336e6eba418945f5e711b864cdb0a938071beb72a1d"), looks := false }, kinds := [], alts := [], laidByText := true, laidKinds := [.data, .data], laidTests := true, laidLooks := .later }
def FnAndSrwiUptoCardSaid : Prop := Claim7.holds Tryd.pinned (.plain (OpenSpec.upto fnAndSrwiSpec)) fnAndSrwiUptoCard

/-- THE SECOND FORM's CARD OF 'laws.FnAndRlwinm'. -/
def fnAndRlwinmUptoCard : Claim7 := { stood := { row := fnAndRlwinmUptoRow, standIns := [], harness := (true, "e2f7d20919a037ee4c7a1336e6eba418945f5e711b864cdb0a938071beb72a1d"), looks := false }, kinds := [], alts := [], laidByText := true, laidKinds := [.data, .data], laidTests := true, laidLooks := .later }
def FnAndRlwinmUptoCardSaid : Prop := Claim7.holds Tryd.pinned (.plain (OpenSpec.upto fnAndRlwinmSpec)) fnAndRlwinmUptoCard

/-- THE SECOND FORM's CARD OF 'laws.FnSldiRlwinm'. -/
def fnSldiRlwinmUptoCard : Claim7 := { stood := { row := fnSldiRlwinmUptoRow, standIns := [], harness := (true, "e2f7d20919a037ee4c7a1336e6eba418945f5e711b864cdb0a938071beb72a1d"), looks := false }, kinds := [], alts := [], laidByText := true, laidKinds := [.data, .data], laidTests := true, laidLooks := .later }
def FnSldiRlwinmUptoCardSaid : Prop := Claim7.holds Tryd.pinned (.plain (OpenSpec.upto fnSldiRlwinmSpec)) fnSldiRlwinmUptoCard

/-- THE SECOND FORM's CARD OF 'laws.FnAndSldi'. -/
def fnAndSldiUptoCard : Claim7 := { stood := { row := fnAndSldiUptoRow, standIns := [], harness := (true, "e2f7d20919a037ee4c7a1336e6eba418945f5e711b864cdb0a938071beb72a1d"), looks := false }, kinds := [], alts := [], laidByText := true, laidKinds := [.data, .data], laidTests := true, laidLooks := .later }
def FnAndSldiUptoCardSaid : Prop := Claim7.holds Tryd.pinned (.plain (OpenSpec.upto fnAndSldiSpec)) fnAndSldiUptoCard
end Rows
end Go.Proofs.YtlcaejikcelgoaaDoor
