/-
  DERIVED. GIVEN WITH THE SEED: THE CARDS: each row of YtjkhfdekmpaoiaaDoorRows.lean that lists a variable, with what it lists TIED to the program's text (the seventh form; the later family's looks); each row that meets fmt, with fmt's text TOLD by the authors' own Lean function (tested against real Go, not proved from fmt's source: count such statements apart). THE CARD IS WHAT COUNTS. Prove the row's statement (the work); the ties are given (YtjkhfdekmpaoiaaDoorTie.lean); close each card by the builder's one call (the guide's Derived/Test/ToyasCard.lean, 'card_holds'). Laid BY PROGRAM, IN A SANDBOX (cutbox-door.mjs). By AI agents, Wed Nov 11 2026. No macro, syntax, notation, axiom, sorry.
-/
import Derived.Test.YtjkhfdekmpaoiaaDoorRows
import GoSem.ClaimSeven
namespace Go.Proofs.YtjkhfdekmpaoiaaDoor
namespace Rows

/-- THE TIED CARD OF 'laws.FnStripped'. -/
def fnStrippedCard : Claim7 := { stood := { row := fnStrippedRow, standIns := [], harness := (true, "ef036f63c5a986b76253e8a25dad148628c4f80fe501b912fd5ca6e1a58df626"), looks := true }, kinds := [], alts := [], laidByText := true, laidKinds := [.data, .data, .data, .data], laidTests := true, laidLooks := .later }
def FnStrippedCardSaid : Prop := Claim7.holds Tryd.pinned (.plain (OpenSpec.ofChange fnStrippedSpec)) fnStrippedCard

/-- THE TIED CARD OF 'laws.FnUnpacked'. -/
def fnUnpackedCard : Claim7 := { stood := { row := fnUnpackedRow, standIns := [], harness := (true, "ef036f63c5a986b76253e8a25dad148628c4f80fe501b912fd5ca6e1a58df626"), looks := true }, kinds := [], alts := [], laidByText := true, laidKinds := [.data, .data, .data, .data], laidTests := true, laidLooks := .later }
def FnUnpackedCardSaid : Prop := Claim7.holds Tryd.pinned (.plain (OpenSpec.ofChange fnUnpackedSpec)) fnUnpackedCard

/-- THE SECOND FORM's CARD OF 'laws.FnStripped'. -/
def fnStrippedUptoCard : Claim7 := { stood := { row := fnStrippedUptoRow, standIns := [], harness := (true, "ef036f63c5a986b76253e8a25dad148628c4f80fe501b912fd5ca6e1a58df626"), looks := true }, kinds := [], alts := [], laidByText := true, laidKinds := [.data, .data, .data, .data], laidTests := true, laidLooks := .later }
def FnStrippedUptoCardSaid : Prop := Claim7.holds Tryd.pinned (.plain (OpenSpec.upto fnStrippedSpec)) fnStrippedUptoCard

/-- THE SECOND FORM's CARD OF 'laws.FnUnpacked'. -/
def fnUnpackedUptoCard : Claim7 := { stood := { row := fnUnpackedUptoRow, standIns := [], harness := (true, "ef036f63c5a986b76253e8a25dad148628c4f80fe501b912fd5ca6e1a58df626"), looks := true }, kinds := [], alts := [], laidByText := true, laidKinds := [.data, .data, .data, .data], laidTests := true, laidLooks := .later }
def FnUnpackedUptoCardSaid : Prop := Claim7.holds Tryd.pinned (.plain (OpenSpec.upto fnUnpackedSpec)) fnUnpackedUptoCard
end Rows
end Go.Proofs.YtjkhfdekmpaoiaaDoor
