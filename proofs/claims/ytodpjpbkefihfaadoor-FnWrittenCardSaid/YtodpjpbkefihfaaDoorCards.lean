/-
  DERIVED. GIVEN WITH THE SEED: THE CARDS: each row of YtodpjpbkefihfaaDoorRows.lean that lists a variable, with what it lists TIED to the program's text (the seventh form; the later family's looks); each row that meets fmt, with fmt's text TOLD by the authors' own Lean function (tested against real Go, not proved from fmt's source: count such statements apart). THE CARD IS WHAT COUNTS. Prove the row's statement (the work); the ties are given (YtodpjpbkefihfaaDoorTie.lean); close each card by the builder's one call (the guide's Derived/Test/ToyasCard.lean, 'card_holds'). Laid BY PROGRAM, IN A SANDBOX (cutbox-door.mjs). By AI agents, Wed Nov 11 2026. No macro, syntax, notation, axiom, sorry.
-/
import Derived.Test.YtodpjpbkefihfaaDoorRows
import GoSem.ClaimSeven
namespace Go.Proofs.YtodpjpbkefihfaaDoor
namespace Rows

/-- THE TIED CARD OF 'laws.FnToNumber'. -/
def fnToNumberCard : Claim7 := { stood := { row := fnToNumberRow, standIns := [], harness := (true, "96216d5fb9b882bded2c39ff06f0689498857164864577b58909a2442f9c5962"), looks := true }, kinds := [], alts := [], laidByText := true, laidKinds := [.data, .data, .widerDeep, .widerDeep, .data, .data, .data, .data, .data, .sentinel, .sentinel, .pinned, .pinned], laidTests := true, laidLooks := .later }
def FnToNumberCardSaid : Prop := Claim7.holds Tryd.pinned (.plain (OpenSpec.ofChange fnToNumberSpec)) fnToNumberCard

/-- THE TIED CARD OF 'laws.FnToTruth'. -/
def fnToTruthCard : Claim7 := { stood := { row := fnToTruthRow, standIns := [], harness := (true, "96216d5fb9b882bded2c39ff06f0689498857164864577b58909a2442f9c5962"), looks := true }, kinds := [], alts := [], laidByText := true, laidKinds := [.data, .data, .widerDeep, .widerDeep, .data, .data, .data, .data, .data, .sentinel, .sentinel, .pinned, .pinned], laidTests := true, laidLooks := .later }
def FnToTruthCardSaid : Prop := Claim7.holds Tryd.pinned (.plain (OpenSpec.ofChange fnToTruthSpec)) fnToTruthCard

/-- THE TIED CARD OF 'laws.FnWritten'. -/
def fnWrittenCard : Claim7 := { stood := { row := fnWrittenRow, standIns := [], harness := (true, "96216d5fb9b882bded2c39ff06f0689498857164864577b58909a2442f9c5962"), looks := true }, kinds := [], alts := [], laidByText := true, laidKinds := [.data, .data, .data, .data, .pinned, .pinned], laidTests := true, laidLooks := .later }
def FnWrittenCardSaid : Prop := Claim7.holds Tryd.pinned (.plain (OpenSpec.ofChange fnWrittenSpec)) fnWrittenCard

/-- THE SECOND FORM's CARD OF 'laws.FnToNumber'. -/
def fnToNumberUptoCard : Claim7 := { stood := { row := fnToNumberUptoRow, standIns := [], harness := (true, "96216d5fb9b882bded2c39ff06f0689498857164864577b58909a2442f9c5962"), looks := true }, kinds := [], alts := [], laidByText := true, laidKinds := [.data, .data, .widerDeep, .widerDeep, .data, .data, .data, .data, .data, .sentinel, .sentinel, .pinned, .pinned], laidTests := true, laidLooks := .later }
def FnToNumberUptoCardSaid : Prop := Claim7.holds Tryd.pinned (.plain (OpenSpec.upto fnToNumberSpec)) fnToNumberUptoCard

/-- THE SECOND FORM's CARD OF 'laws.FnToTruth'. -/
def fnToTruthUptoCard : Claim7 := { stood := { row := fnToTruthUptoRow, standIns := [], harness := (true, "96216d5fb9b882bded2c39ff06f0689498857164864577b58909a2442f9c5962"), looks := true }, kinds := [], alts := [], laidByText := true, laidKinds := [.data, .data, .widerDeep, .widerDeep, .data, .data, .data, .data, .data, .sentinel, .sentinel, .pinned, .pinned], laidTests := true, laidLooks := .later }
def FnToTruthUptoCardSaid : Prop := Claim7.holds Tryd.pinned (.plain (OpenSpec.upto fnToTruthSpec)) fnToTruthUptoCard

/-- THE SECOND FORM's CARD OF 'laws.FnWritten'. -/
def fnWrittenUptoCard : Claim7 := { stood := { row := fnWrittenUptoRow, standIns := [], harness := (true, "96216d5fb9b882bded2c39ff06f0689498857164864577b58909a2442f9c5962"), looks := true }, kinds := [], alts := [], laidByText := true, laidKinds := [.data, .data, .data, .data, .pinned, .pinned], laidTests := true, laidLooks := .later }
def FnWrittenUptoCardSaid : Prop := Claim7.holds Tryd.pinned (.plain (OpenSpec.upto fnWrittenSpec)) fnWrittenUptoCard
end Rows
end Go.Proofs.YtodpjpbkefihfaaDoor
