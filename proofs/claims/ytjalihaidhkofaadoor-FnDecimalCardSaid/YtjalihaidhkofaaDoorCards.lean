/-
  DERIVED. GIVEN WITH THE SEED: THE CARDS: each row of YtjalihaidhkofaaDoorRows.lean that lists a variable, with what it lists TIED to the program's text (the seventh form; the later family's looks); each row that meets fmt, with fmt's text TOLD by the authors' own Lean function (tested against real Go, not proved from fmt's source: count such statements apart). THE CARD IS WHAT COUNTS. Prove the row's statement (the work); the ties are given (YtjalihaidhkofaaDoorTie.lean); close each card by the builder's one call (the guide's Derived/Test/ToyasCard.lean, 'card_holds'). Laid BY PROGRAM, IN A SANDBOX (cutbox-door.mjs). By AI agents, Wed Nov 11 2026. No macro, syntax, notation, axiom, sorry.
-/
import Derived.Test.YtjalihaidhkofaaDoorRows
import GoSem.ClaimSeven
namespace Go.Proofs.YtjalihaidhkofaaDoor
namespace Rows

/-- THE TIED CARD OF 'laws.FnDecimal'. -/
def fnDecimalCard : Claim7 := { stood := { row := fnDecimalRow, standIns := [], harness := (true, "c42043d203dd86eca15065383c7f771c35e8420075845a0651eec64ce2d71e57"), looks := true }, kinds := [], alts := [], laidByText := true, laidKinds := [.data, .data, .widerDeep, .widerDeep, .data, .data, .data, .data, .data, .sentinel, .sentinel, .pinned, .pinned], laidTests := true, laidLooks := .later }
def FnDecimalCardSaid : Prop := Claim7.holds Tryd.pinned (.plain (OpenSpec.ofChange fnDecimalSpec)) fnDecimalCard

/-- THE SECOND FORM's CARD OF 'laws.FnDecimal'. -/
def fnDecimalUptoCard : Claim7 := { stood := { row := fnDecimalUptoRow, standIns := [], harness := (true, "c42043d203dd86eca15065383c7f771c35e8420075845a0651eec64ce2d71e57"), looks := true }, kinds := [], alts := [], laidByText := true, laidKinds := [.data, .data, .widerDeep, .widerDeep, .data, .data, .data, .data, .data, .sentinel, .sentinel, .pinned, .pinned], laidTests := true, laidLooks := .later }
def FnDecimalUptoCardSaid : Prop := Claim7.holds Tryd.pinned (.plain (OpenSpec.upto fnDecimalSpec)) fnDecimalUptoCard
end Rows
end Go.Proofs.YtjalihaidhkofaaDoor
