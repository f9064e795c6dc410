/-
  DERIVED. GIVEN WITH THE SEED: THE CARDS: each row of YtaihmpdhaikfkaaGreatDoorRows.lean that lists a variable, with what it lists TIED to the program's text (the seventh form; the later family's looks); each row that meets fmt, with fmt's text TOLD by the authors' own Lean function (tested against real Go, not proved from fmt's source: count such statements apart). THE CARD IS WHAT COUNTS. Prove the row's statement (the work); the ties are given (YtaihmpdhaikfkaaGreatDoorTie.lean); close each card by the builder's one call (the guide's Derived/Test/ToyasCard.lean, 'card_holds'). Laid BY PROGRAM, IN A SANDBOX (cutbox-door.mjs). By AI agents, Wed Nov 11 2026. No macro, syntax, notation, axiom, sorry.
-/
import Derived.Test.YtaihmpdhaikfkaaGreatDoorRows
import GoSem.ClaimSeven
namespace Go.Proofs.YtaihmpdhaikfkaaGreatDoor
namespace Rows

/-- THE TIED CARD OF 'laws.FnFjFloat'. -/
def fnFjFloatCard : Claim7 := { stood := { row := fnFjFloatRow, standIns := [], harness := (true, "c65e92674f2c8c89b4677f96ec71e461d28ec9bb34033acd2f7ac5a6fa9c3f29"), looks := true }, kinds := [], alts := [], laidByText := true, laidKinds := [.data, .data, .widerDeep, .widerDeep, .data, .data, .data, .data, .data, .data, .data, .data, .sentinel, .sentinel, .data, .pinned, .pinned], laidTests := true, laidLooks := .later }
def FnFjFloatCardSaid : Prop := Claim7.holds Tryz.pinned (.plain (OpenSpec.ofChange fnFjFloatSpec)) fnFjFloatCard

/-- THE SECOND FORM's CARD OF 'laws.FnFjFloat'. -/
def fnFjFloatUptoCard : Claim7 := { stood := { row := fnFjFloatUptoRow, standIns := [], harness := (true, "c65e92674f2c8c89b4677f96ec71e461d28ec9bb34033acd2f7ac5a6fa9c3f29"), looks := true }, kinds := [], alts := [], laidByText := true, laidKinds := [.data, .data, .widerDeep, .widerDeep, .data, .data, .data, .data, .data, .data, .data, .data, .sentinel, .sentinel, .data, .pinned, .pinned], laidTests := true, laidLooks := .later }
def FnFjFloatUptoCardSaid : Prop := Claim7.holds Tryz.pinned (.plain (OpenSpec.upto fnFjFloatSpec)) fnFjFloatUptoCard
end Rows
end Go.Proofs.YtaihmpdhaikfkaaGreatDoor
