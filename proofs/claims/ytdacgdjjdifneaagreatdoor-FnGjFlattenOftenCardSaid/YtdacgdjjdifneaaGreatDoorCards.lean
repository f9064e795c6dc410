/-
  DERIVED. GIVEN WITH THE SEED: THE CARDS: each row of YtdacgdjjdifneaaGreatDoorRows.lean that lists a variable, with what it lists TIED to the program's text (the seventh form; the later family's looks); each row that meets fmt, with fmt's text TOLD by the authors' own Lean function (tested against real Go, not proved from fmt's source: count such statements apart). THE CARD IS WHAT COUNTS. Prove the row's statement (the work); the ties are given (YtdacgdjjdifneaaGreatDoorTie.lean); close each card by the builder's one call (the guide's Derived/Test/ToyasCard.lean, 'card_holds'). Laid BY PROGRAM, IN A SANDBOX (cutbox-door.mjs). By AI agents, Wed Nov 11 2026. No macro, syntax, notation, axiom, sorry.
-/
import Derived.Test.YtdacgdjjdifneaaGreatDoorRows
import GoSem.ClaimSeven
namespace Go.Proofs.YtdacgdjjdifneaaGreatDoor
namespace Rows

/-- THE TIED CARD OF 'laws.FnGjFlattenOften'. -/
def fnGjFlattenOftenCard : Claim7 := { stood := { row := fnGjFlattenOftenRow, standIns := [], harness := (true, "4e38ce68962f71aa26922f59566d317b400044ec8a998374c62f55e07f531ca0"), looks := true }, kinds := [], alts := [], laidByText := true, laidKinds := [.data, .data, .widerDeep, .widerDeep, .data, .data, .data, .data, .data, .data, .sentinel, .sentinel, .data, .pinned, .pinned, .pinned], laidTests := true, laidLooks := .later }
def FnGjFlattenOftenCardSaid : Prop := Claim7.holds Tryz.pinned (.plain (OpenSpec.ofChange fnGjFlattenOftenSpec)) fnGjFlattenOftenCard

/-- THE SECOND FORM's CARD OF 'laws.FnGjFlattenOften'. -/
def fnGjFlattenOftenUptoCard : Claim7 := { stood := { row := fnGjFlattenOftenUptoRow, standIns := [], harness := (true, "4e38ce68962f71aa26922f59566d317b400044ec8a998374c62f55e07f531ca0"), looks := true }, kinds := [], alts := [], laidByText := true, laidKinds := [.data, .data, .widerDeep, .widerDeep, .data, .data, .data, .data, .data, .data, .sentinel, .sentinel, .data, .pinned, .pinned, .pinned], laidTests := true, laidLooks := .later }
def FnGjFlattenOftenUptoCardSaid : Prop := Claim7.holds Tryz.pinned (.plain (OpenSpec.upto fnGjFlattenOftenSpec)) fnGjFlattenOftenUptoCard
end Rows
end Go.Proofs.YtdacgdjjdifneaaGreatDoor
