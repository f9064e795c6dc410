/-
  DERIVED. GIVEN WITH THE SEED: THE CARDS: each row of YthgpfljhmhkaiacGreatDoorRows.lean that lists a variable, with what it lists TIED to the program's text (the seventh form; the later family's looks); each row that meets fmt, with fmt's text TOLD by the authors' own Lean function (tested against real Go, not proved from fmt's source: count such statements apart). THE CARD IS WHAT COUNTS. Prove the row's statement (the work); the ties are given (YthgpfljhmhkaiacGreatDoorTie.lean); close each card by the builder's one call (the guide's Derived/Test/ToyasCard.lean, 'card_holds'). Laid BY PROGRAM, IN A SANDBOX (cutbox-door.mjs). By AI agents, Wed Nov 11 2026. No macro, syntax, notation, axiom, sorry.
-/
import Derived.Test.YthgpfljhmhkaiacGreatDoorRows
import GoSem.ClaimSeven
namespace Go.Proofs.YthgpfljhmhkaiacGreatDoor
namespace Rows

/-- THE TIED CARD OF 'laws.FnJrTypedMisses'. -/
def fnJrTypedMissesCard : Claim7 := { stood := { row := fnJrTypedMissesRow, standIns := [], harness := (true, "d698b1ce495185b410caadf05a42efd28a854bf0d512cd8f46bfa93c1629f7a0"), looks := true }, kinds := [], alts := [], laidByText := true, laidKinds := [.data, .data, .widerDeep, .widerDeep, .data, .data, .data, .data, .data, .sentinel, .sentinel, .data, .data, .sentinel, .sentinel, .sentinel, .sentinel, .sentinel, .sentinel, .sentinel, .sentinel, .sentinel, .sentinel, .pinned, .pinned], laidTests := true, laidLooks := .later }
def FnJrTypedMissesCardSaid : Prop := Claim7.holds Tryz.pinned (.plain (OpenSpec.ofChange fnJrTypedMissesSpec)) fnJrTypedMissesCard

/-- THE SECOND FORM's CARD OF 'laws.FnJrTypedMisses'. -/
def fnJrTypedMissesUptoCard : Claim7 := { stood := { row := fnJrTypedMissesUptoRow, standIns := [], harness := (true, "d698b1ce495185b410caadf05a42efd28a854bf0d512cd8f46bfa93c1629f7a0"), looks := true }, kinds := [], alts := [], laidByText := true, laidKinds := [.data, .data, .widerDeep, .widerDeep, .data, .data, .data, .data, .data, .sentinel, .sentinel, .data, .data, .sentinel, .sentinel, .sentinel, .sentinel, .sentinel, .sentinel, .sentinel, .sentinel, .sentinel, .sentinel, .pinned, .pinned], laidTests := true, laidLooks := .later }
def FnJrTypedMissesUptoCardSaid : Prop := Claim7.holds Tryz.pinned (.plain (OpenSpec.upto fnJrTypedMissesSpec)) fnJrTypedMissesUptoCard
end Rows
end Go.Proofs.YthgpfljhmhkaiacGreatDoor
