/-
  DERIVED. GIVEN WITH THE SEED: THE CARDS: each row of YthfjakbpeclfcaaGreatDoorRows.lean that lists a variable, with what it lists TIED to the program's text (the seventh form; the later family's looks); each row that meets fmt, with fmt's text TOLD by the authors' own Lean function (tested against real Go, not proved from fmt's source: count such statements apart). THE CARD IS WHAT COUNTS. Prove the row's statement (the work); the ties are given (YthfjakbpeclfcaaGreatDoorTie.lean); close each card by the builder's one call (the guide's Derived/Test/ToyasCard.lean, 'card_holds'). Laid BY PROGRAM, IN A SANDBOX (cutbox-door.mjs). By AI agents, Wed Nov 11 2026. No macro, syntax, notation, axiom, sorry.
-/
import Derived.Test.YthfjakbpeclfcaaGreatDoorRows
import GoSem.ClaimSeven
namespace Go.Proofs.YthfjakbpeclfcaaGreatDoor
namespace Rows

/-- THE TIED CARD OF 'laws.FnPolygonBody'. -/
def fnPolygonBodyCard : Claim7 := { stood := { row := fnPolygonBodyRow, standIns := [], harness := (true, "e9abfb2108e9688708430add94953988966a72f15850ee577a3e9a4b4b0f65eb"), looks := true }, kinds := [], alts := [], laidByText := true, laidKinds := [.data, .data, .widerDeep, .widerDeep, .data, .data, .data, .data, .data, .data, .sentinel, .sentinel, .sentinel, .sentinel, .data, .pinned, .pinned, .pinned], laidTests := true, laidLooks := .later }
def FnPolygonBodyCardSaid : Prop := Claim7.holds Tryz.pinned (.plain (OpenSpec.ofChange fnPolygonBodySpec)) fnPolygonBodyCard

/-- THE SECOND FORM's CARD OF 'laws.FnPolygonBody'. -/
def fnPolygonBodyUptoCard : Claim7 := { stood := { row := fnPolygonBodyUptoRow, standIns := [], harness := (true, "e9abfb2108e9688708430add94953988966a72f15850ee577a3e9a4b4b0f65eb"), looks := true }, kinds := [], alts := [], laidByText := true, laidKinds := [.data, .data, .widerDeep, .widerDeep, .data, .data, .data, .data, .data, .data, .sentinel, .sentinel, .sentinel, .sentinel, .data, .pinned, .pinned, .pinned], laidTests := true, laidLooks := .later }
def FnPolygonBodyUptoCardSaid : Prop := Claim7.holds Tryz.pinned (.plain (OpenSpec.upto fnPolygonBodySpec)) fnPolygonBodyUptoCard
end Rows
end Go.Proofs.YthfjakbpeclfcaaGreatDoor
